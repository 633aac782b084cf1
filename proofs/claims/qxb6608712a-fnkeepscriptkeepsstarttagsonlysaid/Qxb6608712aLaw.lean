import Derived.Test.Qxb6608712aSpec
import Derived.WalkKit
import Derived.ProofKit
import Derived.OpenShut
namespace Go.Proofs.Qxb6608712a
open Go.ChangeShapes Go.WideShapes Go.ChangeAt Go.RowKit
set_option linter.unusedVariables false

/-- the clone's contract, as the law wants it: whatever slice of bytes came in -/
def Cloned (a : Option Addr) (len cap : Nat) (zs : List Int) (w : World) : Prop :=
  Calls Try.prog 5 #[.slice a len cap] w fun e w' => ∃ v, e = .returned v ∧ w'.ownsRow w.heap.size 5 1 v len (zs.map (Value.int .u8)) ∧ Below w.heap.size w w'

/-- no byte came in -/
theorem law_none (a : Option Addr) (cap : Nat) (w : World) (hcl : Cloned a 0 cap [] w) : Calls Try.prog 3 #[.slice a 0 cap] w fun e w' => e = .returned (.bool true) ∧ Below w.heap.size w w' := by
  go_enter Try.func3, Try.ntmps3
  go_wp2_with fail
  refine (zbytes a 0 cap _ (by omega)).mono ?_
  rintro e w' ⟨rfl, rfl⟩
  go_wp2_with fail
  refine (hcl).mono ?_
  rintro e w1 ⟨v, rfl, hown, hbel⟩
  obtain ⟨ao, c, rfl⟩ : ∃ ao c, v = .slice ao 0 c := by
    rcases hown.2 with ⟨rfl, _⟩ | ⟨g, c, cur, rfl, _⟩
    · exact ⟨_, _, rfl⟩
    · exact ⟨_, _, rfl⟩
  clear hown
  go_wp2_with fail
  refine (znew _).mono ?_
  rintro e w2 ⟨rfl, hsrc, hb2⟩
  go_wp2_with fail
  refine wp_loop_rounds 1 ?_
  rw [rounds_succ]
  go_wp2_with fail
  refine (spec_empty ao c _).mono ?_
  rintro e w' ⟨rfl, rfl⟩
  go_wp2_with fail
  refine (zkeeping _ _ _ _ hsrc).mono ?_
  rintro e w' ⟨rfl, rfl⟩
  go_wp2_with fail
  refine (ztag _ _ _ _ hsrc).mono ?_
  rintro e w' ⟨rfl, rfl⟩
  go_wp2_with fail
  refine (same_nil _ _ _ _ _).mono ?_
  rintro e w' ⟨rfl, rfl⟩
  go_wp2
  go_ret
  exact ⟨rfl, hbel.trans (hb2.mono (hbel.size))⟩

/-- the source's state behind k bytes -/
def StateAt (zs : List Int) (S : Nat) (W wr : World) (k : Nat) : Prop :=
  ∃ v, Src S wr v (kn (zs.take k)).2 ∧ wr.ownsRow (S + 1) 5 1 v (kn (zs.take k)).1 ((zs.take (kn (zs.take k)).1).map (Value.int .u8)) ∧ Below S W wr

theorem take_snoc (zs : List Int) (k : Nat) (h : k < zs.length) : zs.take (k + 1) = zs.take k ++ [zs.getD k 0] := by
  rw [List.take_succ_eq_append_getElem h]
  simp [List.getD_eq_getElem?_getD, h]

theorem kn_pos (l : List Int) (h : 0 < l.length) : 0 < (kn l).1 := by
  match l, h with
  | [c], _ => simp [kn]
  | c :: d :: r, _ => simp only [kn]; split <;> (try split) <;> simp

theorem state_zero {zs : List Int} {S : Nat} {W wr : World} (h : Src S wr (.slice none 0 0) true) (hb : Below S W wr) : StateAt zs S W wr 0 :=
  ⟨_, by simpa [kn] using h, by simpa [kn] using World.ownsRow_nil _ _ _ _, hb⟩

theorem state_skip {zs : List Int} {S : Nat} {W wr : World} {k : Nat} (hk : k < zs.length) (h : StateAt zs S W wr k) (hf : (kn (zs.take k)).2 = false) : StateAt zs S W wr (k + 1) := by
  unfold StateAt at h ⊢
  rw [take_snoc zs k hk, kn_false _ _ hf]
  exact h

theorem state_keep {zs : List Int} {S : Nat} {W wr w1 : World} {k : Nat} {v' : Value} {x : Int} (hx : zs.getD k 0 = x) (hk : k < zs.length) (ht : (kn (zs.take k)).2 = true) (hb : Below S W wr) (h1 : Src S w1 v' (kpNew k true x))
    (h2 : w1.ownsRow (S + 1) 5 1 v' (k + 1) ((zs.take k).map (Value.int .u8) ++ [.int .u8 x])) (h3 : Below S wr w1) : StateAt zs S W w1 (k + 1) := by
  subst hx
  have hl : (zs.take k).length = k := by simp; omega
  have e : kn (zs.take (k + 1)) = (k + 1, kpNew k true (zs.getD k 0)) := by rw [take_snoc zs k hk, kn_more _ _ ht, hl]
  unfold StateAt
  rw [e]
  refine ⟨v', h1, ?_, hb.trans h3⟩
  show w1.ownsRow (S + 1) 5 1 v' (k + 1) ((zs.take (k + 1)).map (Value.int .u8))
  rw [take_snoc zs k hk, List.map_append]
  exact h2

set_option maxRecDepth 100000 in
set_option maxHeartbeats 1000000 in
theorem law_some (a : Option Addr) (cap : Nat) (zs : List Int) (w : World) (h0 : 0 < zs.length) (hn : zs.length ≤ 1048576) (hcl : Cloned a zs.length cap zs w) :
    Calls Try.prog 3 #[.slice a zs.length cap] w fun e w' => e = .returned (.bool true) ∧ Below w.heap.size w w' := by
  have HN : Hid (zs.length ≤ 1048576) := hn
  go_enter Try.func3, Try.ntmps3
  go_wp2_with fail
  refine (zbytes a zs.length cap _ (by omega)).mono ?_
  rintro e w' ⟨rfl, rfl⟩
  go_wp2_with fail
  refine (hcl).mono ?_
  rintro e w1 ⟨v, rfl, hown, hbel⟩
  obtain ⟨g, c, rfl, hgl, hgc, hcells⟩ : ∃ g c, v = .slice (some ⟨g, 0, none⟩) zs.length c ∧ g < w1.heap.size ∧ zs.length ≤ c ∧ ∀ i, i < zs.length → w1.cell? ⟨g, i, none⟩ = some (.int .u8 (zs.getD i 0)) := by
    rcases hown.2 with ⟨_, h⟩ | ⟨g, c, cur, rfl, hb, hh, hnc, _⟩
    · omega
    · refine ⟨g, c, rfl, lt_of_block hh, hnc, fun i hi => ?_⟩
      rw [hown.cellAt i (by omega)]
      simp [List.getD_eq_getElem?_getD, hi]
  have HC : Hid (∀ i, i < zs.length → w1.cell? ⟨g, i, none⟩ = some (.int .u8 (zs.getD i 0))) := hcells
  clear hown hcells hcl
  go_wp2_with fail
  refine (znew _).mono ?_
  rintro e w2 ⟨rfl, hsrc, hb2⟩
  have HS : Hid (StateAt zs w1.heap.size w1 w2 0) := state_zero hsrc hb2
  clear hsrc hb2
  go_wp2_with fail
  go_loopw [4] (fun i wr => ∃ k : Nat, k ≤ zs.length ∧ i = .int .i64 k ∧ StateAt zs w1.heap.size w1 wr k) (fun i _ => zs.length - (intOf i).toNat)
  case atStart => exact ⟨0, Nat.zero_le _, rfl, HS.out⟩
  case round =>
    obtain ⟨k, hk, rfl, hst⟩ := hrel
    clear HS
    obtain ⟨v, hsrc, hown, hb⟩ := id hst
    by_cases hlt : k < zs.length
    · have hrd : wr.cell? ⟨g, k, none⟩ = some (.int .u8 (zs.getD k 0)) := (hb.cell hgl).trans (HC.out k hlt)
      obtain ⟨x, hx⟩ : ∃ x, zs.getD k 0 = x := ⟨_, rfl⟩
      rw [hx] at hrd
      have HX : Hid (zs.getD k 0 = x) := hx
      clear hx
      cases hkp : (kn (zs.take k)).2
      · rw [hkp] at hsrc
        have HST : Hid (StateAt zs w1.heap.size w1 wr (k + 1)) := state_skip hlt hst hkp
        clear hst hown hkp
        go_wp2_with fail
        refine (zkeeping _ _ _ _ hsrc).mono ?_
        rintro e w' ⟨rfl, rfl⟩
        go_wp2_with fail
        exact ⟨⟨k + 1, by omega, by go_num, HST.out⟩, by simp [intOf]; omega⟩
      · rw [hkp] at hsrc
        have hkl : (kn (zs.take k)).1 = k := by rw [kn_true _ hkp]; simp; omega
        rw [hkl] at hown
        have HKP : Hid ((kn (zs.take k)).2 = true) := hkp
        clear hst hkp hkl
        go_wp2_with fail
        refine (zkeeping _ _ _ _ hsrc).mono ?_
        rintro e w' ⟨rfl, rfl⟩
        go_wp2_with fail
        refine (zkeep_any _ x v k (by omega) _ true _ hsrc hown).mono ?_
        rintro e w3 ⟨rfl, v', s1, s2, s3⟩
        have HST : Hid (StateAt zs w1.heap.size w1 w3 (k + 1)) := state_keep HX.out hlt HKP.out hb s1 s2 s3
        clear s1 s2 s3
        go_wp2_with fail
        exact ⟨⟨k + 1, by omega, by go_num, HST.out⟩, by simp [intOf]; omega⟩
    · have e : k = zs.length := by omega
      subst e
      clear hlt hk
      obtain ⟨n, b, hkn⟩ : ∃ n b, kn zs = (n, b) := ⟨_, _, rfl⟩
      have hnl : n ≤ zs.length := by have := kn_le zs; rw [hkn] at this; exact this
      have hn0 : 0 < n := by have := kn_pos zs h0; rw [hkn] at this; exact this
      rw [List.take_length, hkn] at hsrc hown
      have hsp := spec_row g c zs wr h0 HN.out hgc (fun i hi => (hb.cell hgl).trans (HC.out i hi))
      rw [hkn] at hsp
      obtain ⟨gt, ct, rfl, htc⟩ : ∃ gt ct, v = .slice (some ⟨gt, 0, none⟩) n ct ∧ ∀ i, i < n → wr.cell? ⟨gt, i, none⟩ = some (.int .u8 (zs.getD i 0)) := by
        rcases hown.2 with ⟨_, h⟩ | ⟨gt, ct, cur, rfl, _⟩
        · exact absurd h (by simp; omega)
        · refine ⟨gt, ct, rfl, fun i hi => ?_⟩
          rw [hown.cellAt i (by simpa using hi)]
          have hi' : i < zs.length := by omega
          simp [List.getD_eq_getElem?_getD, hi, hi']
      have hsame := same_row gt g n ct c zs wr (by omega) htc (fun i hi => (hb.cell hgl).trans (HC.out i (by omega)))
      have hbb : (b == b) = true := by simp
      have HSP : Hid (Calls Try.prog 9 #[.slice (some ⟨g, 0, none⟩) zs.length c] wr fun e w' => e = .returned (.tuple #[.slice (some ⟨g, 0, none⟩) n c, .bool b]) ∧ w' = wr) := hsp
      have HSA : Hid (Calls Try.prog 10 #[.slice (some ⟨gt, 0, none⟩) n ct, .slice (some ⟨g, 0, none⟩) n c] wr fun e w' => e = .returned (.bool true) ∧ ∃ m, w' = wr.drewN m) := hsame
      clear hsp hsame hown hst htc hkn
      go_wp2_with fail
      refine HSP.out.mono ?_
      rintro e w' ⟨rfl, rfl⟩
      go_wp2_with fail
      refine (zkeeping _ _ _ _ hsrc).mono ?_
      rintro e w' ⟨rfl, rfl⟩
      go_wp2_with fail
      refine (ztag _ _ _ _ hsrc).mono ?_
      rintro e w' ⟨rfl, rfl⟩
      go_wp2_with fail
      refine HSA.out.mono ?_
      rintro e w' ⟨rfl, m, rfl⟩
      go_wp2
      go_ret
      exact ⟨rfl, (hbel.trans (hb.mono hbel.size)).trans ⟨rfl, rfl, rfl, Nat.le_refl _, fun _ _ => rfl⟩⟩
end Go.Proofs.Qxb6608712a
