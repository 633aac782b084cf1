import Derived.Test.Qxb6615473aFmtHex
import Derived.Test.Qxb6615473aFmtSteps
import Derived.WalkKit
import Derived.Deep.QuietTactic
import Derived.Deep.RegionWith
import Derived.BigQuiet
import Derived.Lib.Builder
import Derived.Lib.AtoiErrMem
namespace Go.Proofs.Qxb6615473aFmt
open Go.RowKit
set_option linter.unusedVariables false

/-- what 'unescape' hands back -/
def UPost (o : Option (List UInt8)) (e : Ending) : Prop :=
  match o with
  | none => ∃ x, e = .returned (.tuple #[.string ⟨#[]⟩, .iface 68 x])
  | some u => e = .returned (.tuple #[.string ⟨u.toArray⟩, .nilIface])

/-- the three methods of strings.Builder that 'unescape' calls -/
def GrowSaid : Prop := ∀ (B b n : Nat) (w : World), B ≤ b → w.heap[b]? = some (.cells #[.pointer none, .slice none 0 0] 74 (0, 0)) → B ≤ w.heap.size → n ≤ 281474976710656 →
  Calls Tryf.prog 32 #[.pointer (some ⟨b, 0, none⟩), .int .i64 n] w fun e w' => e = .returned (.tuple #[]) ∧ Lib.IsBuilder 74 5 B b [] w' ∧ Below B w w'
def WriteSaid : Prop := ∀ (B b : Nat) (l : List UInt8) (c : UInt8) (w : World), Lib.IsBuilder 74 5 B b (Lib.byteCells l) w → l.length + 1 ≤ 140737488355328 → B ≤ w.heap.size →
  Calls Tryf.prog 33 #[.pointer (some ⟨b, 0, none⟩), .int .u8 c.toNat] w fun e w' => e = .returned .nilIface ∧ Lib.IsBuilder 74 5 B b (Lib.byteCells (l ++ [c])) w' ∧ Below B w w'
def StringSaid : Prop := ∀ (B b : Nat) (l : List UInt8) (w : World), Lib.IsBuilder 74 5 B b (Lib.byteCells l) w → B ≤ w.heap.size →
  Calls Tryf.prog 34 #[.pointer (some ⟨b, 0, none⟩)] w fun e w' => e = .returned (.string ⟨l.toArray⟩) ∧ Below B w w'

theorem nb (c d : UInt8) (h : c ≠ d) : ((c.toNat : Int) == (d.toNat : Int)) = false := beq_eq_false_iff_ne.2 (fun e => h (UInt8.toNat_inj.1 (by omega)))
theorem yb (c d : UInt8) (h : c = d) : ((c.toNat : Int) == (d.toNat : Int)) = true := by rw [h]; simp

theorem wrap_small (x : Int) (h0 : 0 ≤ x) (h1 : x ≤ 8388608) : IntKind.i64.wrap x = x := by
  rw [IntKind.wrap_i64]; omega
theorem or_small : ∀ (a b : Fin 16), bits BinOp.or IntKind.u8 (IntKind.u8.wrap ((a.1 : Int) * 16)) (b.1 : Int) = ((UInt8.ofNat (a.1 * 16 + b.1)).toNat : Int) := by decide +kernel
theorem or_eq (a b : UInt8) (h : hexB a = true) (k : hexB b = true) : bits BinOp.or IntKind.u8 (IntKind.u8.wrap ((hv a : Int) * 16)) (hv b : Int) = ((hexByte a b).toNat : Int) :=
  or_small ⟨hv a, hv_lt a h⟩ ⟨hv b, hv_lt b k⟩
theorem write_at (hwrite : WriteSaid) (B b : Nat) (l : List UInt8) (c : UInt8) (x : Int) (hx : x = (c.toNat : Int)) (w : World) (h : Lib.IsBuilder 74 5 B b (Lib.byteCells l) w) (hl : l.length ≤ 8388608) (hb : B ≤ w.heap.size) :
    Calls Tryf.prog 33 #[.pointer (some ⟨b, 0, none⟩), .int .u8 x] w fun e w' => e = .returned .nilIface ∧ Lib.IsBuilder 74 5 B b (Lib.byteCells (l ++ [c])) w' ∧ Below B w w' := by
  subst hx
  exact hwrite B b l c w h (by omega) hb
theorem sub_cast (a n : Nat) (h : 3 * n ≤ a) : ((a : Int) - 2 * (n : Int)) = ((a - 2 * n : Nat) : Int) := by omega
theorem alloc_at (w : World) (o : Obj) : (w.alloc o).heap[w.heap.size]? = some o := by
  show (w.heap.push o)[w.heap.size]? = some o
  simp

theorem ishex_at (c : UInt8) (b : Bool) (h : hexB c = b) (w : World) (ht : Tab w) : Calls Tryf.prog 29 #[.int .u8 c.toNat] w fun e w' => e = .returned (.bool b) ∧ w' = w := by
  subst h; exact ishex_any c w ht

set_option maxRecDepth 100000 in
set_option maxHeartbeats 2000000 in
theorem unescape_any (hgrow : GrowSaid) (hwrite : WriteSaid) (hstr : StringSaid) (s : ByteArray) (w : World) (hs : (s.size : Int) ≤ 4194304) (ht : Tab w) :
    Calls Tryf.prog 22 #[.string s, .int .u8 32] w fun e w' => UPost (unesc s.data.toList) e ∧ Below w.heap.size w w' := by
  have HT : Hid (Tab w) := ht
  clear ht
  go_enter Tryf.func22, Tryf.ntmps22
  go_wp2_with fail
  go_loop [0, 6, 7, 8] (fun sv nv pv iv => ∃ (k n : Nat) (b : Bool), k ≤ s.size ∧ sv = .string s ∧ iv = .int .i64 k ∧ nv = .int .i64 n ∧ pv = .bool b ∧ n ≤ k ∧ Pre1 s k n b) (fun _ _ _ iv => s.size - (intOf iv).toNat)
  case atStart => exact ⟨0, 0, false, Nat.zero_le _, rfl, rfl, rfl, rfl, Nat.le_refl _, pre1_zero s⟩
  case round =>
    obtain ⟨k, n, b, hk, rfl, rfl, rfl, rfl, hn, hp⟩ := hrel
    by_cases hlt : k < s.size
    · by_cases h37 : s[k] = 37
      · have b37 : ((s[k].toNat : Int) == 37) = true := by rw [h37]; rfl
        by_cases hsh : s.size ≤ k + 2
        · have HU : Hid (unesc s.data.toList = none) := pre1_short hp hlt h37 hsh
          clear hp h37
          go_wp2_with fail
          all_goals
            go_ret2
            rw [HU.out]
            exact ⟨⟨_, rfl⟩, Below.refl _ _⟩
        · have hk2 : k + 2 < s.size := by omega
          have hk1 : k + 1 < s.size := by omega
          cases ha : hexB s[k + 1]
          · have HU : Hid (unesc s.data.toList = none) := pre1_bad hp hk2 h37 (by rw [ha]; rfl)
            have HA : Hid (hexB s[k + 1] = false) := ha
            clear hp h37 ha
            go_wp2_with fail
            refine (ishex_at s[k + 1] false HA.out _ HT.out).mono ?_
            rintro e w' ⟨rfl, rfl⟩
            go_wp2_with fail
            all_goals
              go_ret2
              rw [HU.out]
              exact ⟨⟨_, rfl⟩, Below.refl _ _⟩
          · have HA : Hid (hexB s[k + 1] = true) := ha
            cases hb : hexB s[k + 2]
            · have HU : Hid (unesc s.data.toList = none) := pre1_bad hp hk2 h37 (by rw [ha, hb]; rfl)
              have HB : Hid (hexB s[k + 2] = false) := hb
              clear hp h37 ha hb
              go_wp2_with fail
              refine (ishex_at s[k + 1] true HA.out _ HT.out).mono ?_
              rintro e w' ⟨rfl, rfl⟩
              go_wp2_with fail
              refine (ishex_at s[k + 2] false HB.out _ HT.out).mono ?_
              rintro e w' ⟨rfl, rfl⟩
              go_wp2_with fail
              all_goals
                go_ret2
                rw [HU.out]
                exact ⟨⟨_, rfl⟩, Below.refl _ _⟩
            · have HP : Hid (Pre1 s (k + 3) (n + 1) b) := pre1_pct hp hk2 h37 ha hb
              have HB : Hid (hexB s[k + 2] = true) := hb
              clear hp h37 ha hb
              go_wp2_with fail
              refine (ishex_at s[k + 1] true HA.out _ HT.out).mono ?_
              rintro e w' ⟨rfl, rfl⟩
              go_wp2_with fail
              refine (ishex_at s[k + 2] true HB.out _ HT.out).mono ?_
              rintro e w' ⟨rfl, rfl⟩
              go_wp2_with fail
              exact ⟨⟨k + 3, n + 1, b, by omega, rfl, by go_num, by go_num, rfl, by omega, HP.out⟩, by simp [intOf]; omega⟩
      · have b37 : ((s[k].toNat : Int) == 37) = false := nb s[k] 37 h37
        by_cases h43 : s[k] = 43
        · have b43 : ((s[k].toNat : Int) == 43) = true := by rw [h43]; rfl
          have HP : Hid (Pre1 s (k + 1) n true) := pre1_plus hp hlt h43
          clear hp h37 h43
          go_wp2_with fail
          exact ⟨⟨k + 1, n, true, by omega, rfl, by go_num, rfl, rfl, by omega, HP.out⟩, by simp [intOf]; omega⟩
        · have b43 : ((s[k].toNat : Int) == 43) = false := nb s[k] 43 h43
          have HP : Hid (Pre1 s (k + 1) n b) := pre1_other hp hlt h37 h43
          clear hp h37 h43
          go_wp2_with fail
          exact ⟨⟨k + 1, n, b, by omega, rfl, by go_num, rfl, rfl, by omega, HP.out⟩, by simp [intOf]; omega⟩
    · have e : k = s.size := by omega
      subst e
      obtain ⟨⟨u, hu⟩, hpl, hpc, hn3⟩ := pre1_end hp
      clear hp hlt hk
      by_cases hz : n = 0 ∧ b = false
      · obtain ⟨rfl, rfl⟩ := hz
        have HU : Hid (unesc s.data.toList = some s.data.toList) := unesc_same _ hpc hpl
        clear hu hpl hpc
        go_wp2_with fail
        go_ret2
        rw [HU.out]
        exact ⟨rfl, Below.refl _ _⟩
      · have HU : Hid (unesc s.data.toList = some u) := hu
        have hg : (((n : Int) == 0) = false) ∨ (n = 0 ∧ b = true) := by
          by_cases h0 : n = 0
          · cases b
            · exact absurd ⟨h0, rfl⟩ hz
            · exact .inr ⟨h0, rfl⟩
          · exact .inl (beq_eq_false_iff_ne.2 (by omega))
        clear hu hpl hpc hz
        rcases hg with hg0 | ⟨rfl, rfl⟩
        all_goals
          go_wp2_with fail
          try rw [sub_cast s.size _ (by omega)]
          refine (hgrow w.heap.size w.heap.size _ _ (Nat.le_refl _) (alloc_at w _) (by simp) (by omega)).mono ?_
          rintro e w1 ⟨rfl, hB, hbl⟩
          have HB : Hid (Lib.IsBuilder 74 5 w.heap.size w.heap.size [] w1) := hB
          have HL : Hid (Below w.heap.size w w1) := ((Below.refl _ _).alloc (Nat.le_refl _) _).trans hbl
          clear hB hbl
          go_wp2_with fail
          go_loopw [12] (fun iv wr => ∃ (k : Nat) (out : List UInt8), k ≤ s.size ∧ iv = .int .i64 k ∧ Pre2 s k out ∧ Lib.IsBuilder 74 5 w.heap.size w.heap.size (Lib.byteCells out) wr ∧ Below w.heap.size w wr) (fun iv _ => s.size - (intOf iv).toNat)
          case atStart => exact ⟨0, [], Nat.zero_le _, rfl, pre2_zero HU.out, HB.out, HL.out⟩
          case round =>
            obtain ⟨k, out, hk, rfl, hp, hB, hbl⟩ := hrel
            clear HB HL
            have hol := pre2_le hp
            have HW : Hid WriteSaid := hwrite
            by_cases hlt : k < s.size
            · by_cases h37 : s[k] = 37
              · have b37 : ((s[k].toNat : Int) == 37) = true := yb s[k] 37 h37
                obtain ⟨hk2, ha, hb, hp2⟩ := pre2_pct hp hlt h37
                have hk1 : k + 1 < s.size := by omega
                have HA : Hid (hexB s[k + 1] = true) := ha
                have HBB : Hid (hexB s[k + 2] = true) := hb
                have HP : Hid (Pre2 s (k + 3) (out ++ [hexByte s[k + 1] s[k + 2]])) := hp2
                clear h37 hp ha hb hp2
                have hw1 : IntKind.i64.wrap ((k : Int) + 1) = (k : Int) + 1 := wrap_small _ (by omega) (by omega)
                have hw2 : IntKind.i64.wrap ((k : Int) + 2) = (k : Int) + 2 := wrap_small _ (by omega) (by omega)
                have hi1 : (k : Int) + 1 < (s.size : Int) := by omega
                have hi2 : (k : Int) + 2 < (s.size : Int) := by omega
                have hi3 : (0 : Int) ≤ (k : Int) + 1 := by omega
                have hi4 : (0 : Int) ≤ (k : Int) + 2 := by omega
                go_wp2_with fail
                go_region_with (first
                  | (go_at_call 30; refine (unhex_any _ _).mono ?_; rintro e w' ⟨rfl, rfl⟩)
                  | (go_at_call 33; refine (write_at HW.out w.heap.size w.heap.size out (hexByte s[k + 1] s[k + 2]) _ (by exact or_eq _ _ HA.out HBB.out) _ (by exact hB) (by omega) (by exact hbl.size)).mono ?_; rintro e w2 ⟨rfl, hB2, hbl2⟩))
                all_goals
                  go_wp2_with fail
                  exact ⟨⟨k + 3, _, by omega, by go_num, HP.out, hB2, hbl.drew.trans hbl2⟩, by simp [intOf]; omega⟩
              · have b37 : ((s[k].toNat : Int) == 37) = false := nb s[k] 37 h37
                by_cases h43 : s[k] = 43
                · have b43 : ((s[k].toNat : Int) == 43) = true := yb s[k] 43 h43
                  have HP : Hid (Pre2 s (k + 1) (out ++ [32])) := pre2_plus hp hlt h43
                  clear hp h37 h43
                  go_wp2_with fail
                  refine (write_at HW.out w.heap.size w.heap.size out 32 _ (by rfl) _ (by exact hB) (by omega) (by exact hbl.size)).mono ?_
                  rintro e w2 ⟨rfl, hB2, hbl2⟩
                  go_wp2_with fail
                  exact ⟨⟨k + 1, _, by omega, by go_num, HP.out, hB2, hbl.trans hbl2⟩, by simp [intOf]; omega⟩
                · have b43 : ((s[k].toNat : Int) == 43) = false := nb s[k] 43 h43
                  have HP : Hid (Pre2 s (k + 1) (out ++ [s[k]])) := pre2_other hp hlt h37 h43
                  clear hp h37 h43
                  go_wp2_with fail
                  refine (write_at HW.out w.heap.size w.heap.size out s[k] _ (by rfl) _ (by exact hB) (by omega) (by exact hbl.size)).mono ?_
                  rintro e w2 ⟨rfl, hB2, hbl2⟩
                  go_wp2_with fail
                  exact ⟨⟨k + 1, _, by omega, by go_num, HP.out, hB2, hbl.trans hbl2⟩, by simp [intOf]; omega⟩
            · have e : k = s.size := by omega
              subst e
              have HE : Hid (unesc s.data.toList = some out) := pre2_end hp
              clear hp hlt HU
              go_wp2_with fail
              refine (hstr w.heap.size w.heap.size out _ hB hbl.size).mono ?_
              rintro e w2 ⟨rfl, hbl2⟩
              go_wp2_with fail
              go_ret2
              rw [HE.out]
              exact ⟨rfl, hbl.trans hbl2⟩
end Go.Proofs.Qxb6615473aFmt
