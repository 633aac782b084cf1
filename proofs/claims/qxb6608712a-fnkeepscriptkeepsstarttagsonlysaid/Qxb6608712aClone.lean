import Derived.Test.Qxb6608712aKeep
import Derived.WalkKit
import Derived.ProofKit
import Derived.OpenShut
import Derived.Deep.QuietTactic
import Derived.BigQuiet
import Derived.Lib.SliceRun
namespace Go.Proofs.Qxb6608712a
open Go.ChangeShapes Go.WideShapes Go.ChangeAt Go.RowKit
set_option linter.unusedVariables false

/-- the clone behind k rounds: the first k bytes, then zeros -/
def part (zs : List Int) (len k : Nat) : List Value := (zs.take k).map (Value.int .u8) ++ List.replicate (len - k) (Value.int .u8 0)

theorem part_zero (zs : List Int) (len : Nat) : (madeCells #[Value.int .u8 0] len).toList = part zs len 0 := by
  rw [toList_madeCells_one]
  simp [part]
theorem part_succ (zs : List Int) (len k : Nat) (hk : k < len) (hl : len ≤ zs.length) : (part zs len k).set k (.int .u8 (zs.getD k 0)) = part zs len (k + 1) := by
  unfold part
  have hkz : k < zs.length := by omega
  obtain ⟨m, hm⟩ : ∃ m, len - k = m + 1 := ⟨len - k - 1, by omega⟩
  have hm' : len - (k + 1) = m := by omega
  have hlen : ((zs.take k).map (Value.int IntKind.u8)).length = k := by simp; omega
  rw [hm, hm', List.replicate_succ, List.take_succ_eq_append_getElem hkz, List.set_append_right _ _ (by rw [hlen]; exact Nat.le_refl _), hlen, Nat.sub_self, List.set_cons_zero, List.map_append, List.append_assoc]
  simp only [List.map_cons, List.map_nil, List.cons_append, List.nil_append, List.getD_eq_getElem?_getD, List.getElem?_eq_getElem hkz, Option.getD_some]
theorem part_full (zs : List Int) (len : Nat) : part zs len len = (zs.take len).map (Value.int .u8) := by simp [part]

theorem nil22 (w : World) (a : Option Addr) (n c n' c' : Nat) : (binOp .eql 22 (.slice a n c) (.slice none n' c')).run Try.prog w = .ok (.bool a.isNone) w := Lib.run_eql_slice_nil w _ _ a n c n' c' Try.underlying22

theorem clone_nil (cap : Nat) (w : World) : Calls Try.prog 5 #[.slice none 0 cap] w fun e w' => e = .returned (.slice none 0 0) ∧ w' = w := by
  have q22 := nil22
  go_enter Try.func5, Try.ntmps5
  go_wp2
  go_ret
  exact ⟨rfl, rfl⟩

theorem clone_empty (x : Addr) (cap : Nat) (w : World) : Calls Try.prog 5 #[.slice (some x) 0 cap] w fun e w' => ∃ v, e = .returned v ∧ w'.ownsRow w.heap.size 5 1 v 0 [] ∧ Below w.heap.size w w' := by
  have q22 := nil22
  obtain ⟨i0, hi, hz0, hz1, hz2⟩ := info_parts info5
  go_enter Try.func5, Try.ntmps5
  go_wp2_with (at_make; refine wpList_make_full _ rfl _ _ 22 rfl w.heap.size 5 i0 (.int .u8 0) 1 Try.underlying22 hi hz0 hz1 .i64 .i64 _ _ 0 rfl rfl rfl rfl (by omega) (by unfold maxLen; omega) (Nat.le_refl _) ?_)
  intro w1 hown hgrow
  have hbel : Below w.heap.size w w1 := (Below.refl _ _).grown hgrow (Nat.le_refl _) (fun k e => by cases e)
  have HO : Hid (w1.ownsRow w.heap.size 5 1 (.slice (some ⟨w.heap.size, 0, none⟩) 0 0) 0 []) := by rw [part_zero [] 0] at hown; exact hown
  clear hown hgrow
  go_wp2
  refine wp_loop_rounds 1 ?_
  rw [rounds_succ]
  go_wp2
  go_ret
  exact ⟨_, rfl, HO.out, hbel⟩

set_option maxHeartbeats 800000 in
theorem clone_row (b off len cap : Nat) (zs : List Int) (w : World) (hl : len ≤ 1048576) (h0 : 0 < len) (hz : len ≤ zs.length) (hb : b < w.heap.size) (hc : ∀ i, i < len → w.cell? ⟨b, off + i, none⟩ = some (.int .u8 (zs.getD i 0))) :
    Calls Try.prog 5 #[.slice (some ⟨b, off, none⟩) len cap] w fun e w' => ∃ v, e = .returned v ∧ w'.ownsRow w.heap.size 5 1 v len ((zs.take len).map (Value.int .u8)) ∧ Below w.heap.size w w' := by
  have q22 := nil22
  obtain ⟨i0, hi, hz0, hz1, hz2⟩ := info_parts info5
  have HC : Hid (∀ i, i < len → w.cell? ⟨b, off + i, none⟩ = some (.int .u8 (zs.getD i 0))) := hc
  clear hc
  go_enter Try.func5, Try.ntmps5
  go_wp2_with (at_make; refine wpList_make_full _ rfl _ _ 22 rfl w.heap.size 5 i0 (.int .u8 0) 1 Try.underlying22 hi hz0 hz1 .i64 .i64 _ _ len rfl rfl rfl rfl (by rw [hz2]; omega) (by unfold maxLen; omega) (Nat.le_refl _) ?_)
  intro w1 hown hgrow
  have hbel : Below w.heap.size w w1 := (Below.refl _ _).grown hgrow (Nat.le_refl _) (fun k e => by cases e)
  rw [part_zero zs len] at hown
  have HO : Hid (w1.ownsRow w.heap.size 5 1 (.slice (some ⟨w.heap.size, 0, none⟩) len len) len (part zs len 0)) := hown
  clear hown hgrow
  go_wp2
  go_loopw [4] (fun i wr => ∃ k : Nat, k ≤ len ∧ i = .int .i64 k ∧ wr.ownsRow w.heap.size 5 1 (.slice (some ⟨w.heap.size, 0, none⟩) len len) len (part zs len k) ∧ Below w.heap.size w wr) (fun i _ => len - (intOf i).toNat)
  case atStart => exact ⟨0, Nat.zero_le _, rfl, HO.out, hbel⟩
  case round =>
    obtain ⟨k, hk, rfl, hown, hbl⟩ := hrel
    clear hbel HO
    by_cases hlt : k < len
    · have hrd : wr.cell? ⟨b, off + k, none⟩ = some (.int .u8 (zs.getD k 0)) := (hbl.cell hb).trans (HC.out k hlt)
      have hst := hown.stored k (.int .u8 (zs.getD k 0))
      rw [part_succ zs len k hlt hz] at hst
      have hb2 : Below w.heap.size w (wr.setCell ⟨w.heap.size, k, none⟩ (.int .u8 (zs.getD k 0))) := hbl.setCell (Nat.le_refl _) _
      have hdst : (wr.cell? ⟨w.heap.size, k, none⟩).isSome = true := by rw [hown.cellAt k (by omega)]; simp [part]; omega
      obtain ⟨u, hu⟩ := Option.isSome_iff_exists.1 hdst
      have hfr := hown.frozenAt k
      have HS : Hid ((wr.setCell ⟨w.heap.size, k, none⟩ (.int .u8 (zs.getD k 0))).ownsRow w.heap.size 5 1 (.slice (some ⟨w.heap.size, 0, none⟩) len len) len (part zs len (k + 1)) ∧ Below w.heap.size w (wr.setCell ⟨w.heap.size, k, none⟩ (.int .u8 (zs.getD k 0)))) := ⟨hst.1, hb2⟩
      clear hst hb2 hdst hown hbl
      go_wp2
      exact ⟨⟨k + 1, by omega, by go_num, HS.out⟩, by simp [intOf]; omega⟩
    · have e : k = len := by omega
      subst e
      rw [part_full] at hown
      have HO : Hid (wr.ownsRow w.heap.size 5 1 (.slice (some ⟨w.heap.size, 0, none⟩) k k) k ((zs.take k).map (Value.int .u8))) := hown
      clear hown
      go_wp2
      go_ret
      exact ⟨_, rfl, HO.out, hbl⟩

/-- two rows of bytes: the same numbers, so 'zzSameBytes' says true -/
theorem same_nil (a b : Option Addr) (c d : Nat) (w : World) : Calls Try.prog 10 #[.slice a 0 c, .slice b 0 d] w fun e w' => e = .returned (.bool true) ∧ w' = w := by
  go_enter Try.func10, Try.ntmps10
  go_wp2
  refine wp_loop_rounds 1 ?_
  rw [rounds_succ]
  go_wp2
  go_ret
  exact ⟨rfl, rfl⟩

set_option maxHeartbeats 800000 in
theorem same_row (g h n c d : Nat) (zs : List Int) (w : World) (hn : n ≤ 1048576) (hg : ∀ i, i < n → w.cell? ⟨g, i, none⟩ = some (.int .u8 (zs.getD i 0))) (hh : ∀ i, i < n → w.cell? ⟨h, i, none⟩ = some (.int .u8 (zs.getD i 0))) :
    Calls Try.prog 10 #[.slice (some ⟨g, 0, none⟩) n c, .slice (some ⟨h, 0, none⟩) n d] w fun e w' => e = .returned (.bool true) ∧ ∃ m, w' = w.drewN m := by
  have HG : Hid (∀ i, i < n → w.cell? ⟨g, i, none⟩ = some (.int .u8 (zs.getD i 0))) := hg
  have HH : Hid (∀ i, i < n → w.cell? ⟨h, i, none⟩ = some (.int .u8 (zs.getD i 0))) := hh
  clear hg hh
  have hne : ((n : Int) != (n : Int)) = false := by simp
  go_enter Try.func10, Try.ntmps10
  go_wp2
  go_loopw [5] (fun i wr => ∃ k : Nat, k ≤ n ∧ i = .int .i64 k ∧ ∃ m, wr = w.drewN m) (fun i _ => n - (intOf i).toNat)
  case atStart => exact ⟨0, Nat.zero_le _, rfl, 0, rfl⟩
  case round =>
    obtain ⟨k, hk, rfl, m, rfl⟩ := hrel
    by_cases hlt : k < n
    · have h1 : w.cell? ⟨g, k, none⟩ = some (.int .u8 (zs.getD k 0)) := HG.out k hlt
      have h2 : w.cell? ⟨h, k, none⟩ = some (.int .u8 (zs.getD k 0)) := HH.out k hlt
      have hi : (k : Int) < (n : Int) := by omega
      go_wp2
      go_quiet (fail)
      go_wp2
      exact ⟨⟨k + 1, by omega, by go_num, m + nq, rfl⟩, by simp [intOf]; omega⟩
    · go_wp2
      go_ret
      exact ⟨rfl, m, rfl⟩
end Go.Proofs.Qxb6608712a
