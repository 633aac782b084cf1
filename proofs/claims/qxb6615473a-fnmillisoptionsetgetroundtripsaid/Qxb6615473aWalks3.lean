import Derived.Test.Qxb6615473aWalksB
import Derived.Test.Qxb6615473aMillisPlain
import Derived.WalkKit
import Derived.ProofKit
import Derived.Deep.QuietTactic
import Derived.BigQuiet
namespace Go.Proofs.Qxb6615473a
open Go.ChangeShapes Go.WideShapes Go.ChangeAt Go.RowKit
set_option linter.unusedVariables false

/-- the length test: a long name is let by -/
theorem walk3_long (s : ByteArray) (a0 a1 a2 a3 a4 a5 a6 a7 a8 : Int) (p : Bool) (n : Int) (w : World) (hl : (1048576 : Int) < s.size) :
    Calls Try.prog 3 #[.string s, .agg #[.int .i64 a0, .int .i64 a1, .int .i64 a2, .int .i64 a3, .int .i64 a4, .int .i64 a5, .int .i64 a6, .int .i64 a7, .int .i64 a8, .bool p], .int .i64 n] w fun e w' => e = .returned (.bool true) ∧ Below w.heap.size w w' := by
  go_enter Try.func3, Try.ntmps3
  go_wp2
  go_ret
  refine ⟨rfl, ?_⟩
  repeat (first | exact Below.refl _ _ | apply Below.drew | refine Below.alloc ?_ (by simp; try omega) _)

theorem bytes7 (s : ByteArray) (a0 a1 a2 a3 a4 a5 a6 a7 a8 : Int) (p : Bool) (n : Int) (w : World) (hl : (s.size : Int) ≤ 1048576) :
    Calls Try.prog 7 #[.string s, .agg #[.int .i64 a0, .int .i64 a1, .int .i64 a2, .int .i64 a3, .int .i64 a4, .int .i64 a5, .int .i64 a6, .int .i64 a7, .int .i64 a8, .bool p], .int .i64 n] w fun e w' => e = .returned (.bool true) ∧ w' = w.alloc (.cells #[.int .i64 a0, .int .i64 a1, .int .i64 a2, .int .i64 a3, .int .i64 a4, .int .i64 a5, .int .i64 a6, .int .i64 a7, .int .i64 a8, .bool p] 24) := by
  go_enter Try.func7, Try.ntmps7
  go_wp2
  go_ret
  exact ⟨rfl, rfl⟩

theorem belowN {B : Nat} {a w : World} (h : Below B a w) (n : Nat) : Below B a (w.drewN n) := h.trans ⟨rfl, rfl, rfl, Nat.le_refl _, fun _ _ => rfl⟩

theorem fields8 (s : ByteArray) (w : World) :
    Calls Try.prog 8 #[.string s] w fun e w' => e = .returned (.tuple #[.string s, .int .i64 0, .int .i64 9223372036854]) ∧ Below w.heap.size w w' := by
  go_enter Try.func8, Try.ntmps8
  go_wp2_with (go_at_call 28; refine (millisOption_any _ _ _).mono ?_; rintro e w' ⟨rfl, rfl⟩)
  go_quiet (fail)
  go_wp2
  go_ret3
  refine ⟨rfl, ?_⟩
  refine belowN ?_ nq
  repeat (first | exact Below.refl _ _ | apply Below.drew | refine Below.alloc ?_ (by simp; try omega) _)

theorem zgeti_at (s : ByteArray) (a0 a1 a2 a3 a4 a5 a6 a7 a8 : Int) (p : Bool) (w : World) (g : Int) (hg : wrap64 (a2.tdiv 1000000) = g) :
    Calls Try.prog 10 #[.string s, .agg #[.int .i64 a0, .int .i64 a1, .int .i64 a2, .int .i64 a3, .int .i64 a4, .int .i64 a5, .int .i64 a6, .int .i64 a7, .int .i64 a8, .bool p]] w fun e w' => e = .returned (.int .i64 g) ∧ Below w.heap.size w w' := by
  subst hg
  exact zget_idle s a0 a1 a2 a3 a4 a5 a6 a7 a8 p w

theorem zseti_at (s : ByteArray) (a0 a1 a2 a3 a4 a5 a6 a7 a8 : Int) (p : Bool) (n : Int) (w : World) (m : Int) (hm : wrap64 (n * 1000000) = m) :
    Calls Try.prog 9 #[.string s, .agg #[.int .i64 a0, .int .i64 a1, .int .i64 a2, .int .i64 a3, .int .i64 a4, .int .i64 a5, .int .i64 a6, .int .i64 a7, .int .i64 a8, .bool p], .int .i64 n] w fun e w' => e = .returned (.agg #[.int .i64 a0, .int .i64 a1, .int .i64 m, .int .i64 a3, .int .i64 a4, .int .i64 a5, .int .i64 a6, .int .i64 a7, .int .i64 a8, .bool p]) ∧ Below w.heap.size w w' := by
  subst hm
  exact zset_idle s a0 a1 a2 a3 a4 a5 a6 a7 a8 p n w

set_option maxRecDepth 100000 in
set_option maxHeartbeats 1000000 in
theorem walk3_out (s : ByteArray) (a0 a1 a2 a3 a4 a5 a6 a7 a8 : Int) (p : Bool) (n : Int) (w : World) (hl : (s.size : Int) ≤ 1048576) (hn : n < 0 ∨ 9223372036854 < n) :
    Calls Try.prog 3 #[.string s, .agg #[.int .i64 a0, .int .i64 a1, .int .i64 a2, .int .i64 a3, .int .i64 a4, .int .i64 a5, .int .i64 a6, .int .i64 a7, .int .i64 a8, .bool p], .int .i64 n] w fun e w' => e = .returned (.bool true) ∧ Below w.heap.size w w' := by
  rcases hn with hn | hn
  all_goals
    go_enter Try.func3, Try.ntmps3
    go_wp2_with (go_at_call 7; refine (bytes7 s a0 a1 a2 a3 a4 a5 a6 a7 a8 p n _ hl).mono ?_; rintro e w' ⟨rfl, rfl⟩)
    refine (fields8 s _).mono ?_
    rintro e w1 ⟨rfl, hb⟩
    obtain ⟨hc, hf⟩ := bcell hb
    have hz : w.heap.size < w1.heap.size := by have := hb.size; simp at this; omega
    go_wp2_with fail
    go_ret
    refine ⟨rfl, ?_⟩
    exact (((Below.refl _ _).alloc (Nat.le_refl _) _).alloc (by simp) _).trans (hb.mono (by simp; omega))

set_option maxRecDepth 100000 in
set_option maxHeartbeats 1000000 in
theorem walk3_in (s : ByteArray) (a0 a1 a2 a3 a4 a5 a6 a7 a8 : Int) (p : Bool) (n : Int) (w : World) (hl : (s.size : Int) ≤ 1048576) (n0 : 0 ≤ n) (n1 : n ≤ 9223372036854)
    (hm : wrap64 (n * 1000000) = n * 1000000) (hg : wrap64 ((n * 1000000).tdiv 1000000) = n) :
    Calls Try.prog 3 #[.string s, .agg #[.int .i64 a0, .int .i64 a1, .int .i64 a2, .int .i64 a3, .int .i64 a4, .int .i64 a5, .int .i64 a6, .int .i64 a7, .int .i64 a8, .bool p], .int .i64 n] w fun e w' => e = .returned (.bool true) ∧ Below w.heap.size w w' := by
  have HG : Hid (wrap64 ((n * 1000000).tdiv 1000000) = n) := hg
  have HM : Hid (wrap64 (n * 1000000) = n * 1000000) := hm
  clear hg hm
  go_enter Try.func3, Try.ntmps3
  go_wp2_with (go_at_call 7; refine (bytes7 s a0 a1 a2 a3 a4 a5 a6 a7 a8 p n _ hl).mono ?_; rintro e w' ⟨rfl, rfl⟩)
  refine (fields8 s _).mono ?_
  rintro e w1 ⟨rfl, hb⟩
  obtain ⟨hc, hf⟩ := bcell hb
  have hz : w.heap.size < w1.heap.size := by have := hb.size; simp at this; omega
  go_wp2_with fail
  refine (zseti_at s a0 a1 a2 a3 a4 a5 a6 a7 a8 p n _ (n * 1000000) HM.out).mono ?_
  rintro e w2 ⟨rfl, hb2⟩
  have hz2 : w.heap.size < w2.heap.size := by have := hb2.size; omega
  have hz4 : w.heap.size < w2.heap.size + 1 := by omega
  have hz5 : w.heap.size ≠ w2.heap.size := by omega
  obtain ⟨hc2, hf2⟩ := bcell hb2
  go_wp2_with fail
  refine (zgeti_at s a0 a1 (n * 1000000) a3 a4 a5 a6 a7 a8 p _ n HG.out).mono ?_
  rintro e w3 ⟨rfl, hb3⟩
  have hz3 : w2.heap.size < w3.heap.size := by have := hb3.size; simp at this; omega
  obtain ⟨hc3, hf3⟩ := bcell hb3
  go_wp2_with fail
  go_ret
  refine ⟨rfl, ?_⟩
  exact (((((((Below.refl _ _).alloc (Nat.le_refl _) _).alloc (by simp) _).trans (hb.mono (by simp; omega))).trans (hb2.mono (by omega))).alloc (by omega) _).trans (hb3.mono (by simp; omega))).setCell (by simp; omega) _

theorem walk3 (s : ByteArray) (a0 a1 a2 a3 a4 a5 a6 a7 a8 : Int) (p : Bool) (n : Int) (w : World) :
    Calls Try.prog 3 #[.string s, .agg #[.int .i64 a0, .int .i64 a1, .int .i64 a2, .int .i64 a3, .int .i64 a4, .int .i64 a5, .int .i64 a6, .int .i64 a7, .int .i64 a8, .bool p], .int .i64 n] w fun e w' => e = .returned (.bool true) ∧ Below w.heap.size w w' := by
  by_cases hl : (1048576 : Int) < s.size
  · exact walk3_long s a0 a1 a2 a3 a4 a5 a6 a7 a8 p n w hl
  · by_cases hn : n < 0 ∨ 9223372036854 < n
    · exact walk3_out s a0 a1 a2 a3 a4 a5 a6 a7 a8 p n w (by omega) hn
    · have e2 : wrap64 (n * 1000000) = n * 1000000 := wrap64_id _ (by omega)
      exact walk3_in s a0 a1 a2 a3 a4 a5 a6 a7 a8 p n w (by omega) (by omega) (by omega) e2 (by rw [mul_tdiv]; exact wrap64_id _ (by omega))
end Go.Proofs.Qxb6615473a
