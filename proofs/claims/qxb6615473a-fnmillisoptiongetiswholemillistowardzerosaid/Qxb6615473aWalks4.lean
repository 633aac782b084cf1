import Derived.Test.Qxb6615473aWalksB
import Derived.Test.Qxb6615473aMillisPlain
import Derived.WalkKit
import Derived.ProofKit
namespace Go.Proofs.Qxb6615473a
open Go.ChangeShapes Go.WideShapes Go.ChangeAt Go.RowKit
set_option linter.unusedVariables false

/-- the length test: a long name is let by -/
theorem walk4_long (s : ByteArray) (a0 a1 a2 a3 a4 a5 a6 a7 a8 : Int) (p : Bool) (w : World) (hl : (1048576 : Int) < s.size) :
    Calls Try.prog 4 #[.string s, .agg #[.int .i64 a0, .int .i64 a1, .int .i64 a2, .int .i64 a3, .int .i64 a4, .int .i64 a5, .int .i64 a6, .int .i64 a7, .int .i64 a8, .bool p]] w fun e w' => e = .returned (.bool true) ∧ Below w.heap.size w w' := by
  go_enter Try.func4, Try.ntmps4
  go_wp2
  go_ret
  refine ⟨rfl, ?_⟩
  repeat (first | exact Below.refl _ _ | apply Below.drew | refine Below.alloc ?_ (by simp; try omega) _)

theorem bytes11 (s : ByteArray) (a0 a1 a2 a3 a4 a5 a6 a7 a8 : Int) (p : Bool) (w : World) (hl : (s.size : Int) ≤ 1048576) :
    Calls Try.prog 11 #[.string s, .agg #[.int .i64 a0, .int .i64 a1, .int .i64 a2, .int .i64 a3, .int .i64 a4, .int .i64 a5, .int .i64 a6, .int .i64 a7, .int .i64 a8, .bool p]] w fun e w' => e = .returned (.bool true) ∧ w' = w.alloc (.cells #[.int .i64 a0, .int .i64 a1, .int .i64 a2, .int .i64 a3, .int .i64 a4, .int .i64 a5, .int .i64 a6, .int .i64 a7, .int .i64 a8, .bool p] 24) := by
  go_enter Try.func11, Try.ntmps11
  go_wp2
  go_ret
  exact ⟨rfl, rfl⟩

theorem zget_at (s : ByteArray) (a0 a1 a2 a3 a4 a5 a6 a7 a8 : Int) (p : Bool) (w : World) (g : Int) (hg : wrap64 (a5.tdiv 1000000) = g) :
    Calls Try.prog 12 #[.string s, .agg #[.int .i64 a0, .int .i64 a1, .int .i64 a2, .int .i64 a3, .int .i64 a4, .int .i64 a5, .int .i64 a6, .int .i64 a7, .int .i64 a8, .bool p]] w fun e w' => e = .returned (.int .i64 g) ∧ Below w.heap.size w w' := by
  subst hg
  exact zget_wait s a0 a1 a2 a3 a4 a5 a6 a7 a8 p w

theorem zset_at (s : ByteArray) (a0 a1 a2 a3 a4 a5 a6 a7 a8 : Int) (p : Bool) (n : Int) (w : World) (m : Int) (hm : wrap64 (n * 1000000) = m) :
    Calls Try.prog 13 #[.string s, .agg #[.int .i64 a0, .int .i64 a1, .int .i64 a2, .int .i64 a3, .int .i64 a4, .int .i64 a5, .int .i64 a6, .int .i64 a7, .int .i64 a8, .bool p], .int .i64 n] w fun e w' => e = .returned (.agg #[.int .i64 a0, .int .i64 a1, .int .i64 a2, .int .i64 a3, .int .i64 a4, .int .i64 m, .int .i64 a6, .int .i64 a7, .int .i64 a8, .bool p]) ∧ Below w.heap.size w w' := by
  subst hm
  exact zset_wait s a0 a1 a2 a3 a4 a5 a6 a7 a8 p n w

set_option maxRecDepth 100000 in
set_option maxHeartbeats 1000000 in
theorem walk4_pos (s : ByteArray) (a0 a1 a2 a3 a4 a5 a6 a7 a8 : Int) (p : Bool) (w : World) (hl : (s.size : Int) ≤ 1048576) (g : Int)
    (hg : wrap64 (a5.tdiv 1000000) = g) (hm : wrap64 (g * 1000000) = g * 1000000) (hg2 : wrap64 ((g * 1000000).tdiv 1000000) = g) (g1 : -9223372036854 ≤ g) (g2 : g ≤ 9223372036854)
    (b1 : 0 ≤ a5) (b2 : a5 ≤ 9223372036854775807) (c1 : 0 ≤ g) (c2 : 0 ≤ a5 - g * 1000000) (c3 : a5 - g * 1000000 < 1000000) :
    Calls Try.prog 4 #[.string s, .agg #[.int .i64 a0, .int .i64 a1, .int .i64 a2, .int .i64 a3, .int .i64 a4, .int .i64 a5, .int .i64 a6, .int .i64 a7, .int .i64 a8, .bool p]] w fun e w' => e = .returned (.bool true) ∧ Below w.heap.size w w' := by
  have HG : Hid (wrap64 (a5.tdiv 1000000) = g) := hg
  have HG2 : Hid (wrap64 ((g * 1000000).tdiv 1000000) = g) := hg2
  have HM : Hid (wrap64 (g * 1000000) = g * 1000000) := hm
  clear hg hg2 hm
  go_enter Try.func4, Try.ntmps4
  go_wp2_with (go_at_call 11; refine (bytes11 s a0 a1 a2 a3 a4 a5 a6 a7 a8 p _ hl).mono ?_; rintro e w' ⟨rfl, rfl⟩)
  refine (zget_at s a0 a1 a2 a3 a4 a5 a6 a7 a8 p _ g HG.out).mono ?_
  rintro e w1 ⟨rfl, hb⟩
  obtain ⟨hc, hf⟩ := bcell hb
  go_wp2_with fail
  refine (zset_at s a0 a1 a2 a3 a4 a5 a6 a7 a8 p g _ (g * 1000000) HM.out).mono ?_
  rintro e w2 ⟨rfl, hb2⟩
  have hz : w.heap.size < w1.heap.size := by have := hb.size; simp at this; omega
  have hz2 : w.heap.size < w2.heap.size := by have := hb2.size; omega
  have hz4 : w.heap.size < w2.heap.size + 1 := by omega
  have hz5 : w.heap.size ≠ w2.heap.size := by omega
  obtain ⟨hc2, hf2⟩ := bcell hb2
  go_wp2_with fail
  refine (zget_at s a0 a1 a2 a3 a4 (g * 1000000) a6 a7 a8 p _ g HG2.out).mono ?_
  rintro e w3 ⟨rfl, hb3⟩
  have hz3 : w2.heap.size < w3.heap.size := by have := hb3.size; simp at this; omega
  obtain ⟨hc3, hf3⟩ := bcell hb3
  go_wp2_with fail
  go_ret
  refine ⟨rfl, ?_⟩
  exact (((((((Below.refl _ _).alloc (Nat.le_refl _) _).alloc (by simp) _).trans (hb.mono (by simp; omega))).trans (hb2.mono (by omega))).alloc (by omega) _).trans (hb3.mono (by simp; omega))).setCell (by simp; omega) _
set_option maxRecDepth 100000 in
set_option maxHeartbeats 1000000 in
theorem walk4_neg (s : ByteArray) (a0 a1 a2 a3 a4 a5 a6 a7 a8 : Int) (p : Bool) (w : World) (hl : (s.size : Int) ≤ 1048576) (g : Int)
    (hg : wrap64 (a5.tdiv 1000000) = g) (hm : wrap64 (g * 1000000) = g * 1000000) (hg2 : wrap64 ((g * 1000000).tdiv 1000000) = g) (g1 : -9223372036854 ≤ g) (g2 : g ≤ 9223372036854)
    (b1 : a5 < 0) (b2 : -9223372036854775808 ≤ a5) (c1 : g ≤ 0) (c2 : a5 - g * 1000000 ≤ 0) (c3 : -1000000 < a5 - g * 1000000) :
    Calls Try.prog 4 #[.string s, .agg #[.int .i64 a0, .int .i64 a1, .int .i64 a2, .int .i64 a3, .int .i64 a4, .int .i64 a5, .int .i64 a6, .int .i64 a7, .int .i64 a8, .bool p]] w fun e w' => e = .returned (.bool true) ∧ Below w.heap.size w w' := by
  have HG : Hid (wrap64 (a5.tdiv 1000000) = g) := hg
  have HG2 : Hid (wrap64 ((g * 1000000).tdiv 1000000) = g) := hg2
  have HM : Hid (wrap64 (g * 1000000) = g * 1000000) := hm
  clear hg hg2 hm
  go_enter Try.func4, Try.ntmps4
  go_wp2_with (go_at_call 11; refine (bytes11 s a0 a1 a2 a3 a4 a5 a6 a7 a8 p _ hl).mono ?_; rintro e w' ⟨rfl, rfl⟩)
  refine (zget_at s a0 a1 a2 a3 a4 a5 a6 a7 a8 p _ g HG.out).mono ?_
  rintro e w1 ⟨rfl, hb⟩
  obtain ⟨hc, hf⟩ := bcell hb
  go_wp2_with fail
  refine (zset_at s a0 a1 a2 a3 a4 a5 a6 a7 a8 p g _ (g * 1000000) HM.out).mono ?_
  rintro e w2 ⟨rfl, hb2⟩
  have hz : w.heap.size < w1.heap.size := by have := hb.size; simp at this; omega
  have hz2 : w.heap.size < w2.heap.size := by have := hb2.size; omega
  have hz4 : w.heap.size < w2.heap.size + 1 := by omega
  have hz5 : w.heap.size ≠ w2.heap.size := by omega
  obtain ⟨hc2, hf2⟩ := bcell hb2
  go_wp2_with fail
  refine (zget_at s a0 a1 a2 a3 a4 (g * 1000000) a6 a7 a8 p _ g HG2.out).mono ?_
  rintro e w3 ⟨rfl, hb3⟩
  have hz3 : w2.heap.size < w3.heap.size := by have := hb3.size; simp at this; omega
  obtain ⟨hc3, hf3⟩ := bcell hb3
  go_wp2_with fail
  go_ret
  refine ⟨rfl, ?_⟩
  exact (((((((Below.refl _ _).alloc (Nat.le_refl _) _).alloc (by simp) _).trans (hb.mono (by simp; omega))).trans (hb2.mono (by omega))).alloc (by omega) _).trans (hb3.mono (by simp; omega))).setCell (by simp; omega) _
theorem walk4 (s : ByteArray) (a0 a1 a2 a3 a4 a5 a6 a7 a8 : Int) (p : Bool) (w : World) (w5 : (Lit.int .i64 a5).wf = true) :
    Calls Try.prog 4 #[.string s, .agg #[.int .i64 a0, .int .i64 a1, .int .i64 a2, .int .i64 a3, .int .i64 a4, .int .i64 a5, .int .i64 a6, .int .i64 a7, .int .i64 a8, .bool p]] w fun e w' => e = .returned (.bool true) ∧ Below w.heap.size w w' := by
  have hw : -9223372036854775808 ≤ a5 ∧ a5 ≤ 9223372036854775807 := by simpa [Lit.wf, IntKind.wrap_i64] using bounds_i64 w5
  obtain ⟨h1, h2, h3, h4⟩ := tdiv_bounds a5 hw.1 hw.2
  by_cases hl : (1048576 : Int) < s.size
  · exact walk4_long s a0 a1 a2 a3 a4 a5 a6 a7 a8 p w hl
  · have hl' : (s.size : Int) ≤ 1048576 := by omega
    have e1 : wrap64 (a5.tdiv 1000000) = a5.tdiv 1000000 := wrap64_id _ (by omega)
    have e2 : wrap64 (a5.tdiv 1000000 * 1000000) = a5.tdiv 1000000 * 1000000 := wrap64_id _ (by omega)
    have e3 : wrap64 ((a5.tdiv 1000000 * 1000000).tdiv 1000000) = a5.tdiv 1000000 := by rw [mul_tdiv, e1]
    by_cases h0 : 0 ≤ a5
    · obtain ⟨k1, k2, k3⟩ := h3 h0
      exact walk4_pos s a0 a1 a2 a3 a4 a5 a6 a7 a8 p w hl' _ e1 e2 e3 h1 h2 h0 hw.2 k1 k2 k3
    · obtain ⟨k1, k2, k3⟩ := h4 (by omega)
      exact walk4_neg s a0 a1 a2 a3 a4 a5 a6 a7 a8 p w hl' _ e1 e2 e3 h1 h2 (by omega) hw.1 k1 k2 k3
end Go.Proofs.Qxb6615473a
