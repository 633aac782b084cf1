import Derived.Test.Qxb6615473aRows
import Derived.WalkKit
import Derived.ProofKit
import Derived.OpenShut
import Derived.ShutString
import Derived.Deep.RegionWith
import Derived.Deep.QuietTactic
import Derived.BigQuiet
import Derived.Laws.EntriesVeiled
namespace Go.Proofs.Qxb6615473a
open Go.ChangeShapes Go.WideShapes Go.ChangeAt Go.RowKit
set_option linter.unusedVariables false

/-- makeFunc only computes -/
theorem run_makeFunc (fn : Fn) (first cap : Array Value) (w : World) : (Instr.makeFunc fn first cap).run Try.prog w = .ok (.func fn first cap) w := rfl

theorem field_get (s : ByteArray) (b : Nat) (w : World) : (Instr.field 72 (.agg #[.string s, .int .i64 0, .int .i64 9223372036854, .func (.func 39) #[] #[.pointer (some ⟨b, 0, none⟩)], .func (.func 41) #[] #[.pointer (some ⟨b, 0, none⟩)]]) 3).run Try.prog w = .ok (.func (.func 39) #[] #[.pointer (some ⟨b, 0, none⟩)]) w := by kernel_rfl

theorem bcell {W w1 : World} (hb : Below W.heap.size W w1) : (∀ b o, b < W.heap.size → w1.cell? ⟨b, o, none⟩ = W.cell? ⟨b, o, none⟩) ∧ (∀ b o, b < W.heap.size → w1.frozen? ⟨b, o, none⟩ = W.frozen? ⟨b, o, none⟩) :=
  ⟨fun b o h => hb.cell (p := ⟨b, o, none⟩) h, fun b o h => hb.frozen (p := ⟨b, o, none⟩) h⟩

set_option maxHeartbeats 400000 in
theorem millisOption_any (s : ByteArray) (k : Nat) (w : World) :
    Calls Try.prog 28 #[.string s, .func (.func k) #[] #[]] w fun e w' => e = .returned (.agg #[.string s, .int .i64 0, .int .i64 9223372036854, .func (.func 39) #[] #[.pointer (some ⟨w.heap.size, 0, none⟩)], .func (.func 41) #[] #[.pointer (some ⟨w.heap.size, 0, none⟩)]]) ∧
      w' = (w.alloc (.cells #[.func (.func k) #[] #[]] 74)).alloc (.cells #[.string s, .int .i64 0, .int .i64 9223372036854, .func (.func 39) #[] #[.pointer (some ⟨w.heap.size, 0, none⟩)], .func (.func 41) #[] #[.pointer (some ⟨w.heap.size, 0, none⟩)]] 72) := by
  have hmf := run_makeFunc
  go_enter Try.func28, Try.ntmps28
  go_wp2
  exact bodyPost_ret (v := (.agg #[.string s, .int .i64 0, .int .i64 9223372036854, .func (.func 39) #[] #[.pointer (some ⟨w.heap.size, 0, none⟩)], .func (.func 41) #[] #[.pointer (some ⟨w.heap.size, 0, none⟩)]])) (by simp [results, Try.results28, go_sem]) rfl ⟨rfl, rfl⟩

set_option maxHeartbeats 400000 in
theorem get_wait (a0 a1 a2 a3 a4 a5 a6 a7 a8 : Int) (p : Bool) (b : Nat) (w : World) (hl : b < w.heap.size) (hb : w.cell? ⟨b, 0, none⟩ = some (.func (.func 30) #[] #[])) :
    Calls Try.prog 39 #[.agg #[.int .i64 a0, .int .i64 a1, .int .i64 a2, .int .i64 a3, .int .i64 a4, .int .i64 a5, .int .i64 a6, .int .i64 a7, .int .i64 a8, .bool p], .pointer (some ⟨b, 0, none⟩)] w fun e w' => e = .returned (.int .i64 (wrap64 (a5.tdiv 1000000))) ∧
      w' = w.alloc (.cells #[.int .i64 a0, .int .i64 a1, .int .i64 a2, .int .i64 a3, .int .i64 a4, .int .i64 a5, .int .i64 a6, .int .i64 a7, .int .i64 a8, .bool p] 24) := by
  go_enter Try.func39, Try.ntmps39
  go_wp2
  go_ret
  exact ⟨rfl, rfl⟩

set_option maxHeartbeats 400000 in
theorem set_wait (n : Int) (b c : Nat) (w : World) (hb : w.cell? ⟨b, 0, none⟩ = some (.func (.func 30) #[] #[])) (v : Value) (hc : w.cell? ⟨c, 5, none⟩ = some v) (hz : w.frozen? ⟨c, 5, none⟩ = false) :
    Calls Try.prog 41 #[.pointer (some ⟨c, 0, none⟩), .int .i64 n, .pointer (some ⟨b, 0, none⟩)] w fun e w' => e = .returned (.tuple #[]) ∧
      w' = w.setCell ⟨c, 5, none⟩ (.int .i64 (wrap64 (n * 1000000))) := by
  go_enter Try.func41, Try.ntmps41
  go_wp2
  go_end0
  exact ⟨rfl, rfl⟩

set_option maxRecDepth 100000 in
set_option maxHeartbeats 800000 in
theorem zget_wait (s : ByteArray) (a0 a1 a2 a3 a4 a5 a6 a7 a8 : Int) (p : Bool) (w : World) :
    Calls Try.prog 12 #[.string s, .agg #[.int .i64 a0, .int .i64 a1, .int .i64 a2, .int .i64 a3, .int .i64 a4, .int .i64 a5, .int .i64 a6, .int .i64 a7, .int .i64 a8, .bool p]] w fun e w' => e = .returned (.int .i64 (wrap64 (a5.tdiv 1000000))) ∧ Below w.heap.size w w' := by
  have hfd := field_get
  go_enter Try.func12, Try.ntmps12
  go_wp2
  go_region_with (first
    | (go_at_call 28; refine (millisOption_any _ _ _).mono ?_; rintro e w' ⟨rfl, rfl⟩)
    | (go_at_call 39; refine (get_wait _ _ _ _ _ _ _ _ _ _ _ _ (by simp) (by go_simp)).mono ?_; rintro e w' ⟨rfl, rfl⟩))
  all_goals
    go_wp2
    go_ret
    refine ⟨rfl, ?_⟩
    repeat (first | exact Below.refl _ _ | apply Below.drew | refine Below.alloc ?_ (by simp; try omega) _)

set_option maxHeartbeats 400000 in
theorem get_idle (a0 a1 a2 a3 a4 a5 a6 a7 a8 : Int) (p : Bool) (b : Nat) (w : World) (hl : b < w.heap.size) (hb : w.cell? ⟨b, 0, none⟩ = some (.func (.func 29) #[] #[])) :
    Calls Try.prog 39 #[.agg #[.int .i64 a0, .int .i64 a1, .int .i64 a2, .int .i64 a3, .int .i64 a4, .int .i64 a5, .int .i64 a6, .int .i64 a7, .int .i64 a8, .bool p], .pointer (some ⟨b, 0, none⟩)] w fun e w' => e = .returned (.int .i64 (wrap64 (a2.tdiv 1000000))) ∧
      w' = w.alloc (.cells #[.int .i64 a0, .int .i64 a1, .int .i64 a2, .int .i64 a3, .int .i64 a4, .int .i64 a5, .int .i64 a6, .int .i64 a7, .int .i64 a8, .bool p] 24) := by
  go_enter Try.func39, Try.ntmps39
  go_wp2
  go_ret
  exact ⟨rfl, rfl⟩

set_option maxHeartbeats 400000 in
theorem set_idle (n : Int) (b c : Nat) (w : World) (hb : w.cell? ⟨b, 0, none⟩ = some (.func (.func 29) #[] #[])) (v : Value) (hc : w.cell? ⟨c, 2, none⟩ = some v) (hz : w.frozen? ⟨c, 2, none⟩ = false) :
    Calls Try.prog 41 #[.pointer (some ⟨c, 0, none⟩), .int .i64 n, .pointer (some ⟨b, 0, none⟩)] w fun e w' => e = .returned (.tuple #[]) ∧
      w' = w.setCell ⟨c, 2, none⟩ (.int .i64 (wrap64 (n * 1000000))) := by
  go_enter Try.func41, Try.ntmps41
  go_wp2
  go_end0
  exact ⟨rfl, rfl⟩

set_option maxRecDepth 100000 in
set_option maxHeartbeats 800000 in
theorem zget_idle (s : ByteArray) (a0 a1 a2 a3 a4 a5 a6 a7 a8 : Int) (p : Bool) (w : World) :
    Calls Try.prog 10 #[.string s, .agg #[.int .i64 a0, .int .i64 a1, .int .i64 a2, .int .i64 a3, .int .i64 a4, .int .i64 a5, .int .i64 a6, .int .i64 a7, .int .i64 a8, .bool p]] w fun e w' => e = .returned (.int .i64 (wrap64 (a2.tdiv 1000000))) ∧ Below w.heap.size w w' := by
  have hfd := field_get
  go_enter Try.func10, Try.ntmps10
  go_wp2
  go_region_with (first
    | (go_at_call 28; refine (millisOption_any _ _ _).mono ?_; rintro e w' ⟨rfl, rfl⟩)
    | (go_at_call 39; refine (get_idle _ _ _ _ _ _ _ _ _ _ _ _ (by simp) (by go_simp)).mono ?_; rintro e w' ⟨rfl, rfl⟩))
  all_goals
    go_wp2
    go_ret
    refine ⟨rfl, ?_⟩
    repeat (first | exact Below.refl _ _ | apply Below.drew | refine Below.alloc ?_ (by simp; try omega) _)
end Go.Proofs.Qxb6615473a
