import Derived.Test.Qxb6615473aWalksA
import Derived.WalkKit
import Derived.ProofKit
import Derived.OpenShut
import Derived.ShutString
import Derived.Deep.RegionWith
import Derived.Deep.QuietTactic
import Derived.BigQuiet
import Derived.Laws.EntriesVeiled
namespace Go.Proofs.Qxb6615473a
open Go.ChangeShapes Go.WideShapes Go.ChangeAt Go.RowKit
set_option linter.unusedVariables false


set_option maxRecDepth 100000 in
set_option maxHeartbeats 800000 in
theorem zset_wait (s : ByteArray) (a0 a1 a2 a3 a4 a5 a6 a7 a8 : Int) (p : Bool) (n : Int) (w : World) :
    Calls Try.prog 13 #[.string s, .agg #[.int .i64 a0, .int .i64 a1, .int .i64 a2, .int .i64 a3, .int .i64 a4, .int .i64 a5, .int .i64 a6, .int .i64 a7, .int .i64 a8, .bool p], .int .i64 n] w fun e w' => e = .returned (.agg #[.int .i64 a0, .int .i64 a1, .int .i64 a2, .int .i64 a3, .int .i64 a4, .int .i64 (wrap64 (n * 1000000)), .int .i64 a6, .int .i64 a7, .int .i64 a8, .bool p]) ∧ Below w.heap.size w w' := by
  go_enter Try.func13, Try.ntmps13
  go_wp2_with (first
    | (go_at_call 28; refine (millisOption_any _ _ _).mono ?_; rintro e w' ⟨rfl, rfl⟩)
    | (go_at_call 41; refine (set_wait _ _ _ _ (by go_simp) _ (by go_simp; rfl) (by go_simp)).mono ?_; rintro e w' ⟨rfl, rfl⟩))
  refine bodyPost_ret (v := .agg #[.int .i64 a0, .int .i64 a1, .int .i64 a2, .int .i64 a3, .int .i64 a4, .int .i64 (wrap64 (n * 1000000)), .int .i64 a6, .int .i64 a7, .int .i64 a8, .bool p]) (by simp [results, Try.results13, go_sem]) rfl ⟨rfl, ?_⟩
  repeat (first | exact Below.refl _ _ | apply Below.drew | refine Below.alloc ?_ (by simp; try omega) _)

set_option maxRecDepth 100000 in
set_option maxHeartbeats 800000 in
theorem zset_idle (s : ByteArray) (a0 a1 a2 a3 a4 a5 a6 a7 a8 : Int) (p : Bool) (n : Int) (w : World) :
    Calls Try.prog 9 #[.string s, .agg #[.int .i64 a0, .int .i64 a1, .int .i64 a2, .int .i64 a3, .int .i64 a4, .int .i64 a5, .int .i64 a6, .int .i64 a7, .int .i64 a8, .bool p], .int .i64 n] w fun e w' => e = .returned (.agg #[.int .i64 a0, .int .i64 a1, .int .i64 (wrap64 (n * 1000000)), .int .i64 a3, .int .i64 a4, .int .i64 a5, .int .i64 a6, .int .i64 a7, .int .i64 a8, .bool p]) ∧ Below w.heap.size w w' := by
  go_enter Try.func9, Try.ntmps9
  go_wp2_with (first
    | (go_at_call 28; refine (millisOption_any _ _ _).mono ?_; rintro e w' ⟨rfl, rfl⟩)
    | (go_at_call 41; refine (set_idle _ _ _ _ (by go_simp) _ (by go_simp; rfl) (by go_simp)).mono ?_; rintro e w' ⟨rfl, rfl⟩))
  refine bodyPost_ret (v := .agg #[.int .i64 a0, .int .i64 a1, .int .i64 (wrap64 (n * 1000000)), .int .i64 a3, .int .i64 a4, .int .i64 a5, .int .i64 a6, .int .i64 a7, .int .i64 a8, .bool p]) (by simp [results, Try.results9, go_sem]) rfl ⟨rfl, ?_⟩
  repeat (first | exact Below.refl _ _ | apply Below.drew | refine Below.alloc ?_ (by simp; try omega) _)
end Go.Proofs.Qxb6615473a
