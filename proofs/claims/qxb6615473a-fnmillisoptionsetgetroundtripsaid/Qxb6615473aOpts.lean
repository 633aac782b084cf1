import Derived.Test.Qxb6615473aRows
import Derived.WalkKit
import Derived.ProofKit
import Derived.OpenShut
namespace Go.Proofs.Qxb6615473a
open Go.ChangeShapes Go.WideShapes Go.ChangeAt Go.RowKit

theorem cells24 : Try.prog.cellsOf 24 = 10 := by kernel_rfl
theorem cells22 : Try.prog.cellsOf 22 = 1 := by kernel_rfl
theorem cells3 : Try.prog.cellsOf 3 = 1 := by kernel_rfl
theorem cells4 : Try.prog.cellsOf 4 = 1 := by kernel_rfl

theorem array10 {α : Type} {cs : Array α} (h : cs.size = 10) : ∃ c0 c1 c2 c3 c4 c5 c6 c7 c8 c9, cs = #[c0, c1, c2, c3, c4, c5, c6, c7, c8, c9] := by
  obtain ⟨l⟩ := cs
  match l, h with
  | [c0, c1, c2, c3, c4, c5, c6, c7, c8, c9], _ => exact ⟨c0, c1, c2, c3, c4, c5, c6, c7, c8, c9, rfl⟩

set_option maxRecDepth 100000 in
/-- an Options value that came in: nine integers and a bool, each integer fitting -/
theorem open_opts {H : Type} {enc : TypeId × Value → H} {W : World} {r : Reach} {b0 base : Nat} {spare : Nat → Bool} {held : Bool} {v : Value} {d : DataW H} {ps : List MemPlace}
    (hv : Value.okWide Try.prog W r b0 24 v) (h : DataW.Trod enc Try.prog W base spare held 24 v d ps) :
    ∃ (a0 a1 a2 a3 a4 a5 a6 a7 a8 : Int) (p : Bool), v = .agg #[.int .i64 a0, .int .i64 a1, .int .i64 a2, .int .i64 a3, .int .i64 a4, .int .i64 a5, .int .i64 a6, .int .i64 a7, .int .i64 a8, .bool p] ∧
      (Lit.int .i64 a2).wf = true ∧ (Lit.int .i64 a5).wf = true := by
  obtain ⟨cs, rfl, hsz⟩ := okWide_struct Try.underlying24 hv
  obtain ⟨c0, c1, c2, c3, c4, c5, c6, c7, c8, c9, rfl⟩ := array10 (hsz.trans cells24)
  obtain ⟨fuel, hf⟩ := h
  obtain ⟨xs, n, _, _, _, hl, hx⟩ := DataW.trod_struct Try.underlying24 hf
  have hl : xs.length = 10 := hl
  match xs, hl with
  | [x0, x1, x2, x3, x4, x5, x6, x7, x8, x9], _ =>
    have g0 := hx 0 _ rfl
    have g1 := hx 1 _ rfl
    have g2 := hx 2 _ rfl
    have g3 := hx 3 _ rfl
    have g4 := hx 4 _ rfl
    have g5 := hx 5 _ rfl
    have g6 := hx 6 _ rfl
    have g7 := hx 7 _ rfl
    have g8 := hx 8 _ rfl
    have g9 := hx 9 _ rfl
    simp [Value.cells, cells22, cells3, cells4] at g0 g1 g2 g3 g4 g5 g6 g7 g8 g9
    obtain ⟨a0, e0, -, -⟩ := DataW.trod_int Try.underlying3 g0
    obtain ⟨a1, e1, -, -⟩ := DataW.trod_int Try.underlying3 g1
    obtain ⟨a2, e2, -, w2⟩ := DataW.trod_int Try.underlying22 g2
    obtain ⟨a3, e3, -, -⟩ := DataW.trod_int Try.underlying22 g3
    obtain ⟨a4, e4, -, -⟩ := DataW.trod_int Try.underlying3 g4
    obtain ⟨a5, e5, -, w5⟩ := DataW.trod_int Try.underlying22 g5
    obtain ⟨a6, e6, -, -⟩ := DataW.trod_int Try.underlying22 g6
    obtain ⟨a7, e7, -, -⟩ := DataW.trod_int Try.underlying22 g7
    obtain ⟨a8, e8, -, -⟩ := DataW.trod_int Try.underlying22 g8
    obtain ⟨p, e9, -⟩ := DataW.trod_bool Try.underlying4 g9
    simp at e0 e1 e2 e3 e4 e5 e6 e7 e8 e9
    subst e0 e1 e2 e3 e4 e5 e6 e7 e8 e9
    exact ⟨a0, a1, a2, a3, a4, a5, a6, a7, a8, p, rfl, w2, w5⟩
end Go.Proofs.Qxb6615473a
