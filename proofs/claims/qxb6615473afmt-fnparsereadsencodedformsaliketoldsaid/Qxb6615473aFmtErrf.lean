import Derived.Test.Qxb6615473aFmtRows
import Derived.WalkKit
import Derived.Stop.CallBack
import Derived.Stop.IfaceNil
import GoSem.ClaimData
namespace Go.Proofs.Qxb6615473aFmt
open Go.RowKit Go.Extern.Stop Go.Stop Go.Extern
set_option linter.unusedVariables false

theorem call27 (args : Array Value) (w : World) : (callFunc 27 args).run Tryf.prog w = ((FmtStop.errorf #[9, 64] #[24] args).run Tryf.prog w).andThen fun v w' => .ok (.value v) w' :=
  run_callFunc_extern Tryf.func27 (by kernel_rfl) (by kernel_rfl) (by kernel_rfl) (by kernel_rfl) args w
theorem fguard (name : String) (w : World) : (FmtStop.guard name).run Tryf.prog w = .ok () w := by kernel_rfl
-- the three formats: one operand; two; two
theorem fq0 : FmtStop.printed? ⟨#[37, 113, 32, 105, 115, 32, 110, 111, 116, 32, 97, 32, 119, 104, 111, 108, 101, 32, 110, 117, 109, 98, 101, 114]⟩ 1 = some [(0, 113, false)] := by kernel_rfl
theorem fq1 (w : World) : (FmtDoors.printed ⟨#[37, 113, 32, 105, 115, 32, 110, 111, 116, 32, 97, 32, 119, 104, 111, 108, 101, 32, 110, 117, 109, 98, 101, 114]⟩ 1).run Tryf.prog w = .ok [(0, 113, false)] w := by kernel_rfl
theorem fs0 : FmtStop.printed? ⟨#[37, 115, 32, 105, 115, 32, 111, 117, 116, 32, 111, 102, 32, 114, 97, 110, 103, 101, 58, 32, 119, 97, 110, 116, 32, 37, 100, 32, 111, 114, 32, 109, 111, 114, 101]⟩ 2 = some [(0, 115, false), (1, 100, false)] := by kernel_rfl
theorem fs1 (w : World) : (FmtDoors.printed ⟨#[37, 115, 32, 105, 115, 32, 111, 117, 116, 32, 111, 102, 32, 114, 97, 110, 103, 101, 58, 32, 119, 97, 110, 116, 32, 37, 100, 32, 111, 114, 32, 109, 111, 114, 101]⟩ 2).run Tryf.prog w = .ok [(0, 115, false), (1, 100, false)] w := by kernel_rfl
theorem ft0 : FmtStop.printed? ⟨#[37, 115, 32, 105, 115, 32, 111, 117, 116, 32, 111, 102, 32, 114, 97, 110, 103, 101, 58, 32, 119, 97, 110, 116, 32, 97, 116, 32, 109, 111, 115, 116, 32, 37, 100]⟩ 2 = some [(0, 115, false), (1, 100, false)] := by kernel_rfl
theorem ft1 (w : World) : (FmtDoors.printed ⟨#[37, 115, 32, 105, 115, 32, 111, 117, 116, 32, 111, 102, 32, 114, 97, 110, 103, 101, 58, 32, 119, 97, 110, 116, 32, 97, 116, 32, 109, 111, 115, 116, 32, 37, 100]⟩ 2).run Tryf.prog w = .ok [(0, 115, false), (1, 100, false)] w := by kernel_rfl
def shape9 : List UInt8 := [12, 6, 0, 0, 0, 0, 0, 0, 0, 115, 116, 114, 105, 110, 103]
def shape2 : List UInt8 := [5, 5, 0, 0, 0, 0, 0, 0, 0, 105, 110, 116, 54, 52]
theorem op9_113w (name : String) (x : ByteArray) (w : World) : (FmtStop.operand name true 113 false (.iface 9 (.string x))).run Tryf.prog w = .ok (shape9, FmtStop.pack x.data.toList) w := by kernel_rfl
theorem op9_115w (name : String) (x : ByteArray) (w : World) : (FmtStop.operand name true 115 false (.iface 9 (.string x))).run Tryf.prog w = .ok (shape9, FmtStop.pack x.data.toList) w := by kernel_rfl
theorem op2_100w (name : String) (x : Int) (w : World) : (FmtStop.operand name true 100 false (.iface 2 (.int .i64 x))).run Tryf.prog w = .ok (shape2, Go.Extern.Stop.digits 8 (x % 2 ^ 64).toNat) w := by kernel_rfl
theorem ptr95 (w : World) : (FmtStop.ptrTo "errors.errorString").run Tryf.prog w = .ok 95 w := by kernel_rfl
theorem elem95 (w : World) : (elemOf 95).run Tryf.prog w = .ok 97 w := by kernel_rfl
theorem isError95 (w : World) : (FmtDoors.textMethod 95 "Error").run Tryf.prog w = .ok true w := by kernel_rfl

theorem errorf_q (F : Interp) (v : ByteArray) (blk : Nat) (w : World) (hF : F.answers w.tape) (hc0 : w.cell? ⟨blk, 0, none⟩ = some (.iface 9 (.string v))) :
    Calls Tryf.prog 20 #[.string ⟨#[37, 113, 32, 105, 115, 32, 110, 111, 116, 32, 97, 32, 119, 104, 111, 108, 101, 32, 110, 117, 109, 98, 101, 114]⟩, .slice (some ⟨blk, 0, none⟩) 1 1] w fun e w' =>
      (∃ a, e = .returned (.iface 95 (.pointer (some a)))) ∧ Below w.heap.size w w' := by
  have hF' := hF
  unfold Interp.answers at hF'
  have h27 := call27
  have hg := fguard
  have f0 := fq0
  have f1 := fq1
  have o1 := op9_113w
  have p95 := ptr95
  have e95 := elem95
  have i95 := isError95
  go_enter Tryf.func20, Tryf.ntmps20
  go_wp2
  go_ret
  exact ⟨⟨_, rfl⟩, ((Below.refl _ _).alloc (Nat.le_refl _) _).drew⟩

theorem errorf_s (F : Interp) (v : ByteArray) (n : Int) (blk : Nat) (w : World) (hF : F.answers w.tape) (hc0 : w.cell? ⟨blk, 0, none⟩ = some (.iface 9 (.string v))) (hc1 : w.cell? ⟨blk, 1, none⟩ = some (.iface 2 (.int .i64 n))) :
    Calls Tryf.prog 20 #[.string ⟨#[37, 115, 32, 105, 115, 32, 111, 117, 116, 32, 111, 102, 32, 114, 97, 110, 103, 101, 58, 32, 119, 97, 110, 116, 32, 37, 100, 32, 111, 114, 32, 109, 111, 114, 101]⟩, .slice (some ⟨blk, 0, none⟩) 2 2] w fun e w' =>
      (∃ a, e = .returned (.iface 95 (.pointer (some a)))) ∧ Below w.heap.size w w' := by
  have hF' := hF
  unfold Interp.answers at hF'
  have h27 := call27
  have hg := fguard
  have f0 := fs0
  have f1 := fs1
  have o1 := op9_115w
  have o2 := op2_100w
  have p95 := ptr95
  have e95 := elem95
  have i95 := isError95
  go_enter Tryf.func20, Tryf.ntmps20
  go_wp2
  go_ret
  exact ⟨⟨_, rfl⟩, ((Below.refl _ _).alloc (Nat.le_refl _) _).drew⟩

theorem errorf_t (F : Interp) (v : ByteArray) (n : Int) (blk : Nat) (w : World) (hF : F.answers w.tape) (hc0 : w.cell? ⟨blk, 0, none⟩ = some (.iface 9 (.string v))) (hc1 : w.cell? ⟨blk, 1, none⟩ = some (.iface 2 (.int .i64 n))) :
    Calls Tryf.prog 20 #[.string ⟨#[37, 115, 32, 105, 115, 32, 111, 117, 116, 32, 111, 102, 32, 114, 97, 110, 103, 101, 58, 32, 119, 97, 110, 116, 32, 97, 116, 32, 109, 111, 115, 116, 32, 37, 100]⟩, .slice (some ⟨blk, 0, none⟩) 2 2] w fun e w' =>
      (∃ a, e = .returned (.iface 95 (.pointer (some a)))) ∧ Below w.heap.size w w' := by
  have hF' := hF
  unfold Interp.answers at hF'
  have h27 := call27
  have hg := fguard
  have f0 := ft0
  have f1 := ft1
  have o1 := op9_115w
  have o2 := op2_100w
  have p95 := ptr95
  have e95 := elem95
  have i95 := isError95
  go_enter Tryf.func20, Tryf.ntmps20
  go_wp2
  go_ret
  exact ⟨⟨_, rfl⟩, ((Below.refl _ _).alloc (Nat.le_refl _) _).drew⟩
end Go.Proofs.Qxb6615473aFmt
