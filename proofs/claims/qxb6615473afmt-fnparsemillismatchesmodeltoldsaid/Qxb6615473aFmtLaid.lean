import Derived.Test.Qxb6615473aFmtEnv
import Derived.Deep.DeepWitnessRef
import Derived.Lib.LaidIn
import Derived.ProofKit
import Derived.WideWitness
namespace Go.Proofs.Qxb6615473aFmt
set_option linter.unusedVariables false
/-- the small tables, as the program's text lays them -/
def zDb32 : List Int := [0, 1, 28, 2, 29, 14, 24, 3, 30, 22, 20, 15, 25, 17, 4, 8, 31, 27, 13, 23, 21, 19, 16, 7, 26, 12, 18, 6, 11, 5, 10, 9]
def zDb64 : List Int := [0, 1, 56, 2, 57, 49, 28, 3, 61, 58, 42, 50, 38, 29, 17, 4, 62, 47, 59, 36, 45, 43, 51, 22, 53, 39, 33, 30, 24, 18, 12, 5, 63, 55, 48, 27, 60, 41, 37, 16, 46, 35, 44, 21, 52, 32, 23, 11, 54, 26, 40, 15, 34, 20, 31, 10, 25, 14, 19, 9, 13, 8, 7, 6]
def zPow10 : List Int := [1, 10, 100, 1000, 10000, 100000, 1000000, 10000000, 100000000, 1000000000, 10000000000, 100000000000, 1000000000000, 10000000000000, 100000000000000, 1000000000000000, 10000000000000000, 100000000000000000, 1000000000000000000, 10000000000000000000]
/-- a block's cells turned -/
def putCells (h : Array Obj) (g : Nat) (cs : Array Value) : Array Obj := h.modify g fun
  | .cells _ t frozen => .cells cs t frozen
  | o => o
/-- the six listed variables as their initialisers leave them; N: where the two new errors lie -/
def laidHeap (N : Nat) (h : Array Obj) : Array Obj :=
  putCells (putCells (putCells (putCells (putCells (putCells h 0 #[.iface 95 (.pointer (some ⟨N, 0, none⟩))]) 2 #[.iface 95 (.pointer (some ⟨N + 1, 0, none⟩))]) 1 (urlTab.map (Value.int .u8)).toArray) 4 (zPow10.map (Value.int .u64)).toArray) 5 (zDb32.map (Value.int .u8)).toArray) 6 (zDb64.map (Value.int .u8)).toArray
/-- the two errors' blocks -/
def laidBlocks : Array Obj := #[.cells #[.string ⟨#[118, 97, 108, 117, 101, 32, 111, 117, 116, 32, 111, 102, 32, 114, 97, 110, 103, 101]⟩] 97, .cells #[.string ⟨#[105, 110, 118, 97, 108, 105, 100, 32, 115, 121, 110, 116, 97, 120]⟩] 97]

set_option maxRecDepth 1000000 in
/-- THE START THAT IS SHOWN TO BE THERE: the listed variables read as listed -/
theorem laid_in (os : Os) (args : Array Value) : LaidIn Tryf.prog (({ World.holding Tryf.prog os ⟨laidBlocks, #[], []⟩ with heap := laidHeap (World.settled Tryf.prog os).heap.size (World.holding Tryf.prog os ⟨laidBlocks, #[], []⟩).heap } : World).forCall (fun _ _ => 0) ⟨#[], args, []⟩).memory Rows.fnParseMillisMatchesModelRow.laid (List.range 400) :=
  LaidIn.of_run (List.range 400) 10 (by kernel_rfl) (by kernel_rfl) (by kernel_rfl) (by kernel_rfl)
theorem laid_met (os : Os) (args : Array Value) : laidMet Tryf.prog Rows.fnParseMillisMatchesModelRow.laid (({ World.holding Tryf.prog os ⟨laidBlocks, #[], []⟩ with heap := laidHeap (World.settled Tryf.prog os).heap.size (World.holding Tryf.prog os ⟨laidBlocks, #[], []⟩).heap } : World).forCall (fun _ _ => 0) ⟨#[], args, []⟩).memory := (laid_in os args).met
end Go.Proofs.Qxb6615473aFmt
