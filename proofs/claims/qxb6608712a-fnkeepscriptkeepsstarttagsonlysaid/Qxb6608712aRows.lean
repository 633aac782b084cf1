/-
  No cell of these rows narrows 'for every input' (looked for: loops, veiled, ifaces, maps, wideKeys, modest, calm, conditions, laid).
  DERIVED. THE GIVEN ROWS OF THIS SEAT. 1 by the template 'for every input the law returns true; each argument reads behind the call as it read before'; 0 by the template 'total and deterministic' (their statements: Qxb6608712aTotals.lean).
  GIVEN WITH THE SEED: the statements are not yours to turn. If you find one false, say at which input.
  Laid BY PROGRAM, IN A SANDBOX (cutbox-rows.mjs): the forced cells as the released guide's own fill.sh prints them over the translation c0e01ae228d94734… (all of the seat's roots in one cut). By AI agents, Wed Nov 11 2026. No macro, syntax, notation, axiom, sorry.
-/
import Derived.Test.Qxb6608712aChecked
import GoSem.Claim
import GoSem.ClaimJoined
import GoSem.ClaimMapViews
import Derived.JoinedTies
import Derived.KernelRfl
namespace Go.Proofs.Qxb6608712a
/- THE CELL 'sum', in the pinned program and in every row, IS THE sha256 OF THE DUMP (.gsa) THAT Qxb6608712aProg.lean LOADS. Nothing in Lean hashes anything: it is a label: what it is worth is what the hold of that sum in a sandbox is worth. -/
noncomputable def Try.pinned : Pinned := { name := "qxb6608712a", sum := "c0e01ae228d947346a9f0cdb7d0de9fe45e6703f237f510e4b51eb40c0c736d3", checked := Try.checked }
namespace Rows
def none {H : Type} : Left H := { results := [], args := [] }

/-- 'zzlaws_internal_xmldoc_b1.FnKeepScriptKeepsStartTagsOnly': WHATEVER THE INPUT: true; the input reads as it did. -/
def fnKeepScriptKeepsStartTagsOnlySpec : ChangeSpec := { name := "fnKeepScriptKeepsStartTagsOnly", fn := fun _ => fun
  | [d] => { results := [.lit (.bool true)], args := [d] }
  | _ => none }
def fnKeepScriptKeepsStartTagsOnlyRow : OpenClaim := { program := "qxb6608712a", sum := "c0e01ae228d947346a9f0cdb7d0de9fe45e6703f237f510e4b51eb40c0c736d3", func := "example.com/plain-claims/plain-claims/zzlaws_internal_xmldoc_b1.FnKeepScriptKeepsStartTagsOnly", spec := "fnKeepScriptKeepsStartTagsOnly", apart := false }
def FnKeepScriptKeepsStartTagsOnlySaid : Prop := fnKeepScriptKeepsStartTagsOnlyRow.holds Try.pinned (OpenSpec.ofChange fnKeepScriptKeepsStartTagsOnlySpec)

/-- ITS FALSE NEIGHBOUR: 'it returns false'. Refute it at one input. -/
def fnKeepScriptKeepsStartTagsOnlyWrong : ChangeSpec := { name := "fnKeepScriptKeepsStartTagsOnly", fn := fun _ => fun
  | [d] => { results := [.lit (.bool false)], args := [d] }
  | _ => none }
def FnKeepScriptKeepsStartTagsOnlyWrongFalsely : Prop := fnKeepScriptKeepsStartTagsOnlyRow.holds Try.pinned (OpenSpec.ofChange fnKeepScriptKeepsStartTagsOnlyWrong)

end Rows
end Go.Proofs.Qxb6608712a
