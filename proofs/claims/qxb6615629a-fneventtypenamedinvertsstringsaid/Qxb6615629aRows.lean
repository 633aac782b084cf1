/-
  No cell of these rows narrows 'for every input' (looked for: loops, veiled, ifaces, maps, wideKeys, modest, calm, conditions, laid).
  DERIVED. THE GIVEN ROWS OF THIS SEAT. 3 by the template 'for every input the law returns true; each argument reads behind the call as it read before'; 0 by the template 'total and deterministic' (their statements: Qxb6615629aTotals.lean).
  GIVEN WITH THE SEED: the statements are not yours to turn. If you find one false, say at which input.
  Laid BY PROGRAM, IN A SANDBOX (cutbox-rows.mjs): the forced cells as the released guide's own fill.sh prints them over the translation 084c95ddddb975b6… (all of the seat's roots in one cut). By AI agents, Wed Nov 11 2026. No macro, syntax, notation, axiom, sorry.
-/
import Derived.Test.Qxb6615629aChecked
import GoSem.Claim
import GoSem.ClaimJoined
import GoSem.ClaimMapViews
import Derived.JoinedTies
import Derived.KernelRfl
namespace Go.Proofs.Qxb6615629a
/- THE CELL 'sum', in the pinned program and in every row, IS THE sha256 OF THE DUMP (.gsa) THAT Qxb6615629aProg.lean LOADS. Nothing in Lean hashes anything: it is a label: what it is worth is what the hold of that sum in a sandbox is worth. -/
noncomputable def Try.pinned : Pinned := { name := "qxb6615629a", sum := "084c95ddddb975b6261ca02a3b8869a2c31a06e9a4617023ef5878ff8d678efc", checked := Try.checked }
namespace Rows
def none {H : Type} : Left H := { results := [], args := [] }

/-- 'zzlaws_root_b1.FnEventTypeNamedInvertsString': WHATEVER THE INPUT: true; the input reads as it did. -/
def fnEventTypeNamedInvertsStringSpec : ChangeSpec := { name := "fnEventTypeNamedInvertsString", fn := fun _ => fun
  | [d] => { results := [.lit (.bool true)], args := [d] }
  | _ => none }
def fnEventTypeNamedInvertsStringRow : OpenClaim := { program := "qxb6615629a", sum := "084c95ddddb975b6261ca02a3b8869a2c31a06e9a4617023ef5878ff8d678efc", func := "example.com/assertion/assertion/zzlaws_root_b1.FnEventTypeNamedInvertsString", spec := "fnEventTypeNamedInvertsString", apart := false }
def FnEventTypeNamedInvertsStringSaid : Prop := fnEventTypeNamedInvertsStringRow.holds Try.pinned (OpenSpec.ofChange fnEventTypeNamedInvertsStringSpec)

/-- ITS FALSE NEIGHBOUR: 'it returns false'. Refute it at one input. -/
def fnEventTypeNamedInvertsStringWrong : ChangeSpec := { name := "fnEventTypeNamedInvertsString", fn := fun _ => fun
  | [d] => { results := [.lit (.bool false)], args := [d] }
  | _ => none }
def FnEventTypeNamedInvertsStringWrongFalsely : Prop := fnEventTypeNamedInvertsStringRow.holds Try.pinned (OpenSpec.ofChange fnEventTypeNamedInvertsStringWrong)

/-- 'zzlaws_root_b1.FnEventTypeNamedRefusesLongerNames': WHATEVER THE INPUT: true; the input reads as it did. -/
def fnEventTypeNamedRefusesLongerNamesSpec : ChangeSpec := { name := "fnEventTypeNamedRefusesLongerNames", fn := fun _ => fun
  | [d1, d2] => { results := [.lit (.bool true)], args := [d1, d2] }
  | _ => none }
def fnEventTypeNamedRefusesLongerNamesRow : OpenClaim := { program := "qxb6615629a", sum := "084c95ddddb975b6261ca02a3b8869a2c31a06e9a4617023ef5878ff8d678efc", func := "example.com/assertion/assertion/zzlaws_root_b1.FnEventTypeNamedRefusesLongerNames", spec := "fnEventTypeNamedRefusesLongerNames", apart := false }
def FnEventTypeNamedRefusesLongerNamesSaid : Prop := fnEventTypeNamedRefusesLongerNamesRow.holds Try.pinned (OpenSpec.ofChange fnEventTypeNamedRefusesLongerNamesSpec)

/-- ITS FALSE NEIGHBOUR: 'it returns false'. Refute it at one input. -/
def fnEventTypeNamedRefusesLongerNamesWrong : ChangeSpec := { name := "fnEventTypeNamedRefusesLongerNames", fn := fun _ => fun
  | [d1, d2] => { results := [.lit (.bool false)], args := [d1, d2] }
  | _ => none }
def FnEventTypeNamedRefusesLongerNamesWrongFalsely : Prop := fnEventTypeNamedRefusesLongerNamesRow.holds Try.pinned (OpenSpec.ofChange fnEventTypeNamedRefusesLongerNamesWrong)

/-- 'zzlaws_root_b1.FnNonceLifetimeSameExactlyWhenSettingsAgree': WHATEVER THE INPUT: true; the input reads as it did. -/
def fnNonceLifetimeSameExactlyWhenSettingsAgreeSpec : ChangeSpec := { name := "fnNonceLifetimeSameExactlyWhenSettingsAgree", fn := fun _ => fun
  | [d1, d2] => { results := [.lit (.bool true)], args := [d1, d2] }
  | _ => none }
def fnNonceLifetimeSameExactlyWhenSettingsAgreeRow : OpenClaim := { program := "qxb6615629a", sum := "084c95ddddb975b6261ca02a3b8869a2c31a06e9a4617023ef5878ff8d678efc", func := "example.com/assertion/assertion/zzlaws_root_b1.FnNonceLifetimeSameExactlyWhenSettingsAgree", spec := "fnNonceLifetimeSameExactlyWhenSettingsAgree", apart := false }
def FnNonceLifetimeSameExactlyWhenSettingsAgreeSaid : Prop := fnNonceLifetimeSameExactlyWhenSettingsAgreeRow.holds Try.pinned (OpenSpec.ofChange fnNonceLifetimeSameExactlyWhenSettingsAgreeSpec)

/-- ITS FALSE NEIGHBOUR: 'it returns false'. Refute it at one input. -/
def fnNonceLifetimeSameExactlyWhenSettingsAgreeWrong : ChangeSpec := { name := "fnNonceLifetimeSameExactlyWhenSettingsAgree", fn := fun _ => fun
  | [d1, d2] => { results := [.lit (.bool false)], args := [d1, d2] }
  | _ => none }
def FnNonceLifetimeSameExactlyWhenSettingsAgreeWrongFalsely : Prop := fnNonceLifetimeSameExactlyWhenSettingsAgreeRow.holds Try.pinned (OpenSpec.ofChange fnNonceLifetimeSameExactlyWhenSettingsAgreeWrong)

end Rows
end Go.Proofs.Qxb6615629a
