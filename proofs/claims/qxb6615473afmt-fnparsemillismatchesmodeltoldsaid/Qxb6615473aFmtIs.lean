import Derived.Test.Qxb6615473aFmtRows
import Derived.WalkKit
import Derived.LaidEql
import Derived.Stop.Asserts
import Derived.RowKitTokens
namespace Go.Proofs.Qxb6615473aFmt
open Go.RowKit Go.Extern.Stop Go.Stop Go.Extern

/-! ### closed facts: what 'reflectlite.TypeOf(target).Comparable()' gives at a sentinel -/
/-- the model's own row for '(rtype).Comparable' -/
def isCmp : Array Value → Sem Value := Extern.ReflectliteType.method fun t => do Extern.Rtype.noPackHeld "Comparable" t; pure (.bool (← typeInfo t).comparable)
theorem isTypeOf (v : Value) (w : World) : (Extern.ReflectliteType.typeOf #[.iface 95 v]).run Tryf.prog w = .ok (.iface 85 (.agg #[.pointer (some ⟨7, 95, none⟩)])) w := by kernel_rfl
theorem isComparable (w : World) : (isCmp #[.agg #[.pointer (some ⟨7, 95, none⟩)]]).run Tryf.prog w = .ok (.bool true) w := by kernel_rfl
theorem isMethodComparable (v : Value) (w : World) : (Go.method 261 85 v "Comparable").run Tryf.prog w = .ok (90, v) w := by kernel_rfl
theorem isComp : (Tryf.prog.info? 95).map (·.comparable) = some true := by kernel_rfl
theorem isSize : (Tryf.prog.info? 97).map (·.size) = some 1 := by kernel_rfl

/-! ### what errors.is's assertions find -/
theorem noIsE (v : Value) (xT : TypeId) (w : World) : (Instr.typeAssert (.iface 95 v) xT 87 true).run Tryf.prog w = .ok (.tuple #[.nilIface, .bool false]) w := run_typeAssert_lacksB Tryf.underlying87 (by kernel_rfl) (by kernel_rfl) v xT w
theorem noUnwrapE (v : Value) (xT : TypeId) (w : World) : (Instr.typeAssert (.iface 95 v) xT 90 true).run Tryf.prog w = .ok (.tuple #[.nilIface, .bool false]) w := run_typeAssert_lacksB Tryf.underlying90 (by kernel_rfl) (by kernel_rfl) v xT w
theorem noUnwrapsE (v : Value) (xT : TypeId) (w : World) : (Instr.typeAssert (.iface 95 v) xT 92 true).run Tryf.prog w = .ok (.tuple #[.nilIface, .bool false]) w := run_typeAssert_lacksB Tryf.underlying92 (by kernel_rfl) (by kernel_rfl) v xT w
theorem noIsN (v : Value) (xT : TypeId) (w : World) : (Instr.typeAssert (.iface 81 v) xT 87 true).run Tryf.prog w = .ok (.tuple #[.nilIface, .bool false]) w := run_typeAssert_lacksB Tryf.underlying87 (by kernel_rfl) (by kernel_rfl) v xT w
theorem hasUnwrapN (v : Value) (xT : TypeId) (w : World) : (Instr.typeAssert (.iface 81 v) xT 90 true).run Tryf.prog w = .ok (.tuple #[.iface 81 v, .bool true]) w := run_typeAssert_hasB Tryf.underlying90 (by kernel_rfl) v xT w
theorem methodUnwrap (v : Value) (w : World) : (Go.method 261 81 v "Unwrap").run Tryf.prog w = .ok (86, v) w := by kernel_rfl

/-- errors.Is(nil, x). -/
theorem is_nil (b : Addr) (w : World) :
    Calls Tryf.prog 19 #[.nilIface, .iface 95 (.pointer (some b))] w fun e w' => e = .returned (.bool false) ∧ w' = w := by
  have hn := run_eql_iface_nil_left (P := Tryf.prog) w 95 (.pointer (some b)) Tryf.underlying24
  go_enter Tryf.func19, Tryf.ntmps19
  go_wp2
  go_ret
  exact ⟨rfl, rfl⟩

set_option maxRecDepth 100000 in
/-- errors.Is(e, x), e a *strconv.NumError whose Err is x itself: one Unwrap, then equal. -/
theorem is_num_same (pb : Nat) (b : Addr) (w : World) (h1 : w.cell? ⟨pb, 2, none⟩ = some (.iface 95 (.pointer (some b)))) :
    Calls Tryf.prog 19 #[.iface 81 (.pointer (some ⟨pb, 0, none⟩)), .iface 95 (.pointer (some b))] w fun e w' => e = .returned (.bool true) ∧ w' = w := by
  obtain ⟨i, hi, hcmp⟩ := Option.map_eq_some_iff.1 isComp
  obtain ⟨j, hj, hjs⟩ := Option.map_eq_some_iff.1 isSize
  have h8 := @run_callFunc_extern Tryf.prog 25 _ Extern.ReflectliteType.typeOf Tryf.func25 (by kernel_rfl) (by kernel_rfl) (by kernel_rfl) (by kernel_rfl)
  have h32 := @run_callFunc_extern Tryf.prog 90 _ isCmp Tryf.func90 (by kernel_rfl) (by kernel_rfl) (by kernel_rfl) (by kernel_rfl)
  have tT := isTypeOf
  have cT := isComparable
  have mR := isMethodComparable
  have nE := noIsE
  have uE := noUnwrapE
  have vE := noUnwrapsE
  have nW := noIsN
  have uW := hasUnwrapN
  have mU := methodUnwrap
  have heq := run_eql_iface_ptr_same (P := Tryf.prog) w b Tryf.underlying24 Tryf.underlying95 hi hcmp hj
  have hty := run_eql_iface_types (P := Tryf.prog) 81 95 (.pointer (some ⟨pb, 0, none⟩)) (.pointer (some b)) Tryf.underlying24 (by decide) w
  go_enter Tryf.func19, Tryf.ntmps19
  go_wp2
  refine wp_loop_rounds 2 ?_
  rw [rounds_succ]
  go_wp2
  rw [rounds_succ]
  go_wp2
  go_ret
  exact ⟨rfl, rfl⟩

set_option maxRecDepth 100000 in
/-- errors.Is(e, x), e a *strconv.NumError whose Err is another error of errors.New's make. -/
theorem is_num_other (pb : Nat) (b a : Addr) (ca cb : Array Value) (ta tb : TypeId) (w : World) (h1 : w.cell? ⟨pb, 2, none⟩ = some (.iface 95 (.pointer (some a)))) (hne : a ≠ b) (ha : w.heap[a.block]? = some (.cells ca ta (0, 0))) (hb : w.heap[b.block]? = some (.cells cb tb (0, 0))) :
    Calls Tryf.prog 19 #[.iface 81 (.pointer (some ⟨pb, 0, none⟩)), .iface 95 (.pointer (some b))] w fun e w' => e = .returned (.bool false) ∧ w' = w := by
  obtain ⟨i, hi, hcmp⟩ := Option.map_eq_some_iff.1 isComp
  obtain ⟨j, hj, hjs⟩ := Option.map_eq_some_iff.1 isSize
  have h8 := @run_callFunc_extern Tryf.prog 25 _ Extern.ReflectliteType.typeOf Tryf.func25 (by kernel_rfl) (by kernel_rfl) (by kernel_rfl) (by kernel_rfl)
  have h32 := @run_callFunc_extern Tryf.prog 90 _ isCmp Tryf.func90 (by kernel_rfl) (by kernel_rfl) (by kernel_rfl) (by kernel_rfl)
  have tT := isTypeOf
  have cT := isComparable
  have mR := isMethodComparable
  have nE := noIsE
  have uE := noUnwrapE
  have vE := noUnwrapsE
  have nW := noIsN
  have uW := hasUnwrapN
  have mU := methodUnwrap
  have heq := run_eql_iface_ptr_other (P := Tryf.prog) w Tryf.underlying24 Tryf.underlying95 hi hcmp hj (by rw [hjs]; decide) hne ha hb
  have hty := run_eql_iface_types (P := Tryf.prog) 81 95 (.pointer (some ⟨pb, 0, none⟩)) (.pointer (some b)) Tryf.underlying24 (by decide) w
  go_enter Tryf.func19, Tryf.ntmps19
  go_wp2
  refine wp_loop_rounds 2 ?_
  rw [rounds_succ]
  go_wp2
  rw [rounds_succ]
  go_wp2
  go_ret
  exact ⟨rfl, rfl⟩
end Go.Proofs.Qxb6615473aFmt
