import Derived.Test.Qxb6615473aFmtRows
import Derived.Test.Qxb6615473aFmtPlain
import Derived.WalkKit
namespace Go.Proofs.Qxb6615473aFmt
open Go.RowKit

/-- net/url's table, as the program's text lays it -/
def urlTab : List Int := [0, 0, 0, 0, 0, 0, 0, 0, 0, 0, 0, 0, 0, 0, 0, 0, 0, 0, 0, 0, 0, 0, 0, 0, 0, 0, 0, 0, 0, 0, 0, 0, 0, 76, 12, 0, 95, 0, 95, 12, 76, 76, 76, 95, 93, 127, 127, 65, 255, 255, 255, 255, 255, 255, 255, 255, 255, 255, 79, 93, 12, 95, 12, 64, 67, 255, 255, 255, 255, 255, 255, 127, 127, 127, 127, 127, 127, 127, 127, 127, 127, 127, 127, 127, 127, 127, 127, 127, 127, 127, 127, 12, 0, 12, 0, 127, 0, 255, 255, 255, 255, 255, 255, 127, 127, 127, 127, 127, 127, 127, 127, 127, 127, 127, 127, 127, 127, 127, 127, 127, 127, 127, 127, 0, 0, 0, 127, 0, 0, 0, 0, 0, 0, 0, 0, 0, 0, 0, 0, 0, 0, 0, 0, 0, 0, 0, 0, 0, 0, 0, 0, 0, 0, 0, 0, 0, 0, 0, 0, 0, 0, 0, 0, 0, 0, 0, 0, 0, 0, 0, 0, 0, 0, 0, 0, 0, 0, 0, 0, 0, 0, 0, 0, 0, 0, 0, 0, 0, 0, 0, 0, 0, 0, 0, 0, 0, 0, 0, 0, 0, 0, 0, 0, 0, 0, 0, 0, 0, 0, 0, 0, 0, 0, 0, 0, 0, 0, 0, 0, 0, 0, 0, 0, 0, 0, 0, 0, 0, 0, 0, 0, 0, 0, 0, 0, 0, 0, 0, 0, 0, 0, 0, 0, 0, 0, 0, 0, 0, 0, 0, 0, 0, 0, 0, 0, 0]

/-- the table lies in its variable's block -/
def Tab (w : World) : Prop := ∀ i, i < 256 → w.cell? ⟨1, i, none⟩ = some (.int .u8 (urlTab.getD i 0))

theorem tab_hex : ∀ i : Fin 256, (bits BinOp.and IntKind.u8 (urlTab.getD i.1 0) 128 != 0) = decide ((48 ≤ i.1 ∧ i.1 ≤ 57) ∨ (65 ≤ i.1 ∧ i.1 ≤ 70) ∨ (97 ≤ i.1 ∧ i.1 ≤ 102)) := by decide +kernel

theorem ishex_any (c : UInt8) (w : World) (ht : Tab w) :
    Calls Tryf.prog 29 #[.int .u8 c.toNat] w fun e w' => e = .returned (.bool (hexB c)) ∧ w' = w := by
  have hlt : c.toNat < 256 := c.toNat_lt
  have hc := ht c.toNat hlt
  have hr : (bits BinOp.and IntKind.u8 (urlTab.getD c.toNat 0) 128 != 0) = hexB c := tab_hex ⟨c.toNat, hlt⟩
  generalize urlTab.getD c.toNat 0 = v at hc hr
  have HR : Hid ((bits BinOp.and IntKind.u8 v 128 != 0) = hexB c) := hr
  clear hr ht
  have h0 : (0 : Int) ≤ c.toNat := by omega
  have h1 : (c.toNat : Int) ≤ 255 := by omega
  have hc' : w.cell? ⟨1, (c.toNat : Int).toNat, none⟩ = some (.int .u8 v) := hc
  clear hc
  generalize (c.toNat : Int) = x at h0 h1 hc' ⊢
  go_enter Tryf.func29, Tryf.ntmps29
  go_wp2
  go_ret
  refine ⟨?_, rfl⟩
  rw [← HR.out]
  rfl

theorem unhex_any (c : UInt8) (w : World) :
    Calls Tryf.prog 30 #[.int .u8 c.toNat] w fun e w' => e = .returned (.int .u8 (hv c)) ∧ w' = w := by
  have hlt : c.toNat < 256 := c.toNat_lt
  have h0 : (0 : Int) ≤ c.toNat := by omega
  have h1 : (c.toNat : Int) ≤ 255 := by omega
  have hh : (hv c : Int) = 9 * ((c.toNat : Int) / 64) + (c.toNat : Int) % 16 := by unfold hv; omega
  rw [hh]
  generalize (c.toNat : Int) = x at h0 h1 ⊢
  go_enter Tryf.func30, Tryf.ntmps30
  go_wp2
  go_ret
  exact ⟨rfl, rfl⟩
end Go.Proofs.Qxb6615473aFmt
