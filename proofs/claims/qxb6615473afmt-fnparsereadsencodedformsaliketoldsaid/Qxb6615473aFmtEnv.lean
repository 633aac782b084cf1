import Derived.Test.Qxb6615473aFmtZparse
import Derived.Stop.LaidTwo
import Derived.Lib.LaidTab
import Derived.LaidLaws
namespace Go.Proofs.Qxb6615473aFmt
open Go.RowKit Go.Extern.Stop Go.Stop Go.Extern
set_option linter.unusedVariables false

theorem tab_eq : (Rows.laid_net_url_table : DataW Unit) = Lib.tabData .u8 urlTab := by kernel_rfl
theorem urlTab_length : urlTab.length = 256 := by kernel_rfl
theorem row95 {t : String} (u : TypeId) (h : Tryf.prog.typeName? 3 u = some t) (ht : t.toList = Char.ofNat 42 :: "errors.errorString".toList) : u = 95 := by
  refine typeName_ptr_named (P := Tryf.prog) (nm := "errors.errorString") (tp := 95) (by kernel_rfl) (by kernel_rfl) (by decide) u (h.trans (congrArg some ?_))
  apply String.toList_inj.1
  rw [String.toList_append, ht]
  rfl
/-- from the row's cell 'laid' to what the walks ask of the world -/
theorem env_of_laid (W : World) (hL : laidMetH Tryf.prog Rows.fnParseMillisMatchesModelRow.laid W) : ∃ aR aS, Env aR aS W := by
  have hL' : laidMet Tryf.prog Rows.fnParseMillisMatchesModelRow.laid W := hL
  unfold Rows.fnParseMillisMatchesModelRow at hL'
  have h3 := hL'.tail.tail.tail
  have h5 := hL'.tail.tail.tail.tail.tail
  rw [tab_eq] at h5
  have ht := Lib.tabIs_of_head (g := 1) (t := 98) (e := 57) (n := 256) (by kernel_rfl) (by kernel_rfl) Tryf.underlying98 Tryf.underlying57 (by kernel_rfl) (by kernel_rfl) h5
  unfold Rows.laid_strconv_ErrRange Rows.laid_strconv_ErrSyntax at h3
  obtain ⟨a0, a1, s0, s1, c0, c1, t0, t1, hv0, hv1, hc0, hs0, hz0, hc1, hs1, hz1, hne, hb0, hb1⟩ := laid_sentinels2 (g0 := 0) (g1 := 2) h3 (by kernel_rfl) (by kernel_rfl) (by kernel_rfl) (by kernel_rfl) Tryf.underlying24 (fun u h => row95 u h (by decide)) Tryf.underlying95 Tryf.underlying97 rfl rfl Tryf.underlying9 (by kernel_rfl) (by kernel_rfl)
  refine ⟨a0, a1, ?_, ?_, ?_, fun e => hne e.symm, ⟨c0, t0, hb0⟩, ⟨c1, t1, hb1⟩⟩
  · intro i hi
    exact ht.cell (by kernel_rfl) i (by rw [urlTab_length]; exact hi)
  · simpa using World.var?_cell (by kernel_rfl) hv0 0
  · simpa using World.var?_cell (by kernel_rfl) hv1 0
end Go.Proofs.Qxb6615473aFmt
