import Derived.Test.Qxb6615473aFmtEnv
import Derived.Test.Qxb6615473aFmtModel
namespace Go.Proofs.Qxb6615473aFmt
open Go.RowKit Go.Extern.Stop Go.Stop Go.Extern
set_option linter.unusedVariables false

/-! ### the plain law: the model's reading is the parser's -/
theorem model_is (u : List UInt8) : modelNum u = numOf u := by
  unfold modelNum numOf
  match u with
  | [] => rfl
  | c :: r =>
    by_cases hs : c.toNat = 43 ∨ c.toNat = 45
    · simp only [if_pos hs, Lib.parseIntB]
      by_cases hr : r = []
      · subst hr
        rfl
      · rw [if_neg hr]
        by_cases hm : c.toNat = 45
        · rw [decide_eq_true hm, fin_neg r hr]
          cases hx : Lib.parseUintB 64 r with
          | ok v =>
            simp only [hm]
            by_cases hb : 2 ^ (64 - 1) < v
            · simp [hb, show ¬ v = 0 by omega]
            · simp only [hb]
              by_cases hz : v = 0
              · subst hz; simp
              · simp [hz]
          | _ => rfl
        · rw [decide_eq_false hm, fin_pos r hr]
          cases hx : Lib.parseUintB 64 r with
          | ok v =>
            simp only [hm]
            by_cases hb : 2 ^ (64 - 1) ≤ v
            · simp [hb, show ¬ v ≤ 9223372036854 by omega]
            · simp only [hb]
              by_cases hz : v ≤ 9223372036854
              · simp [hz]; omega
              · simp [hz]; omega
          | _ => rfl
    · simp only [if_neg hs, Lib.parseIntB]
      rw [fin_pos (c :: r) (by simp)]
      have hm : ¬ c.toNat = 45 := fun e => hs (.inr e)
      cases hx : Lib.parseUintB 64 (c :: r) with
      | ok v =>
        simp only [hm]
        by_cases hb : 2 ^ (64 - 1) ≤ v
        · simp [hb, show ¬ v ≤ 9223372036854 by omega]
        · simp only [hb]
          by_cases hz : v ≤ 9223372036854
          · simp [hz]; omega
          · simp [hz]; omega
      | _ => rfl

theorem modelAll_is (l : List UInt8) : modelAll l = parseAll l := by
  unfold modelAll parseAll
  cases unesc l with
  | none => rfl
  | some u => exact model_is u

theorem zbytes3_long (s : ByteArray) (w : World) (h : (1048576 : Int) < (s.size : Int)) : Calls Tryf.prog 5 #[.string s] w fun e w' => e = .returned (.bool false) ∧ w' = w := by
  go_enter Tryf.func5, Tryf.ntmps5
  go_wp2
  go_ret
  exact ⟨rfl, rfl⟩
theorem zbytes3 (s : ByteArray) (w : World) (h : (s.size : Int) ≤ 1048576) : Calls Tryf.prog 5 #[.string s] w fun e w' => e = .returned (.bool true) ∧ w' = w := by
  go_enter Tryf.func5, Tryf.ntmps5
  go_wp2
  go_ret
  exact ⟨rfl, rfl⟩

/-- ZZmillisOptionParse, by what the parser reads -/
theorem zparse_by (F : Interp) (nm s : ByteArray) (o : Option Int) (ho : parseAll s.data.toList = o) (w : World) (hF : F.answers w.tape) (hs : (s.size : Int) ≤ 4194304) (aR aS : Addr) (he : Env aR aS w) :
    Calls Tryf.prog 6 #[.string nm, .string s] w fun e w' => PPost o e ∧ Below w.heap.size w w' := by
  subst ho
  exact zparse F nm s w hF hs aR aS he
theorem model_by (s : ByteArray) (o : Option Int) (ho : parseAll s.data.toList = o) (w : World) (hs : (s.size : Int) ≤ 4194304) :
    Calls Tryf.prog 7 #[.string s] w fun e w' => MPost o e ∧ Below w.heap.size w w' := by
  subst ho
  rw [← modelAll_is]
  exact model_any s w hs

set_option maxRecDepth 100000 in
set_option maxHeartbeats 1000000 in
theorem law3_in (F : Interp) (s : ByteArray) (w : World) (hF : F.answers w.tape) (hs : (s.size : Int) ≤ 1048576) (aR aS : Addr) (he : Env aR aS w) :
    Calls Tryf.prog 3 #[.string s] w fun e w' => e = .returned (.bool true) ∧ Below w.heap.size w w' := by
  cases hx : parseAll s.data.toList with
  | some n =>
    have HX : Hid (parseAll s.data.toList = some n) := hx
    have hnn : (n == n) = true := by simp
    clear hx
    go_enter Tryf.func3, Tryf.ntmps3
    go_wp2_with fail
    refine (zbytes3 s w hs).mono ?_
    rintro e w' ⟨rfl, rfl⟩
    go_wp2_with fail
    refine (zparse_by F _ s _ HX.out _ hF (by omega) aR aS he).mono ?_
    rintro e w2 ⟨rfl, hb2⟩
    go_wp2_with fail
    refine (model_by s _ HX.out w2 (by omega)).mono ?_
    rintro e w3 ⟨rfl, hb3⟩
    have hc3 := hb2.trans (hb3.mono hb2.size)
    clear hb2 hb3
    go_wp2_with fail
    go_ret
    exact ⟨rfl, hc3⟩
  | none =>
    have HX : Hid (parseAll s.data.toList = none) := hx
    clear hx
    go_enter Tryf.func3, Tryf.ntmps3
    go_wp2_with fail
    refine (zbytes3 s w hs).mono ?_
    rintro e w' ⟨rfl, rfl⟩
    go_wp2_with fail
    refine (zparse_by F _ s _ HX.out _ hF (by omega) aR aS he).mono ?_
    rintro e w2 ⟨⟨t2, x2, rfl⟩, hb2⟩
    go_wp2_with fail
    refine (model_by s _ HX.out w2 (by omega)).mono ?_
    rintro e w3 ⟨rfl, hb3⟩
    have hc3 := hb2.trans (hb3.mono hb2.size)
    clear hb2 hb3
    go_wp2_with fail
    go_ret
    exact ⟨rfl, hc3⟩
theorem law3_long (s : ByteArray) (w : World) (hs : (1048576 : Int) < (s.size : Int)) :
    Calls Tryf.prog 3 #[.string s] w fun e w' => e = .returned (.bool true) ∧ Below w.heap.size w w' := by
  go_enter Tryf.func3, Tryf.ntmps3
  go_wp2_with fail
  refine (zbytes3_long s w hs).mono ?_
  rintro e w' ⟨rfl, rfl⟩
  go_wp2_with fail
  go_ret
  exact ⟨rfl, Below.refl _ _⟩

theorem law3 (F : Interp) (s : ByteArray) (w : World) (hF : F.answers w.tape) (aR aS : Addr) (he : Env aR aS w) :
    Calls Tryf.prog 3 #[.string s] w fun e w' => e = .returned (.bool true) ∧ Below w.heap.size w w' := by
  by_cases h : (s.size : Int) ≤ 1048576
  · exact law3_in F s w hF h aR aS he
  · exact law3_long s w (by omega)
end Go.Proofs.Qxb6615473aFmt
