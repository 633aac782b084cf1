import Derived.Test.Qxb6615473aFmtParse
namespace Go.Proofs.Qxb6615473aFmt
open Go.RowKit Go.Extern.Stop Go.Stop Go.Extern
set_option linter.unusedVariables false

theorem intSat_cases (l : List UInt8) : Lib.intSat 64 l < 0 ∨ 9223372036854 < Lib.intSat 64 l := by
  unfold Lib.intSat
  split
  · left; decide
  · right; decide

/-- (connStringOption).parse, of the option that 'millisOption' makes -/
theorem parse_all (F : Interp) (nm s : ByteArray) (fg fs : Value) (w : World) (hF : F.answers w.tape) (hs : (s.size : Int) ≤ 4194304) (aR aS : Addr) (he : Env aR aS w) :
    Calls Tryf.prog 12 #[.agg #[.string nm, .int .i64 0, .int .i64 9223372036854, fg, fs], .string s] w fun e w' => PPost (parseAll s.data.toList) e ∧ Below w.heap.size w w' := by
  cases hu : unesc s.data.toList with
  | none =>
    have e : parseAll s.data.toList = none := by unfold parseAll; rw [hu]; rfl
    rw [e]
    exact parse_none nm s fg fs w hs aR aS he hu
  | some u =>
    have e : parseAll s.data.toList = numOf u := by unfold parseAll; rw [hu]; rfl
    rw [e]
    by_cases hok : ∃ v, Lib.parseIntB 64 u = .ok v
    · obtain ⟨n, hn⟩ := hok
      by_cases h0 : n < 0
      · have e2 : numOf u = none := by unfold numOf; rw [hn]; exact if_neg (by omega)
        rw [e2]
        exact parse_low F nm s fg fs w hF hs aR aS he u hu n hn h0
      · by_cases h1 : 9223372036854 < n
        · have e2 : numOf u = none := by unfold numOf; rw [hn]; exact if_neg (by omega)
          rw [e2]
          exact parse_high F nm s fg fs w hF hs aR aS he u hu n hn h1
        · have e2 : numOf u = some n := by unfold numOf; rw [hn]; exact if_pos (by omega)
          rw [e2]
          exact parse_in F nm s fg fs w hF hs aR aS he u hu n hn (by omega) (by omega)
    · have hno : ∀ v, Lib.parseIntB 64 u ≠ .ok v := fun v hv => hok ⟨v, hv⟩
      have e2 : numOf u = none := by
        unfold numOf
        cases hx : Lib.parseIntB 64 u with
        | ok v => exact absurd hx (hno v)
        | _ => rfl
      rw [e2]
      by_cases hr : Lib.parseIntB 64 u = .range
      · rcases intSat_cases u with h | h
        · exact parse_rlow F nm s fg fs w hF hs aR aS he u hu hr _ rfl h
        · exact parse_rhigh F nm s fg fs w hF hs aR aS he u hu hr _ rfl h
      · exact parse_bad_all F nm s fg fs w hF hs aR aS he u hu ⟨hno, hr⟩

/-- makeFunc only computes -/
theorem run_makeFunc (fn : Fn) (first cap : Array Value) (w : World) : (Instr.makeFunc fn first cap).run Tryf.prog w = .ok (.func fn first cap) w := rfl

theorem millisOption_any (s : ByteArray) (k : Nat) (w : World) :
    Calls Tryf.prog 10 #[.string s, .func (.func k) #[] #[]] w fun e w' => e = .returned (.agg #[.string s, .int .i64 0, .int .i64 9223372036854, .func (.func 14) #[] #[.pointer (some ⟨w.heap.size, 0, none⟩)], .func (.func 16) #[] #[.pointer (some ⟨w.heap.size, 0, none⟩)]]) ∧
      Below w.heap.size w w' := by
  have hmf := run_makeFunc
  go_enter Tryf.func10, Tryf.ntmps10
  go_wp2
  exact bodyPost_ret (v := .agg #[.string s, .int .i64 0, .int .i64 9223372036854, .func (.func 14) #[] #[.pointer (some ⟨w.heap.size, 0, none⟩)], .func (.func 16) #[] #[.pointer (some ⟨w.heap.size, 0, none⟩)]]) (by simp [results, Tryf.results10, go_sem]) rfl ⟨rfl, ((Below.refl _ _).alloc (Nat.le_refl _) _).alloc (by simp) _⟩

/-- ZZmillisOptionParse -/
theorem zparse (F : Interp) (nm s : ByteArray) (w : World) (hF : F.answers w.tape) (hs : (s.size : Int) ≤ 4194304) (aR aS : Addr) (he : Env aR aS w) :
    Calls Tryf.prog 6 #[.string nm, .string s] w fun e w' => PPost (parseAll s.data.toList) e ∧ Below w.heap.size w w' := by
  cases hc : parseAll s.data.toList with
  | none =>
    go_enter Tryf.func6, Tryf.ntmps6
    go_wp2_with fail
    refine (millisOption_any _ _ _).mono ?_
    rintro e w1 ⟨rfl, hb⟩
    have hp := parse_all F nm s (.func (.func 14) #[] #[.pointer (some ⟨w.heap.size, 0, none⟩)]) (.func (.func 16) #[] #[.pointer (some ⟨w.heap.size, 0, none⟩)]) w1 (by rw [hb.tape]; exact hF) hs aR aS (he.below hb)
    rw [hc] at hp
    have HP : Hid (Calls Tryf.prog 12 #[.agg #[.string nm, .int .i64 0, .int .i64 9223372036854, .func (.func 14) #[] #[.pointer (some ⟨w.heap.size, 0, none⟩)], .func (.func 16) #[] #[.pointer (some ⟨w.heap.size, 0, none⟩)]], .string s] w1 fun e w' => PPost none e ∧ Below w1.heap.size w1 w') := hp
    clear hp hc
    go_wp2_with fail
    refine HP.out.mono ?_
    rintro e w2 ⟨⟨t, x, rfl⟩, hb2⟩
    go_wp2_with fail
    go_ret2
    exact ⟨⟨t, x, rfl⟩, hb.trans (hb2.mono hb.size)⟩
  | some n =>
    go_enter Tryf.func6, Tryf.ntmps6
    go_wp2_with fail
    refine (millisOption_any _ _ _).mono ?_
    rintro e w1 ⟨rfl, hb⟩
    have hp := parse_all F nm s (.func (.func 14) #[] #[.pointer (some ⟨w.heap.size, 0, none⟩)]) (.func (.func 16) #[] #[.pointer (some ⟨w.heap.size, 0, none⟩)]) w1 (by rw [hb.tape]; exact hF) hs aR aS (he.below hb)
    rw [hc] at hp
    have HP : Hid (Calls Tryf.prog 12 #[.agg #[.string nm, .int .i64 0, .int .i64 9223372036854, .func (.func 14) #[] #[.pointer (some ⟨w.heap.size, 0, none⟩)], .func (.func 16) #[] #[.pointer (some ⟨w.heap.size, 0, none⟩)]], .string s] w1 fun e w' => e = .returned (.tuple #[.int .i64 n, .nilIface]) ∧ Below w1.heap.size w1 w') := hp
    clear hp hc
    go_wp2_with fail
    refine HP.out.mono ?_
    rintro e w2 ⟨rfl, hb2⟩
    go_wp2_with fail
    go_ret2
    exact ⟨rfl, hb.trans (hb2.mono hb.size)⟩
end Go.Proofs.Qxb6615473aFmt
