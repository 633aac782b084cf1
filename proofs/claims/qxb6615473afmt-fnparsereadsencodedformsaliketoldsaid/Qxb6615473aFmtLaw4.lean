import Derived.Test.Qxb6615473aFmtEnv
import Derived.Test.Qxb6615473aFmtPct
namespace Go.Proofs.Qxb6615473aFmt
open Go.RowKit Go.Extern.Stop Go.Stop Go.Extern
set_option linter.unusedVariables false

/-! ### the plain law -/
theorem unesc_plainly : ∀ (l : List UInt8), (∀ c ∈ l, c ≠ 37 ∧ c ≠ 43) → unesc l = some l
  | [], _ => unesc_nil
  | c :: r, h => by
    have h1 := h c (by simp)
    rw [unesc_other c r h1.1 h1.2, unesc_plainly r (fun x hx => h x (by simp [hx]))]
    rfl
theorem digs_plain {ds : List UInt8} (h : Digs ds) : ∀ c ∈ ds, c ≠ 37 ∧ c ≠ 43 := fun c hc => by
  have := h c hc
  constructor
  · rintro rfl; exact absurd this.1 (by decide)
  · rintro rfl; exact absurd this.1 (by decide)
theorem itoa_plain {n : Int} {t : List UInt8} (h : Itoa n t) : ∀ c ∈ t, c ≠ 37 ∧ c ≠ 43 := by
  obtain ⟨ds, rfl, _, _, hd, _⟩ := h
  split
  · intro c hc
    rcases List.mem_cons.1 hc with rfl | hc
    · decide
    · exact digs_plain hd c hc
  · exact digs_plain hd
theorem itoa_len {n : Int} {t : List UInt8} (h : Itoa n t) : t.length ≤ 21 := by
  obtain ⟨ds, rfl, _, hl, _, _⟩ := h
  split
  · simp; omega
  · omega
theorem numOf_itoa {n : Int} {t : List UInt8} (h : Itoa n t) (b1 : -9223372036854775808 ≤ n) (b2 : n ≤ 9223372036854775807) : numOf t = if 0 ≤ n ∧ n ≤ 9223372036854 then some n else none := by
  obtain ⟨ds, rfl, h0, _, hd, hv⟩ := h
  unfold numOf
  by_cases hn : n < 0
  · rw [if_pos hn, parseInt_minus ds h0 hd (by omega)]
    simp only []
    rw [if_neg (by omega), if_neg (by omega)]
  · rw [if_neg hn, parseInt_digs ds h0 hd (by omega)]
    simp only []
    have e : ((decV ds : Nat) : Int) = n := by omega
    rw [e]
theorem numOf_plus {n : Int} {t : List UInt8} (h : Itoa n t) (b1 : 0 ≤ n) (b2 : n ≤ 9223372036854) : numOf (43 :: t) = some n := by
  obtain ⟨ds, rfl, h0, _, hd, hv⟩ := h
  unfold numOf
  rw [if_neg (by omega), parseInt_plus ds h0 hd (by omega)]
  simp only []
  have e : ((decV ds : Nat) : Int) = n := by omega
  rw [e, if_pos ⟨b1, b2⟩]
theorem numOf_space (t : List UInt8) : numOf (32 :: t) = none := by
  unfold numOf
  have e1 : (32 : UInt8).toNat = 32 := rfl
  simp [Lib.parseIntB, Lib.parseUintB, Lib.parseUintM, e1]

theorem all_plain {n : Int} {t : List UInt8} (h : Itoa n t) : parseAll t = numOf t := by
  unfold parseAll
  rw [unesc_plainly t (itoa_plain h)]
  rfl
theorem all_pct (lo : Bool) (t : List UInt8) : parseAll (pctAll lo t) = numOf t := by
  unfold parseAll
  have := unesc_pctAll lo t []
  rw [List.append_nil, unesc_nil] at this
  rw [this]
  simp
theorem all_signed (lo : Bool) {n : Int} {t : List UInt8} (h : Itoa n t) : parseAll (pctAll lo [43] ++ t) = numOf (43 :: t) := by
  unfold parseAll
  rw [unesc_pctAll lo [43] t, unesc_plainly t (itoa_plain h)]
  rfl
theorem all_bare {n : Int} {t : List UInt8} (h : Itoa n t) : parseAll (43 :: t) = none := by
  unfold parseAll
  rw [unesc_plus, unesc_plainly t (itoa_plain h)]
  exact numOf_space t

/-- ZZmillisOptionParse at a text that is spelt as a list -/
theorem zparse_at (F : Interp) (nm s : ByteArray) (l : List UInt8) (o : Option Int) (hl : s.data.toList = l) (ho : parseAll l = o) (w : World) (hF : F.answers w.tape) (hs : (s.size : Int) ≤ 4194304) (aR aS : Addr) (he : Env aR aS w) :
    Calls Tryf.prog 6 #[.string nm, .string s] w fun e w' => PPost o e ∧ Below w.heap.size w w' := by
  subst hl
  subst ho
  exact zparse F nm s w hF hs aR aS he

theorem app_list (a b : ByteArray) : (a ++ b).data.toList = a.data.toList ++ b.data.toList := by simp [ByteArray.data_append]
theorem itoa_str (n : Int) (w : World) (wn : (Lit.int .i64 n).wf = true) :
    Calls Tryf.prog 8 #[.int .i64 n] w fun e w' => ∃ T : ByteArray, e = .returned (.string T) ∧ Itoa n T.data.toList ∧ T.size ≤ 21 ∧ Below w.heap.size w w' := by
  refine (itoa_any n w wn).mono ?_
  rintro e w' ⟨t, rfl, hit, hb⟩
  exact ⟨⟨t.toArray⟩, rfl, by simpa using hit, by have := itoa_len hit; simpa [ByteArray.size] using this, hb⟩
theorem percent_str (s : ByteArray) (lo : Bool) (w : World) (hs : s.size ≤ 21) :
    Calls Tryf.prog 9 #[.string s, .bool lo] w fun e w' => ∃ P : ByteArray, e = .returned (.string P) ∧ P.data.toList = pctAll lo s.data.toList ∧ P.size ≤ 63 ∧ Below w.heap.size w w' := by
  refine (percent_any s lo w (by omega)).mono ?_
  rintro e w' ⟨rfl, hb⟩
  refine ⟨_, rfl, by simp, ?_, hb⟩
  have h1 := pctAll_length lo s.data.toList
  have h2 : s.data.toList.length = s.size := by simp
  have h3 : (⟨(pctAll lo s.data.toList).toArray⟩ : ByteArray).size = (pctAll lo s.data.toList).length := by simp [ByteArray.size]
  omega

set_option maxRecDepth 100000 in
set_option maxHeartbeats 1000000 in
theorem law4_out (F : Interp) (n : Int) (lo : Bool) (w : World) (hF : F.answers w.tape) (wn : (Lit.int .i64 n).wf = true) (aR aS : Addr) (he : Env aR aS w) (hr : n < 0 ∨ 9223372036854 < n) :
    Calls Tryf.prog 4 #[.int .i64 n, .bool lo] w fun e w' => e = .returned (.bool true) ∧ Below w.heap.size w w' := by
  have hb := bounds_i64 wn
  rcases hr with hr | hr
  all_goals
    go_enter Tryf.func4, Tryf.ntmps4
    go_wp2_with fail
    refine (itoa_str n w wn).mono ?_
    rintro e w1 ⟨T, rfl, hit, hl, hb1⟩
    have he1 := he.below hb1
    have hF1 : F.answers w1.tape := by rw [hb1.tape]; exact hF
    have hnum : Hid (numOf T.data.toList = none) := by
      have : numOf T.data.toList = none := by rw [numOf_itoa hit hb.1 hb.2, if_neg (by omega)]
      exact this
    have HIT : Hid (Itoa n T.data.toList) := hit
    clear hit
    go_wp2_with fail
    refine (zparse_at F _ T T.data.toList none rfl ((all_plain HIT.out).trans hnum.out) w1 hF1 (by omega) aR aS he1).mono ?_
    rintro e w2 ⟨⟨t1, x1, rfl⟩, hb2⟩
    have he2 := he1.below hb2
    have hF2 : F.answers w2.tape := by rw [hb2.tape]; exact hF1
    have hc2 : Below w.heap.size w w2 := hb1.trans (hb2.mono hb1.size)
    clear hb2
    go_wp2_with fail
    refine (percent_str T lo w2 hl).mono ?_
    rintro e w3 ⟨P, rfl, hP, hPs, hb3⟩
    have he3 := he2.below hb3
    have hF3 : F.answers w3.tape := by rw [hb3.tape]; exact hF2
    have hc3 : Below w.heap.size w w3 := hc2.trans (hb3.mono hc2.size)
    have HP : Hid (P.data.toList = pctAll lo T.data.toList) := hP
    clear hb3 hP
    go_wp2_with fail
    refine (zparse_at F _ P (pctAll lo T.data.toList) none HP.out ((all_pct lo _).trans hnum.out) w3 hF3 (by omega) aR aS he3).mono ?_
    rintro e w4 ⟨⟨t2, x2, rfl⟩, hb4⟩
    have hc4 : Below w.heap.size w w4 := hc3.trans (hb4.mono hc3.size)
    clear hb4
    go_wp2_with fail
    go_ret
    exact ⟨rfl, hc4⟩

set_option maxRecDepth 100000 in
set_option maxHeartbeats 1000000 in
theorem law4_in (F : Interp) (n : Int) (lo : Bool) (w : World) (hF : F.answers w.tape) (wn : (Lit.int .i64 n).wf = true) (aR aS : Addr) (he : Env aR aS w) (h0 : 0 ≤ n) (h1 : n ≤ 9223372036854) :
    Calls Tryf.prog 4 #[.int .i64 n, .bool lo] w fun e w' => e = .returned (.bool true) ∧ Below w.heap.size w w' := by
  have hb := bounds_i64 wn
  have hnn : (n == n) = true := by simp
  go_enter Tryf.func4, Tryf.ntmps4
  go_wp2_with fail
  refine (itoa_str n w wn).mono ?_
  rintro e w1 ⟨T, rfl, hit, hl, hb1⟩
  have he1 := he.below hb1
  have hF1 : F.answers w1.tape := by rw [hb1.tape]; exact hF
  have hnum : Hid (numOf T.data.toList = some n) := by
    have : numOf T.data.toList = some n := by rw [numOf_itoa hit hb.1 hb.2, if_pos ⟨h0, h1⟩]
    exact this
  have HIT : Hid (Itoa n T.data.toList) := hit
  clear hit
  go_wp2_with fail
  refine (zparse_at F _ T T.data.toList (some n) rfl ((all_plain HIT.out).trans hnum.out) w1 hF1 (by omega) aR aS he1).mono ?_
  rintro e w2 ⟨rfl, hb2⟩
  have he2 := he1.below hb2
  have hF2 : F.answers w2.tape := by rw [hb2.tape]; exact hF1
  have hc2 : Below w.heap.size w w2 := hb1.trans (hb2.mono hb1.size)
  clear hb2
  go_wp2_with fail
  refine (percent_str T lo w2 hl).mono ?_
  rintro e w3 ⟨P, rfl, hP, hPs, hb3⟩
  have he3 := he2.below hb3
  have hF3 : F.answers w3.tape := by rw [hb3.tape]; exact hF2
  have hc3 : Below w.heap.size w w3 := hc2.trans (hb3.mono hc2.size)
  have HP : Hid (P.data.toList = pctAll lo T.data.toList) := hP
  clear hb3 hP
  go_wp2_with fail
  refine (zparse_at F _ P (pctAll lo T.data.toList) (some n) HP.out ((all_pct lo _).trans hnum.out) w3 hF3 (by omega) aR aS he3).mono ?_
  rintro e w4 ⟨rfl, hb4⟩
  have he4 := he3.below hb4
  have hF4 : F.answers w4.tape := by rw [hb4.tape]; exact hF3
  have hc4 : Below w.heap.size w w4 := hc3.trans (hb4.mono hc3.size)
  clear hb4
  go_wp2_with fail
  refine (percent_str ⟨#[43]⟩ lo w4 (by decide)).mono ?_
  rintro e w5 ⟨Q, rfl, hQ, hQs, hb5⟩
  have he5 := he4.below hb5
  have hF5 : F.answers w5.tape := by rw [hb5.tape]; exact hF4
  have hc5 : Below w.heap.size w w5 := hc4.trans (hb5.mono hc4.size)
  have HQ : Hid (Q.data.toList = pctAll lo [43]) := hQ
  have hcat : ¬ (9223372036854775807 < Q.size + T.size) := by omega
  clear hb5 hQ
  go_wp2_with fail
  refine (zparse_at F _ (Q ++ T) (pctAll lo [43] ++ T.data.toList) (some n) (by rw [app_list, HQ.out]) ((all_signed lo HIT.out).trans (numOf_plus HIT.out h0 h1)) w5 hF5 (by rw [ByteArray.size_append]; omega) aR aS he5).mono ?_
  rintro e w6 ⟨rfl, hb6⟩
  have he6 := he5.below hb6
  have hF6 : F.answers w6.tape := by rw [hb6.tape]; exact hF5
  have hc6 : Below w.heap.size w w6 := hc5.trans (hb6.mono hc5.size)
  have hcat2 : ¬ (9223372036854775807 < 1 + T.size) := by omega
  clear hb6
  go_wp2_with fail
  refine (zparse_at F _ _ (43 :: T.data.toList) none (by rw [app_list]; rfl) (all_bare HIT.out) w6 hF6 (by rw [ByteArray.size_append]; have : (⟨#[43]⟩ : ByteArray).size = 1 := rfl; omega) aR aS he6).mono ?_
  rintro e w7 ⟨⟨t7, x7, rfl⟩, hb7⟩
  have hc7 : Below w.heap.size w w7 := hc6.trans (hb7.mono hc6.size)
  clear hb7
  go_wp2_with fail
  go_ret
  exact ⟨rfl, hc7⟩

theorem law4 (F : Interp) (n : Int) (lo : Bool) (w : World) (hF : F.answers w.tape) (wn : (Lit.int .i64 n).wf = true) (aR aS : Addr) (he : Env aR aS w) :
    Calls Tryf.prog 4 #[.int .i64 n, .bool lo] w fun e w' => e = .returned (.bool true) ∧ Below w.heap.size w w' := by
  by_cases h : n < 0 ∨ 9223372036854 < n
  · exact law4_out F n lo w hF wn aR aS he h
  · exact law4_in F n lo w hF wn aR aS he (by omega) (by omega)
end Go.Proofs.Qxb6615473aFmt
