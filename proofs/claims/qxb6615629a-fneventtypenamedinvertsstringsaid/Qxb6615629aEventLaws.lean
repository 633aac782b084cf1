import Derived.Test.Qxb6615629aEventWalks
import Derived.WalkKit
import Derived.ProofKit
import Derived.OpenShut
namespace Go.Proofs.Qxb6615629a
open Go.ChangeShapes Go.WideShapes Go.ChangeAt Go.RowKit
set_option linter.unusedVariables false

theorem n1 : namedOf nmDisabled = 1 := by decide +kernel
theorem n2 : namedOf nmEnabled = 2 := by decide +kernel
theorem n3 : namedOf nmRevoked = 3 := by decide +kernel
theorem n4 : namedOf nmDelete = 4 := by decide +kernel
theorem nU : namedOf nmUnknown = 0 := by decide +kernel

theorem inv1 (w : World) : Calls Try.prog 3 #[.int .i64 1] w fun e w' => e = .returned (.bool true) ∧ w' = w := by
  go_enter Try.func3, Try.ntmps3
  go_wp2_with fail
  refine (string1 _).mono ?_
  rintro e w' ⟨rfl, rfl⟩
  go_wp2_with fail
  refine (znamed_at _ _ 1 n1).mono ?_
  rintro e w' ⟨rfl, rfl⟩
  go_wp2_with fail
  refine (string1 _).mono ?_
  rintro e w' ⟨rfl, rfl⟩
  go_wp2_with fail
  go_ret
  exact ⟨rfl, rfl⟩
theorem inv2 (w : World) : Calls Try.prog 3 #[.int .i64 2] w fun e w' => e = .returned (.bool true) ∧ w' = w := by
  go_enter Try.func3, Try.ntmps3
  go_wp2_with fail
  refine (string2 _).mono ?_
  rintro e w' ⟨rfl, rfl⟩
  go_wp2_with fail
  refine (znamed_at _ _ 2 n2).mono ?_
  rintro e w' ⟨rfl, rfl⟩
  go_wp2_with fail
  refine (string2 _).mono ?_
  rintro e w' ⟨rfl, rfl⟩
  go_wp2_with fail
  go_ret
  exact ⟨rfl, rfl⟩
theorem inv3 (w : World) : Calls Try.prog 3 #[.int .i64 3] w fun e w' => e = .returned (.bool true) ∧ w' = w := by
  go_enter Try.func3, Try.ntmps3
  go_wp2_with fail
  refine (string3 _).mono ?_
  rintro e w' ⟨rfl, rfl⟩
  go_wp2_with fail
  refine (znamed_at _ _ 3 n3).mono ?_
  rintro e w' ⟨rfl, rfl⟩
  go_wp2_with fail
  refine (string3 _).mono ?_
  rintro e w' ⟨rfl, rfl⟩
  go_wp2_with fail
  go_ret
  exact ⟨rfl, rfl⟩
theorem inv4 (w : World) : Calls Try.prog 3 #[.int .i64 4] w fun e w' => e = .returned (.bool true) ∧ w' = w := by
  go_enter Try.func3, Try.ntmps3
  go_wp2_with fail
  refine (string4 _).mono ?_
  rintro e w' ⟨rfl, rfl⟩
  go_wp2_with fail
  refine (znamed_at _ _ 4 n4).mono ?_
  rintro e w' ⟨rfl, rfl⟩
  go_wp2_with fail
  refine (string4 _).mono ?_
  rintro e w' ⟨rfl, rfl⟩
  go_wp2_with fail
  go_ret
  exact ⟨rfl, rfl⟩
theorem invU (t : Int) (h : t < 1 ∨ 4 < t) (w : World) : Calls Try.prog 3 #[.int .i64 t] w fun e w' => e = .returned (.bool true) ∧ w' = w := by
  have h1 : (t == 1) = false := beq_eq_false_iff_ne.2 (by omega)
  have h2 : (t == 2) = false := beq_eq_false_iff_ne.2 (by omega)
  have h3 : (t == 3) = false := beq_eq_false_iff_ne.2 (by omega)
  have h4 : (t == 4) = false := beq_eq_false_iff_ne.2 (by omega)
  rcases h with h | h
  all_goals
    go_enter Try.func3, Try.ntmps3
    go_wp2_with fail
    refine (stringU t h1 h2 h3 h4 _).mono ?_
    rintro e w' ⟨rfl, rfl⟩
    go_wp2_with fail
    refine (znamed_at _ _ 0 nU).mono ?_
    rintro e w' ⟨rfl, rfl⟩
    go_wp2_with fail
    refine (stringU 0 rfl rfl rfl rfl _).mono ?_
    rintro e w' ⟨rfl, rfl⟩
    go_wp2_with fail
    go_ret
    exact ⟨rfl, rfl⟩

theorem law_inverts (t : Int) (w : World) : Calls Try.prog 3 #[.int .i64 t] w fun e w' => e = .returned (.bool true) ∧ Grown w w' := by
  have hk : t = 1 ∨ t = 2 ∨ t = 3 ∨ t = 4 ∨ (t < 1 ∨ 4 < t) := by omega
  have key : Calls Try.prog 3 #[.int .i64 t] w fun e w' => e = .returned (.bool true) ∧ w' = w := by
    rcases hk with rfl | rfl | rfl | rfl | h
    · exact inv1 w
    · exact inv2 w
    · exact inv3 w
    · exact inv4 w
    · exact invU t h w
  refine key.mono ?_
  rintro e w' ⟨rfl, rfl⟩
  exact ⟨rfl, Grown.refl _⟩

theorem bytes8 (t : Int) (x : ByteArray) (hx : (x.size : Int) ≤ 4096) (w : World) : Calls Try.prog 8 #[.int .i64 t, .string x] w fun e w' => e = .returned (.bool true) ∧ w' = w := by
  go_enter Try.func8, Try.ntmps8
  go_wp2
  go_ret
  exact ⟨rfl, rfl⟩


/-- the walk of the law at one name: 'hs': what String gives for t; 'k': what the name alone is looked up as; 'l': what the longer text is looked up as -/
theorem longer_gen (t k l : Int) (nm x : ByteArray) (hs : ∀ w, Calls Try.prog 6 #[.int .i64 t] w fun e w' => e = .returned (.string nm) ∧ w' = w) (hk : namedOf nm = k) (hl : namedOf (nm ++ x) = l)
    (ht : (1 ≤ t ∧ t ≤ 4 ∧ k = t) ∨ (t < 1 ∧ k = 0) ∨ (4 < t ∧ k = 0)) (hx : (x.size : Int) ≤ 4096) (hn : nm.size ≤ 100)
    (he : (x = ⟨#[]⟩ ∧ l = k) ∨ ((x.toList == []) = false ∧ l = 0)) (w : World) : Calls Try.prog 4 #[.int .i64 t, .string x] w fun e w' => e = .returned (.bool true) ∧ w' = w := by
  have hcat : ¬ (9223372036854775807 < nm.size + x.size) := by omega
  have HS : Hid (∀ w, Calls Try.prog 6 #[.int .i64 t] w fun e w' => e = .returned (.string nm) ∧ w' = w) := hs
  have HK : Hid (namedOf nm = k) := hk
  have HL : Hid (namedOf (nm ++ x) = l) := hl
  clear hs hk hl
  rcases ht with ⟨t1, t4, rfl⟩ | ⟨t1, rfl⟩ | ⟨t4, rfl⟩
  all_goals
    rcases he with ⟨rfl, rfl⟩ | ⟨hne, rfl⟩
    all_goals
      go_enter Try.func4, Try.ntmps4
      go_wp2_with fail
      refine (bytes8 _ _ hx _).mono ?_
      rintro e w' ⟨rfl, rfl⟩
      go_wp2_with fail
      refine (HS.out _).mono ?_
      rintro e w' ⟨rfl, rfl⟩
      go_wp2_with fail
      refine (znamed_at _ _ _ HK.out).mono ?_
      rintro e w' ⟨rfl, rfl⟩
      go_wp2_with fail
      refine (znamed_at _ _ _ HL.out).mono ?_
      rintro e w' ⟨rfl, rfl⟩
      go_wp2_with fail
      go_ret
      exact ⟨rfl, rfl⟩

theorem not_ext (a b l : List UInt8) (hl : l ≠ []) (h : (b.isPrefixOf a && decide (b.length < a.length)) = false) : a ≠ b ++ l := by
  intro e
  have h1 : b.isPrefixOf a = true := by rw [e]; simp
  have h2 : b.length < a.length := by
    have : 0 < l.length := List.length_pos_iff.2 hl
    rw [e, List.length_append]; omega
  rw [h1] at h
  simp at h
  omega

theorem toList_app (a b : ByteArray) : (a ++ b).toList = a.toList ++ b.toList := by
  rw [ByteArray.toList_eq, ByteArray.toList_eq, ByteArray.toList_eq]
  simp

theorem named_ext (nm x : ByteArray) (hx : x.toList ≠ []) (h1 : (nm.toList.isPrefixOf (nmAt 1) && decide (nm.toList.length < (nmAt 1).length)) = false)
    (h2 : (nm.toList.isPrefixOf (nmAt 2) && decide (nm.toList.length < (nmAt 2).length)) = false)
    (h3 : (nm.toList.isPrefixOf (nmAt 3) && decide (nm.toList.length < (nmAt 3).length)) = false)
    (h4 : (nm.toList.isPrefixOf (nmAt 4) && decide (nm.toList.length < (nmAt 4).length)) = false) : namedOf (nm ++ x) = 0 := by
  unfold namedOf
  rw [toList_app, if_neg (not_ext _ _ _ hx h1), if_neg (not_ext _ _ _ hx h2), if_neg (not_ext _ _ _ hx h3), if_neg (not_ext _ _ _ hx h4)]

theorem empty_of_toList (x : ByteArray) (h : x.toList = []) : x = ⟨#[]⟩ := by
  rw [ByteArray.toList_eq] at h
  obtain ⟨⟨l⟩⟩ := x
  simp at h
  subst h
  rfl

theorem longer_at (t k : Int) (nm x : ByteArray) (hs : ∀ w, Calls Try.prog 6 #[.int .i64 t] w fun e w' => e = .returned (.string nm) ∧ w' = w) (hk : namedOf nm = k) (hk0 : namedOf (nm ++ ⟨#[]⟩) = k)
    (ht : (1 ≤ t ∧ t ≤ 4 ∧ k = t) ∨ (t < 1 ∧ k = 0) ∨ (4 < t ∧ k = 0)) (hx : (x.size : Int) ≤ 4096) (hn : nm.size ≤ 100)
    (h1 : (nm.toList.isPrefixOf (nmAt 1) && decide (nm.toList.length < (nmAt 1).length)) = false)
    (h2 : (nm.toList.isPrefixOf (nmAt 2) && decide (nm.toList.length < (nmAt 2).length)) = false)
    (h3 : (nm.toList.isPrefixOf (nmAt 3) && decide (nm.toList.length < (nmAt 3).length)) = false)
    (h4 : (nm.toList.isPrefixOf (nmAt 4) && decide (nm.toList.length < (nmAt 4).length)) = false) (w : World) :
    Calls Try.prog 4 #[.int .i64 t, .string x] w fun e w' => e = .returned (.bool true) ∧ w' = w := by
  by_cases he : x.toList = []
  · have e := empty_of_toList x he
    subst e
    exact longer_gen t k k nm _ hs hk hk0 ht hx hn (.inl ⟨rfl, rfl⟩) w
  · exact longer_gen t k 0 nm x hs hk (named_ext nm x he h1 h2 h3 h4) ht hx hn (.inr ⟨beq_eq_false_iff_ne.2 he, rfl⟩) w

theorem longer_long (t : Int) (x : ByteArray) (hx : (4096 : Int) < x.size) (w : World) :
    Calls Try.prog 4 #[.int .i64 t, .string x] w fun e w' => e = .returned (.bool true) ∧ w' = w := by
  by_cases hb : (1048576 : Int) < x.size
  · go_enter Try.func4, Try.ntmps4
    go_wp2
    go_ret
    exact ⟨rfl, rfl⟩
  · go_enter Try.func4, Try.ntmps4
    go_wp2
    go_ret
    exact ⟨rfl, rfl⟩

theorem law_longer (t : Int) (x : ByteArray) (w : World) : Calls Try.prog 4 #[.int .i64 t, .string x] w fun e w' => e = .returned (.bool true) ∧ Grown w w' := by
  have key : Calls Try.prog 4 #[.int .i64 t, .string x] w fun e w' => e = .returned (.bool true) ∧ w' = w := by
    by_cases hx : (4096 : Int) < x.size
    · exact longer_long t x hx w
    · have hx' : (x.size : Int) ≤ 4096 := by omega
      have hk : t = 1 ∨ t = 2 ∨ t = 3 ∨ t = 4 ∨ (t < 1 ∨ 4 < t) := by omega
      rcases hk with rfl | rfl | rfl | rfl | h
      · exact longer_at 1 1 nmDisabled x string1 n1 (by decide +kernel) (by omega) hx' (by decide) (by decide +kernel) (by decide +kernel) (by decide +kernel) (by decide +kernel) w
      · exact longer_at 2 2 nmEnabled x string2 n2 (by decide +kernel) (by omega) hx' (by decide) (by decide +kernel) (by decide +kernel) (by decide +kernel) (by decide +kernel) w
      · exact longer_at 3 3 nmRevoked x string3 n3 (by decide +kernel) (by omega) hx' (by decide) (by decide +kernel) (by decide +kernel) (by decide +kernel) (by decide +kernel) w
      · exact longer_at 4 4 nmDelete x string4 n4 (by decide +kernel) (by omega) hx' (by decide) (by decide +kernel) (by decide +kernel) (by decide +kernel) (by decide +kernel) w
      · exact longer_at t 0 nmUnknown x (stringU t (beq_eq_false_iff_ne.2 (by omega)) (beq_eq_false_iff_ne.2 (by omega)) (beq_eq_false_iff_ne.2 (by omega)) (beq_eq_false_iff_ne.2 (by omega))) nU (by decide +kernel) (by omega) hx' (by decide) (by decide +kernel) (by decide +kernel) (by decide +kernel) (by decide +kernel) w
  refine key.mono ?_
  rintro e w' ⟨rfl, rfl⟩
  exact ⟨rfl, Grown.refl _⟩
end Go.Proofs.Qxb6615629a
