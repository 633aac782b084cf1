import Derived.Test.Qxb6615629aRows
import Derived.WalkKit
import Derived.ProofKit
import Derived.OpenShut
namespace Go.Proofs.Qxb6615629a
open Go.ChangeShapes Go.WideShapes Go.ChangeAt Go.RowKit
set_option linter.unusedVariables false

/-- the five names -/
def nmDisabled : ByteArray := ⟨#[101, 109, 97, 105, 108, 45, 100, 105, 115, 97, 98, 108, 101, 100]⟩
def nmEnabled : ByteArray := ⟨#[101, 109, 97, 105, 108, 45, 101, 110, 97, 98, 108, 101, 100]⟩
def nmRevoked : ByteArray := ⟨#[99, 111, 110, 115, 101, 110, 116, 45, 114, 101, 118, 111, 107, 101, 100]⟩
def nmDelete : ByteArray := ⟨#[97, 99, 99, 111, 117, 110, 116, 45, 100, 101, 108, 101, 116, 101]⟩
def nmUnknown : ByteArray := ⟨#[117, 110, 107, 110, 111, 119, 110]⟩

theorem string1 (w : World) : Calls Try.prog 6 #[.int .i64 1] w fun e w' => e = .returned (.string nmDisabled) ∧ w' = w := by
  go_enter Try.func6, Try.ntmps6
  go_wp2
  go_ret
  exact ⟨rfl, rfl⟩
theorem string2 (w : World) : Calls Try.prog 6 #[.int .i64 2] w fun e w' => e = .returned (.string nmEnabled) ∧ w' = w := by
  go_enter Try.func6, Try.ntmps6
  go_wp2
  go_ret
  exact ⟨rfl, rfl⟩
theorem string3 (w : World) : Calls Try.prog 6 #[.int .i64 3] w fun e w' => e = .returned (.string nmRevoked) ∧ w' = w := by
  go_enter Try.func6, Try.ntmps6
  go_wp2
  go_ret
  exact ⟨rfl, rfl⟩
theorem string4 (w : World) : Calls Try.prog 6 #[.int .i64 4] w fun e w' => e = .returned (.string nmDelete) ∧ w' = w := by
  go_enter Try.func6, Try.ntmps6
  go_wp2
  go_ret
  exact ⟨rfl, rfl⟩
theorem stringU (t : Int) (h1 : (t == 1) = false) (h2 : (t == 2) = false) (h3 : (t == 3) = false) (h4 : (t == 4) = false) (w : World) : Calls Try.prog 6 #[.int .i64 t] w fun e w' => e = .returned (.string nmUnknown) ∧ w' = w := by
  go_enter Try.func6, Try.ntmps6
  go_wp2
  go_ret
  exact ⟨rfl, rfl⟩

/-- the name of type number j -/
def nmAt (j : Int) : List UInt8 := if j = 1 then nmDisabled.toList else if j = 2 then nmEnabled.toList else if j = 3 then nmRevoked.toList else nmDelete.toList
/-- none of the names below k is s -/
def Pre (s : ByteArray) (k : Int) : Prop := ∀ j, 1 ≤ j → j < k → nmAt j ≠ s.toList
/-- what 'eventTypeNamed' finds -/
def namedOf (s : ByteArray) : Int :=
  if nmAt 1 = s.toList then 1 else if nmAt 2 = s.toList then 2 else if nmAt 3 = s.toList then 3 else if nmAt 4 = s.toList then 4 else 0

theorem pre_one (s : ByteArray) : Pre s 1 := fun j h1 h2 => by omega
theorem pre_succ {s : ByteArray} {k k' : Int} (h : Pre s k) (e : k' = k + 1) (hk : nmAt k ≠ s.toList) : Pre s k' := fun j h1 h2 => by
  by_cases e' : j = k
  · rw [e']; exact hk
  · exact h j h1 (by omega)
theorem named_hit {s : ByteArray} {k : Int} (h : Pre s k) (h1 : 1 ≤ k) (h4 : k ≤ 4) (hk : nmAt k = s.toList) : namedOf s = k := by
  have p1 := h 1
  have p2 := h 2
  have p3 := h 3
  have : k = 1 ∨ k = 2 ∨ k = 3 ∨ k = 4 := by omega
  unfold namedOf
  rcases this with rfl | rfl | rfl | rfl
  · rw [if_pos hk]
  · rw [if_neg (p1 (by omega) (by omega)), if_pos hk]
  · rw [if_neg (p1 (by omega) (by omega)), if_neg (p2 (by omega) (by omega)), if_pos hk]
  · rw [if_neg (p1 (by omega) (by omega)), if_neg (p2 (by omega) (by omega)), if_neg (p3 (by omega) (by omega)), if_pos hk]
theorem named_miss {s : ByteArray} (h : Pre s 5) : namedOf s = 0 := by
  unfold namedOf
  rw [if_neg (h 1 (by omega) (by omega)), if_neg (h 2 (by omega) (by omega)), if_neg (h 3 (by omega) (by omega)), if_neg (h 4 (by omega) (by omega))]
theorem ret_int {k : IntKind} {a b : Int} (h : a = b) : Ending.returned (.int k a) = .returned (.int k b) := by rw [h]

set_option maxHeartbeats 400000 in
theorem named_any (s : ByteArray) (w : World) : Calls Try.prog 10 #[.string s] w fun e w' => e = .returned (.int .i64 (namedOf s)) ∧ w' = w := by
  go_enter Try.func10, Try.ntmps10
  go_wp2
  go_loop [3] (fun t => ∃ k : Int, 1 ≤ k ∧ k ≤ 5 ∧ t = .int .i64 k ∧ Pre s k) (fun t => (5 - intOf t).toNat)
  case atStart => exact ⟨1, by omega, by omega, rfl, pre_one s⟩
  case round =>
    obtain ⟨k, h1, h5, rfl, hp⟩ := hrel
    have hk : k = 1 ∨ k = 2 ∨ k = 3 ∨ k = 4 ∨ k = 5 := by omega
    rcases hk with rfl | rfl | rfl | rfl | rfl
    · by_cases he : nmDisabled.toList = s.toList
      · have hb : (nmDisabled.toList == s.toList) = true := beq_iff_eq.2 he
        have HE := named_hit hp (by omega) (by omega) he
        have HE' : Hid (namedOf s = 1) := HE
        clear he HE
        go_wp2_with (go_at_call 6; refine (string1 _).mono ?_; rintro e w' ⟨rfl, rfl⟩)
        go_ret
        exact ⟨ret_int HE'.out.symm, rfl⟩
      · have hb : (nmDisabled.toList == s.toList) = false := beq_eq_false_iff_ne.2 he
        have hq := pre_succ (k' := 2) hp rfl he
        clear he
        go_wp2_with (go_at_call 6; refine (string1 _).mono ?_; rintro e w' ⟨rfl, rfl⟩)
        exact ⟨⟨2, by omega, by omega, rfl, hq⟩, by simp [intOf]⟩
    · by_cases he : nmEnabled.toList = s.toList
      · have hb : (nmEnabled.toList == s.toList) = true := beq_iff_eq.2 he
        have HE := named_hit hp (by omega) (by omega) he
        have HE' : Hid (namedOf s = 2) := HE
        clear he HE
        go_wp2_with (go_at_call 6; refine (string2 _).mono ?_; rintro e w' ⟨rfl, rfl⟩)
        go_ret
        exact ⟨ret_int HE'.out.symm, rfl⟩
      · have hb : (nmEnabled.toList == s.toList) = false := beq_eq_false_iff_ne.2 he
        have hq := pre_succ (k' := 3) hp rfl he
        clear he
        go_wp2_with (go_at_call 6; refine (string2 _).mono ?_; rintro e w' ⟨rfl, rfl⟩)
        exact ⟨⟨3, by omega, by omega, rfl, hq⟩, by simp [intOf]⟩
    · by_cases he : nmRevoked.toList = s.toList
      · have hb : (nmRevoked.toList == s.toList) = true := beq_iff_eq.2 he
        have HE := named_hit hp (by omega) (by omega) he
        have HE' : Hid (namedOf s = 3) := HE
        clear he HE
        go_wp2_with (go_at_call 6; refine (string3 _).mono ?_; rintro e w' ⟨rfl, rfl⟩)
        go_ret
        exact ⟨ret_int HE'.out.symm, rfl⟩
      · have hb : (nmRevoked.toList == s.toList) = false := beq_eq_false_iff_ne.2 he
        have hq := pre_succ (k' := 4) hp rfl he
        clear he
        go_wp2_with (go_at_call 6; refine (string3 _).mono ?_; rintro e w' ⟨rfl, rfl⟩)
        exact ⟨⟨4, by omega, by omega, rfl, hq⟩, by simp [intOf]⟩
    · by_cases he : nmDelete.toList = s.toList
      · have hb : (nmDelete.toList == s.toList) = true := beq_iff_eq.2 he
        have HE := named_hit hp (by omega) (by omega) he
        have HE' : Hid (namedOf s = 4) := HE
        clear he HE
        go_wp2_with (go_at_call 6; refine (string4 _).mono ?_; rintro e w' ⟨rfl, rfl⟩)
        go_ret
        exact ⟨ret_int HE'.out.symm, rfl⟩
      · have hb : (nmDelete.toList == s.toList) = false := beq_eq_false_iff_ne.2 he
        have hq := pre_succ (k' := 5) hp rfl he
        clear he
        go_wp2_with (go_at_call 6; refine (string4 _).mono ?_; rintro e w' ⟨rfl, rfl⟩)
        exact ⟨⟨5, by omega, by omega, rfl, hq⟩, by simp [intOf]⟩
    · have HE := named_miss hp
      have HE' : Hid (namedOf s = 0) := HE
      clear HE
      go_wp2
      go_ret
      exact ⟨ret_int HE'.out.symm, rfl⟩

theorem znamed_any (s : ByteArray) (w : World) : Calls Try.prog 7 #[.string s] w fun e w' => e = .returned (.int .i64 (namedOf s)) ∧ w' = w := by
  go_enter Try.func7, Try.ntmps7
  go_wp2_with (go_at_call 10; refine (named_any _ _).mono ?_; rintro e w' ⟨rfl, rfl⟩)
  go_ret
  exact ⟨rfl, rfl⟩

theorem znamed_at (s : ByteArray) (w : World) (k : Int) (h : namedOf s = k) : Calls Try.prog 7 #[.string s] w fun e w' => e = .returned (.int .i64 k) ∧ w' = w := by
  subst h; exact znamed_any s w
end Go.Proofs.Qxb6615629a
