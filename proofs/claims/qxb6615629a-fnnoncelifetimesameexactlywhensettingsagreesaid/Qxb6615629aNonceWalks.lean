import Derived.Test.Qxb6615629aRows
import Derived.WalkKit
import Derived.ProofKit
import Derived.OpenShut
import Derived.Laws.EntriesVeiled
namespace Go.Proofs.Qxb6615629a
open Go.ChangeShapes Go.WideShapes Go.ChangeAt Go.RowKit
set_option linter.unusedVariables false

theorem life_zero (w : World) : Calls Try.prog 9 #[.int .i64 0] w fun e w' => e = .returned (.int .i64 600000000000) ∧ Grown w w' := by
  go_enter Try.func9, Try.ntmps9
  go_wp2
  go_ret
  exact ⟨rfl, by repeat (first | exact Grown.refl _ | apply Grown.drew | apply Grown.alloc)⟩

theorem life_set (a : Int) (h : (a == 0) = false) (w : World) : Calls Try.prog 9 #[.int .i64 a] w fun e w' => e = .returned (.int .i64 a) ∧ Grown w w' := by
  go_enter Try.func9, Try.ntmps9
  go_wp2
  go_ret
  exact ⟨rfl, by repeat (first | exact Grown.refl _ | apply Grown.drew | apply Grown.alloc)⟩

theorem grown_trans {a b c : World} (h : Grown a b) (k : Grown b c) : Grown a c :=
  ⟨World.keptBut_trans h.1 k.1, fun x => (k.2.1 x).trans (h.2.1 x), Nat.le_trans h.2.2 k.2.2⟩

theorem law_zz (w : World) : Calls Try.prog 5 #[.int .i64 0, .int .i64 0] w fun e w' => e = .returned (.bool true) ∧ Grown w w' := by
  go_enter Try.func5, Try.ntmps5
  go_wp2_with fail
  refine (life_zero _).mono ?_
  rintro e w1 ⟨rfl, g1⟩
  go_wp2_with fail
  refine (life_zero _).mono ?_
  rintro e w2 ⟨rfl, g2⟩
  go_wp2
  go_ret
  exact ⟨rfl, grown_trans g1 g2⟩

theorem law_zs (a : Int) (h : (a == 0) = false) (w : World) : Calls Try.prog 5 #[.int .i64 0, .int .i64 a] w fun e w' => e = .returned (.bool true) ∧ Grown w w' := by
  have h0 : ((0 : Int) == a) = false := by rw [beq_eq_false_iff_ne] at h ⊢; exact fun e => h e.symm
  by_cases hd : a = 600000000000
  · subst hd
    go_enter Try.func5, Try.ntmps5
    go_wp2_with fail
    refine (life_zero _).mono ?_
    rintro e w1 ⟨rfl, g1⟩
    go_wp2_with fail
    refine (life_set _ h _).mono ?_
    rintro e w2 ⟨rfl, g2⟩
    go_wp2
    go_ret
    exact ⟨rfl, grown_trans g1 g2⟩
  · have d1 : (a == 600000000000) = false := beq_eq_false_iff_ne.2 hd
    have d2 : ((600000000000 : Int) == a) = false := beq_eq_false_iff_ne.2 (fun e => hd e.symm)
    have d3 : (a != 0) = true := by rw [bne_iff_ne]; exact beq_eq_false_iff_ne.1 h
    clear hd
    go_enter Try.func5, Try.ntmps5
    go_wp2_with fail
    refine (life_zero _).mono ?_
    rintro e w1 ⟨rfl, g1⟩
    go_wp2_with fail
    refine (life_set _ h _).mono ?_
    rintro e w2 ⟨rfl, g2⟩
    go_wp2
    go_ret
    exact ⟨rfl, grown_trans g1 g2⟩

theorem law_sz (a : Int) (h : (a == 0) = false) (w : World) : Calls Try.prog 5 #[.int .i64 a, .int .i64 0] w fun e w' => e = .returned (.bool true) ∧ Grown w w' := by
  by_cases hd : a = 600000000000
  · subst hd
    go_enter Try.func5, Try.ntmps5
    go_wp2_with fail
    refine (life_set _ h _).mono ?_
    rintro e w1 ⟨rfl, g1⟩
    go_wp2_with fail
    refine (life_zero _).mono ?_
    rintro e w2 ⟨rfl, g2⟩
    go_wp2
    go_ret
    exact ⟨rfl, grown_trans g1 g2⟩
  · have d1 : (a == 600000000000) = false := beq_eq_false_iff_ne.2 hd
    have d3 : (a != 0) = true := by rw [bne_iff_ne]; exact beq_eq_false_iff_ne.1 h
    clear hd
    go_enter Try.func5, Try.ntmps5
    go_wp2_with fail
    refine (life_set _ h _).mono ?_
    rintro e w1 ⟨rfl, g1⟩
    go_wp2_with fail
    refine (life_zero _).mono ?_
    rintro e w2 ⟨rfl, g2⟩
    go_wp2
    go_ret
    exact ⟨rfl, grown_trans g1 g2⟩

theorem law_ss (a b : Int) (h : (a == 0) = false) (k : (b == 0) = false) (w : World) : Calls Try.prog 5 #[.int .i64 a, .int .i64 b] w fun e w' => e = .returned (.bool true) ∧ Grown w w' := by
  have d3 : (a != 0) = true := by rw [bne_iff_ne]; exact beq_eq_false_iff_ne.1 h
  have d4 : (b != 0) = true := by rw [bne_iff_ne]; exact beq_eq_false_iff_ne.1 k
  by_cases hd : a = b
  · subst hd
    have d5 : (a == a) = true := by simp
    go_enter Try.func5, Try.ntmps5
    go_wp2_with fail
    refine (life_set _ h _).mono ?_
    rintro e w1 ⟨rfl, g1⟩
    go_wp2_with fail
    refine (life_set _ h _).mono ?_
    rintro e w2 ⟨rfl, g2⟩
    go_wp2
    go_ret
    exact ⟨rfl, grown_trans g1 g2⟩
  · have d1 : (a == b) = false := beq_eq_false_iff_ne.2 hd
    clear hd
    go_enter Try.func5, Try.ntmps5
    go_wp2_with fail
    refine (life_set _ h _).mono ?_
    rintro e w1 ⟨rfl, g1⟩
    go_wp2_with fail
    refine (life_set _ k _).mono ?_
    rintro e w2 ⟨rfl, g2⟩
    go_wp2
    go_ret
    exact ⟨rfl, grown_trans g1 g2⟩

theorem law_nonce (a b : Int) (w : World) : Calls Try.prog 5 #[.int .i64 a, .int .i64 b] w fun e w' => e = .returned (.bool true) ∧ Grown w w' := by
  by_cases h : a = 0
  · subst h
    by_cases k : b = 0
    · subst k
      exact law_zz w
    · exact law_zs b (beq_eq_false_iff_ne.2 k) w
  · by_cases k : b = 0
    · subst k
      exact law_sz a (beq_eq_false_iff_ne.2 h) w
    · exact law_ss a b (beq_eq_false_iff_ne.2 h) (beq_eq_false_iff_ne.2 k) w
end Go.Proofs.Qxb6615629a
