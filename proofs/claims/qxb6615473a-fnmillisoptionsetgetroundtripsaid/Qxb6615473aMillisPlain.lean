import Derived.WalkKit
import Derived.RowKit3
namespace Go.Proofs.Qxb6615473a
open Go.RowKit

theorem wrap64_id (x : Int) (h : -9223372036854775808 ≤ x ∧ x ≤ 9223372036854775807) : wrap64 x = x := by
  unfold wrap64; omega

theorem tdiv_bounds (a : Int) (h1 : -9223372036854775808 ≤ a) (h2 : a ≤ 9223372036854775807) :
    -9223372036854 ≤ a.tdiv 1000000 ∧ a.tdiv 1000000 ≤ 9223372036854 ∧
    (0 ≤ a → 0 ≤ a.tdiv 1000000 ∧ 0 ≤ a - a.tdiv 1000000 * 1000000 ∧ a - a.tdiv 1000000 * 1000000 < 1000000) ∧
    (a < 0 → a.tdiv 1000000 ≤ 0 ∧ a - a.tdiv 1000000 * 1000000 ≤ 0 ∧ -1000000 < a - a.tdiv 1000000 * 1000000) := by
  by_cases h : 0 ≤ a
  · rw [Int.tdiv_eq_ediv_of_nonneg h]
    refine ⟨by omega, by omega, fun _ => by omega, fun _ => by omega⟩
  · have e : a.tdiv 1000000 = - ((-a) / 1000000) := by
      have := Int.tdiv_eq_ediv_of_nonneg (a := -a) (b := 1000000) (by omega)
      rw [Int.neg_tdiv] at this
      omega
    rw [e]
    refine ⟨by omega, by omega, fun _ => by omega, fun _ => by omega⟩

theorem mul_tdiv (g : Int) : (g * 1000000).tdiv 1000000 = g := Int.mul_tdiv_cancel g (by decide)

end Go.Proofs.Qxb6615473a
