import Derived.Test.Qxb6608712aClone
import Derived.Test.Qxb6608712aPlain
import Derived.WalkKit
import Derived.ProofKit
import Derived.OpenShut
namespace Go.Proofs.Qxb6608712a
open Go.ChangeShapes Go.WideShapes Go.ChangeAt Go.RowKit
set_option linter.unusedVariables false

theorem spec_empty (a : Option Addr) (c : Nat) (w : World) : Calls Try.prog 9 #[.slice a 0 c] w fun e w' => e = .returned (.tuple #[.slice a 0 c, .bool true]) ∧ w' = w := by
  go_enter Try.func9, Try.ntmps9
  go_wp2
  go_ret2
  exact ⟨rfl, rfl⟩

theorem spec_no (g n c : Nat) (x : Int) (w : World) (h0 : 0 < n) (hn : n ≤ 1048576) (hc : n ≤ c) (hx : w.cell? ⟨g, 0, none⟩ = some (.int .u8 x)) (hne : (x != 60) = true) :
    Calls Try.prog 9 #[.slice (some ⟨g, 0, none⟩) n c] w fun e w' => e = .returned (.tuple #[.slice (some ⟨g, 0, none⟩) 1 c, .bool false]) ∧ w' = w := by
  have e0 : ((n : Int) == 0) = false := beq_eq_false_iff_ne.2 (by omega)
  have l0 : (0 : Int) < (n : Int) := by omega
  have l1 : (1 : Int) ≤ (c : Int) := by omega
  go_enter Try.func9, Try.ntmps9
  go_wp2
  go_ret2
  exact ⟨rfl, rfl⟩

theorem spec_one (g c : Nat) (w : World) (hx : w.cell? ⟨g, 0, none⟩ = some (.int .u8 60)) :
    Calls Try.prog 9 #[.slice (some ⟨g, 0, none⟩) 1 c] w fun e w' => e = .returned (.tuple #[.slice (some ⟨g, 0, none⟩) 1 c, .bool true]) ∧ w' = w := by
  go_enter Try.func9, Try.ntmps9
  go_wp2
  go_ret2
  exact ⟨rfl, rfl⟩

theorem spec_end (g n c : Nat) (y : Int) (w : World) (h0 : 2 ≤ n) (hn : n ≤ 1048576) (hc : n ≤ c) (hx : w.cell? ⟨g, 0, none⟩ = some (.int .u8 60)) (hy : w.cell? ⟨g, 1, none⟩ = some (.int .u8 y)) (h : y = 47 ∨ y = 33 ∨ y = 63) :
    Calls Try.prog 9 #[.slice (some ⟨g, 0, none⟩) n c] w fun e w' => e = .returned (.tuple #[.slice (some ⟨g, 0, none⟩) 2 c, .bool false]) ∧ w' = w := by
  have e0 : ((n : Int) == 0) = false := beq_eq_false_iff_ne.2 (by omega)
  have e1 : ((n : Int) == 1) = false := beq_eq_false_iff_ne.2 (by omega)
  have l0 : (1 : Int) < (n : Int) := by omega
  have l1 : (2 : Int) ≤ (c : Int) := by omega
  rcases h with rfl | rfl | rfl
  all_goals
    go_enter Try.func9, Try.ntmps9
    go_wp2
    go_ret2
    exact ⟨rfl, rfl⟩

theorem spec_tag (g n c : Nat) (y : Int) (w : World) (h0 : 2 ≤ n) (hn : n ≤ 1048576) (hc : n ≤ c) (hx : w.cell? ⟨g, 0, none⟩ = some (.int .u8 60)) (hy : w.cell? ⟨g, 1, none⟩ = some (.int .u8 y)) (h1 : (y == 47) = false) (h2 : (y == 33) = false) (h3 : (y == 63) = false) :
    Calls Try.prog 9 #[.slice (some ⟨g, 0, none⟩) n c] w fun e w' => e = .returned (.tuple #[.slice (some ⟨g, 0, none⟩) n c, .bool true]) ∧ w' = w := by
  have e0 : ((n : Int) == 0) = false := beq_eq_false_iff_ne.2 (by omega)
  have e1 : ((n : Int) == 1) = false := beq_eq_false_iff_ne.2 (by omega)
  have l0 : (1 : Int) < (n : Int) := by omega
  go_enter Try.func9, Try.ntmps9
  go_wp2
  go_ret2
  exact ⟨rfl, rfl⟩

/-- 'zzSpecKept' over a row of bytes: the first (kn zs).1 of them, and (kn zs).2 -/
theorem spec_row (g c : Nat) (zs : List Int) (w : World) (h0 : 0 < zs.length) (hn : zs.length ≤ 1048576) (hc : zs.length ≤ c) (hx : ∀ i, i < zs.length → w.cell? ⟨g, i, none⟩ = some (.int .u8 (zs.getD i 0))) :
    Calls Try.prog 9 #[.slice (some ⟨g, 0, none⟩) zs.length c] w fun e w' => e = .returned (.tuple #[.slice (some ⟨g, 0, none⟩) (kn zs).1 c, .bool (kn zs).2]) ∧ w' = w := by
  match zs, h0, hn, hc, hx with
  | [a], h0, hn, hc, hx =>
    have x0 : w.cell? ⟨g, 0, none⟩ = some (.int .u8 a) := hx 0 h0
    by_cases e : a = 60
    · subst e
      exact spec_one g c w x0
    · have hk : kn [a] = (1, false) := by simp [kn, e]
      rw [hk]
      exact spec_no g 1 c a w h0 hn hc x0 (by rw [bne_iff_ne]; exact e)
  | a :: d :: r, h0, hn, hc, hx =>
    have x0 : w.cell? ⟨g, 0, none⟩ = some (.int .u8 a) := hx 0 h0
    have x1 : w.cell? ⟨g, 1, none⟩ = some (.int .u8 d) := hx 1 (by simp)
    by_cases e : a = 60
    · subst e
      by_cases h : d = 47 ∨ d = 33 ∨ d = 63
      · have hk : kn (60 :: d :: r) = (2, false) := by rcases h with rfl | rfl | rfl <;> simp [kn, isTag]
        rw [hk]
        exact spec_end g _ c d w (by simp) hn hc x0 x1 h
      · have t1 : (d == 47) = false := beq_eq_false_iff_ne.2 (fun e => h (.inl e))
        have t2 : (d == 33) = false := beq_eq_false_iff_ne.2 (fun e => h (.inr (.inl e)))
        have t3 : (d == 63) = false := beq_eq_false_iff_ne.2 (fun e => h (.inr (.inr e)))
        have hk : kn (60 :: d :: r) = ((60 :: d :: r).length, true) := by simp [kn, isTag, bne, t1, t2, t3]
        rw [hk]
        exact spec_tag g _ c d w (by simp) hn hc x0 x1 t1 t2 t3
    · have hk : kn (a :: d :: r) = (1, false) := by simp [kn, e]
      rw [hk]
      exact spec_no g _ c a w h0 hn hc x0 (by rw [bne_iff_ne]; exact e)
end Go.Proofs.Qxb6608712a
