import Derived.Test.Qxb6615473aFmtPlain
namespace Go.Proofs.Qxb6615473aFmt

theorem drop_cons (s : ByteArray) (k : Nat) (h : k < s.size) : s.data.toList.drop k = s[k] :: s.data.toList.drop (k + 1) := by
  have h' : k < s.data.toList.length := by simpa using h
  rw [List.drop_eq_getElem_cons h']
  rfl
theorem drop_end (s : ByteArray) : s.data.toList.drop s.size = [] := List.drop_of_length_le (by simp)

/-- the first pass, k bytes in: n escapes met, b: a plus met -/
def Pre1 (s : ByteArray) (k n : Nat) (b : Bool) : Prop :=
  (unesc s.data.toList).isSome = (unesc (s.data.toList.drop k)).isSome ∧ (b || pls (s.data.toList.drop k)) = pls s.data.toList ∧ n + pct (s.data.toList.drop k) = pct s.data.toList ∧ 3 * n ≤ k

theorem pre1_zero (s : ByteArray) : Pre1 s 0 0 false := ⟨rfl, rfl, by simp, Nat.le_refl _⟩

theorem pre1_pct {s : ByteArray} {k n : Nat} {b : Bool} (h : Pre1 s k n b) (hk : k + 2 < s.size) (h0 : s[k] = 37) (h1 : hexB s[k + 1] = true) (h2 : hexB s[k + 2] = true) : Pre1 s (k + 3) (n + 1) b := by
  obtain ⟨a1, a2, a3, a4⟩ := h
  rw [drop_cons s k (by omega), drop_cons s (k + 1) (by omega), drop_cons s (k + 2) (by omega), h0] at a1 a2 a3
  rw [unesc_pct _ _ _ h1 h2] at a1
  rw [pls_pct] at a2
  rw [pct_pct] at a3
  have a3' : n + (pct (s.data.toList.drop (k + 3)) + 1) = pct s.data.toList := a3
  exact ⟨by simpa using a1, a2, by omega, by omega⟩

theorem pre1_plus {s : ByteArray} {k n : Nat} {b : Bool} (h : Pre1 s k n b) (hk : k < s.size) (h0 : s[k] = 43) : Pre1 s (k + 1) n true := by
  obtain ⟨a1, a2, a3, a4⟩ := h
  rw [drop_cons s k hk, h0] at a1 a2 a3
  rw [unesc_plus] at a1
  rw [pls_plus] at a2
  rw [pct_other _ _ (by decide)] at a3
  exact ⟨by simpa using a1, by simpa using a2, a3, by omega⟩

theorem pre1_other {s : ByteArray} {k n : Nat} {b : Bool} (h : Pre1 s k n b) (hk : k < s.size) (h0 : s[k] ≠ 37) (h1 : s[k] ≠ 43) : Pre1 s (k + 1) n b := by
  obtain ⟨a1, a2, a3, a4⟩ := h
  rw [drop_cons s k hk] at a1 a2 a3
  rw [unesc_other _ _ h0 h1] at a1
  rw [pls_other _ _ h0 h1] at a2
  rw [pct_other _ _ h0] at a3
  exact ⟨by simpa using a1, a2, a3, by omega⟩

theorem pre1_short {s : ByteArray} {k n : Nat} {b : Bool} (h : Pre1 s k n b) (hk : k < s.size) (h0 : s[k] = 37) (h1 : s.size ≤ k + 2) : unesc s.data.toList = none := by
  obtain ⟨a1, _, _, _⟩ := h
  rw [drop_cons s k hk, h0, unesc_short _ (by simp; omega)] at a1
  cases hu : unesc s.data.toList with
  | none => rfl
  | some u => rw [hu] at a1; cases a1

theorem pre1_bad {s : ByteArray} {k n : Nat} {b : Bool} (h : Pre1 s k n b) (hk : k + 2 < s.size) (h0 : s[k] = 37) (h1 : (hexB s[k + 1] && hexB s[k + 2]) = false) : unesc s.data.toList = none := by
  obtain ⟨a1, _, _, _⟩ := h
  rw [drop_cons s k (by omega), drop_cons s (k + 1) (by omega), drop_cons s (k + 2) (by omega), h0, unesc_bad _ _ _ h1] at a1
  cases hu : unesc s.data.toList with
  | none => rfl
  | some u => rw [hu] at a1; cases a1

theorem pre1_end {s : ByteArray} {n : Nat} {b : Bool} (h : Pre1 s s.size n b) : (∃ u, unesc s.data.toList = some u) ∧ pls s.data.toList = b ∧ pct s.data.toList = n ∧ 3 * n ≤ s.size := by
  obtain ⟨a1, a2, a3, a4⟩ := h
  rw [drop_end] at a1 a2 a3
  refine ⟨?_, by simpa [pls] using a2.symm, by simpa [pct] using a3.symm, a4⟩
  rw [unesc_nil] at a1
  exact Option.isSome_iff_exists.1 a1

/-- the second pass, k bytes in: 'out' has been written -/
def Pre2 (s : ByteArray) (k : Nat) (out : List UInt8) : Prop := ∃ rest, unesc (s.data.toList.drop k) = some rest ∧ unesc s.data.toList = some (out ++ rest) ∧ out.length ≤ k

theorem pre2_zero {s : ByteArray} {u : List UInt8} (h : unesc s.data.toList = some u) : Pre2 s 0 [] := ⟨u, h, h, Nat.le_refl _⟩

theorem pre2_pct {s : ByteArray} {k : Nat} {out : List UInt8} (h : Pre2 s k out) (hk : k < s.size) (h0 : s[k] = 37) :
    ∃ h2 : k + 2 < s.size, hexB s[k + 1] = true ∧ hexB s[k + 2] = true ∧ Pre2 s (k + 3) (out ++ [hexByte s[k + 1] s[k + 2]]) := by
  obtain ⟨rest, a1, a2, a3⟩ := h
  rw [drop_cons s k hk, h0] at a1
  by_cases h2 : k + 2 < s.size
  · refine ⟨h2, ?_⟩
    rw [drop_cons s (k + 1) (by omega), drop_cons s (k + 2) h2] at a1
    cases hb : (hexB s[k + 1] && hexB s[k + 2]) with
    | false => rw [unesc_bad _ _ _ hb] at a1; cases a1
    | true =>
      simp only [Bool.and_eq_true] at hb
      rw [unesc_pct _ _ _ hb.1 hb.2] at a1
      obtain ⟨r', e1, e2⟩ := Option.map_eq_some_iff.1 a1
      exact ⟨hb.1, hb.2, r', e1, by rw [a2, ← e2]; simp, by simp; omega⟩
  · rw [unesc_short _ (by simp; omega)] at a1
    cases a1

theorem pre2_plus {s : ByteArray} {k : Nat} {out : List UInt8} (h : Pre2 s k out) (hk : k < s.size) (h0 : s[k] = 43) : Pre2 s (k + 1) (out ++ [32]) := by
  obtain ⟨rest, a1, a2, a3⟩ := h
  rw [drop_cons s k hk, h0, unesc_plus] at a1
  obtain ⟨r', e1, e2⟩ := Option.map_eq_some_iff.1 a1
  exact ⟨r', e1, by rw [a2, ← e2]; simp, by simp; omega⟩

theorem pre2_other {s : ByteArray} {k : Nat} {out : List UInt8} (h : Pre2 s k out) (hk : k < s.size) (h0 : s[k] ≠ 37) (h1 : s[k] ≠ 43) : Pre2 s (k + 1) (out ++ [s[k]]) := by
  obtain ⟨rest, a1, a2, a3⟩ := h
  rw [drop_cons s k hk, unesc_other _ _ h0 h1] at a1
  obtain ⟨r', e1, e2⟩ := Option.map_eq_some_iff.1 a1
  exact ⟨r', e1, by rw [a2, ← e2]; simp, by simp; omega⟩

theorem pre2_end {s : ByteArray} {out : List UInt8} (h : Pre2 s s.size out) : unesc s.data.toList = some out := by
  obtain ⟨rest, a1, a2, _⟩ := h
  rw [drop_end, unesc_nil] at a1
  cases a1
  simpa using a2

theorem pre2_le {s : ByteArray} {k : Nat} {out : List UInt8} (h : Pre2 s k out) : out.length ≤ k := by
  obtain ⟨_, _, _, h⟩ := h
  exact h

end Go.Proofs.Qxb6615473aFmt
