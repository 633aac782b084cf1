import Derived.Test.Qxb6615473aFmtDec
namespace Go.Proofs.Qxb6615473aFmt

/-! ### the model's number, and the parser's -/
/-- the model's second loop: none at a byte that is no digit -/
def mloop : List UInt8 → Nat → Bool → Option (Nat × Bool)
  | [], n, b => some (n, b)
  | c :: r, n, b =>
    if 48 ≤ c.toNat ∧ c.toNat ≤ 57 then
      (if b then mloop r n b else mloop r (n * 10 + (c.toNat - 48)) (decide (9223372036854 < n * 10 + (c.toNat - 48))))
    else none
def fin (neg : Bool) : Option (Nat × Bool) → Option Int
  | some (n, false) => if neg = true ∧ n ≠ 0 then none else some (n : Int)
  | _ => none
def modelNum (u : List UInt8) : Option Int :=
  match u with
  | [] => none
  | c :: r => if c.toNat = 43 ∨ c.toNat = 45 then (if r = [] then none else fin (decide (c.toNat = 45)) (mloop r 0 false)) else fin false (mloop (c :: r) 0 false)

theorem mloop_big : ∀ (l : List UInt8) (n : Nat), Digs l → mloop l n true = some (n, true)
  | [], n, _ => rfl
  | c :: r, n, h => by
    rw [mloop, if_pos (h c (by simp)), if_pos rfl]
    exact mloop_big r n (fun x hx => h x (by simp [hx]))
theorem mloop_none : ∀ (l : List UInt8) (n : Nat) (b : Bool), ¬ Digs l → mloop l n b = none
  | [], n, b, h => absurd (fun c hc => by cases hc) h
  | c :: r, n, b, h => by
    by_cases hc : 48 ≤ c.toNat ∧ c.toNat ≤ 57
    · have hr : ¬ Digs r := fun hr => h (fun x hx => by
        rcases List.mem_cons.1 hx with rfl | hx
        · exact hc
        · exact hr x hx)
      rw [mloop, if_pos hc]
      split
      · exact mloop_none r _ _ hr
      · exact mloop_none r _ _ hr
    · rw [mloop, if_neg hc]
theorem decV_cons (c : UInt8) (r : List UInt8) (n : Nat) : n * 10 ^ (c :: r).length + decV (c :: r) = (n * 10 + (c.toNat - 48)) * 10 ^ r.length + decV r := by
  simp only [decV, List.length_cons, Nat.pow_succ]
  rw [Nat.add_mul, Nat.mul_assoc n 10, Nat.mul_comm 10 (10 ^ r.length)]
  omega
theorem mloop_digs : ∀ (l : List UInt8) (n : Nat), Digs l → n ≤ 9223372036854 →
    (n * 10 ^ l.length + decV l ≤ 9223372036854 → mloop l n false = some (n * 10 ^ l.length + decV l, false)) ∧ (9223372036854 < n * 10 ^ l.length + decV l → ∃ m, mloop l n false = some (m, true))
  | [], n, _, hn => by
    simp only [decV, List.length_nil, Nat.pow_zero, Nat.mul_one, Nat.add_zero]
    exact ⟨fun _ => rfl, fun h => by omega⟩
  | c :: r, n, h, hn => by
    have hc := h c (by simp)
    have hr : Digs r := fun x hx => h x (by simp [hx])
    have hp : 1 ≤ 10 ^ r.length := Nat.one_le_pow _ _ (by omega)
    rw [decV_cons]
    by_cases hb : 9223372036854 < n * 10 + (c.toNat - 48)
    · have hgt : 9223372036854 < (n * 10 + (c.toNat - 48)) * 10 ^ r.length + decV r := by
        have := Nat.le_mul_of_pos_right (n * 10 + (c.toNat - 48)) hp
        omega
      refine ⟨fun h' => by omega, fun _ => ⟨n * 10 + (c.toNat - 48), ?_⟩⟩
      rw [mloop, if_pos hc, if_neg (by decide), decide_eq_true hb]
      exact mloop_big r _ hr
    · have ih := mloop_digs r (n * 10 + (c.toNat - 48)) hr (by omega)
      have e : mloop (c :: r) n false = mloop r (n * 10 + (c.toNat - 48)) false := by
        rw [mloop, if_pos hc, if_neg (by decide), decide_eq_false hb]
      rw [e]
      exact ih

theorem parseUintM_ok : ∀ (l : List UInt8) (acc v : Nat), Lib.parseUintM 18446744073709551615 acc l = .ok v → Digs l ∧ v = acc * 10 ^ l.length + decV l
  | [], acc, v, h => by
    simp only [Lib.parseUintM, Lib.NumEnd.ok.injEq] at h
    refine ⟨fun c hc => ?_, by simp [decV, h]⟩
    cases hc
  | c :: r, acc, v, h => by
    rw [Lib.parseUintM] at h
    split at h
    · rename_i hc
      split at h
      · cases h
      · split at h
        · cases h
        · obtain ⟨h1, h2⟩ := parseUintM_ok r _ v h
          refine ⟨fun x hx => ?_, ?_⟩
          · rcases List.mem_cons.1 hx with rfl | hx
            · exact hc
            · exact h1 x hx
          · rw [decV_cons]
            exact h2
    · cases h
theorem parseUintB_ok (l : List UInt8) (v : Nat) (h : Lib.parseUintB 64 l = .ok v) : l ≠ [] ∧ Digs l ∧ v = decV l := by
  unfold Lib.parseUintB at h
  by_cases h0 : l = []
  · rw [if_pos h0] at h; cases h
  · rw [if_neg h0] at h
    obtain ⟨h1, h2⟩ := parseUintM_ok l 0 v h
    exact ⟨h0, h1, by simpa using h2⟩

/-- behind no sign or a plus -/
theorem fin_pos (ds : List UInt8) (h0 : ds ≠ []) : fin false (mloop ds 0 false) = (match Lib.parseUintB 64 ds with | .ok v => if v ≤ 9223372036854 then some (v : Int) else none | _ => none) := by
  by_cases hd : Digs ds
  · obtain ⟨m1, m2⟩ := mloop_digs ds 0 hd (by omega)
    simp only [Nat.zero_mul, Nat.zero_add] at m1 m2
    by_cases hv : decV ds ≤ 9223372036854
    · rw [m1 hv, parse_digs ds h0 hd (by omega)]
      simp [fin, hv]
    · obtain ⟨m, hm⟩ := m2 (by omega)
      rw [hm]
      cases hx : Lib.parseUintB 64 ds with
      | ok v =>
        obtain ⟨_, _, e⟩ := parseUintB_ok ds v hx
        simp [fin, e, hv]
      | _ => rfl
  · rw [mloop_none ds 0 false hd]
    cases hx : Lib.parseUintB 64 ds with
    | ok v => exact absurd (parseUintB_ok ds v hx).2.1 hd
    | _ => rfl
theorem fin_neg (ds : List UInt8) (h0 : ds ≠ []) : fin true (mloop ds 0 false) = (match Lib.parseUintB 64 ds with | .ok v => if v = 0 then some 0 else none | _ => none) := by
  by_cases hd : Digs ds
  · obtain ⟨m1, m2⟩ := mloop_digs ds 0 hd (by omega)
    simp only [Nat.zero_mul, Nat.zero_add] at m1 m2
    by_cases hv : decV ds ≤ 9223372036854
    · rw [m1 hv, parse_digs ds h0 hd (by omega)]
      by_cases hz : decV ds = 0
      · simp [fin, hz]
      · simp [fin, hz]
    · obtain ⟨m, hm⟩ := m2 (by omega)
      rw [hm]
      cases hx : Lib.parseUintB 64 ds with
      | ok v =>
        obtain ⟨_, _, e⟩ := parseUintB_ok ds v hx
        have hz : ¬ v = 0 := by omega
        simp [fin, hz]
      | _ => rfl
  · rw [mloop_none ds 0 false hd]
    cases hx : Lib.parseUintB 64 ds with
    | ok v => exact absurd (parseUintB_ok ds v hx).2.1 hd
    | _ => rfl

end Go.Proofs.Qxb6615473aFmt
