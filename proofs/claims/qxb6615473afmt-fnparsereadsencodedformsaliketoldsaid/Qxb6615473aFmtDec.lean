import Derived.Lib.ParseIntB
namespace Go.Proofs.Qxb6615473aFmt

/-! ### decimal digits: no Go in sight -/
def decV : List UInt8 → Nat
  | [] => 0
  | c :: r => (c.toNat - 48) * 10 ^ r.length + decV r
def Digs (l : List UInt8) : Prop := ∀ c ∈ l, 48 ≤ c.toNat ∧ c.toNat ≤ 57

theorem decV_lt : ∀ (l : List UInt8), Digs l → decV l < 10 ^ l.length
  | [], _ => by simp [decV]
  | c :: r, h => by
    have h1 := h c (by simp)
    have h2 := decV_lt r (fun x hx => h x (by simp [hx]))
    simp only [decV, List.length_cons, Nat.pow_succ]
    have : (c.toNat - 48) * 10 ^ r.length ≤ 9 * 10 ^ r.length := Nat.mul_le_mul_right _ (by omega)
    omega

theorem parseUintM_digs : ∀ (l : List UInt8) (acc : Nat), Digs l → acc * 10 ^ l.length + decV l ≤ 18446744073709551615 → Lib.parseUintM 18446744073709551615 acc l = .ok (acc * 10 ^ l.length + decV l)
  | [], acc, _, _ => by simp [Lib.parseUintM, decV]
  | c :: r, acc, h, hle => by
    have h1 := h c (by simp)
    have hr : Digs r := fun x hx => h x (by simp [hx])
    have e : acc * 10 ^ (c :: r).length + decV (c :: r) = (acc * 10 + (c.toNat - 48)) * 10 ^ r.length + decV r := by
      simp only [decV, List.length_cons, Nat.pow_succ]
      rw [Nat.add_mul, Nat.mul_assoc acc 10, Nat.mul_comm 10 (10 ^ r.length)]
      omega
    rw [e] at hle ⊢
    have hp : 1 ≤ 10 ^ r.length := Nat.one_le_pow _ _ (by omega)
    have hb : acc * 10 + (c.toNat - 48) ≤ 18446744073709551615 := by
      have := Nat.le_mul_of_pos_right (acc * 10 + (c.toNat - 48)) hp
      omega
    rw [Lib.parseUintM, if_pos h1, if_neg (by omega), if_neg (by omega)]
    exact parseUintM_digs r _ hr hle

/-- what 'zzItoa' writes for n -/
def Itoa (n : Int) (t : List UInt8) : Prop := ∃ ds, t = (if n < 0 then 45 :: ds else ds) ∧ ds ≠ [] ∧ ds.length ≤ 20 ∧ Digs ds ∧ decV ds = n.natAbs

theorem parse_digs (ds : List UInt8) (h0 : ds ≠ []) (hd : Digs ds) (hv : decV ds ≤ 18446744073709551615) : Lib.parseUintB 64 ds = .ok (decV ds) := by
  unfold Lib.parseUintB
  rw [if_neg h0]
  have := parseUintM_digs ds 0 hd (by omega)
  simpa using this

/-- the digits behind a plus sign, or none -/
theorem parseInt_digs (ds : List UInt8) (h0 : ds ≠ []) (hd : Digs ds) (hv : decV ds < 9223372036854775808) : Lib.parseIntB 64 ds = .ok (decV ds : Int) := by
  have hp := parse_digs ds h0 hd (by omega)
  match ds, h0, hd with
  | c :: r, _, hd =>
    have h1 := hd c (by simp)
    have n43 : ¬ (c.toNat = 43 ∨ c.toNat = 45) := by omega
    have n45 : ¬ c.toNat = 45 := by omega
    simp only [Lib.parseIntB, if_neg n43, hp]
    rw [if_neg (by omega), if_neg (by omega), if_neg n45]
theorem parseInt_plus (ds : List UInt8) (h0 : ds ≠ []) (hd : Digs ds) (hv : decV ds < 9223372036854775808) : Lib.parseIntB 64 (43 :: ds) = .ok (decV ds : Int) := by
  have hp := parse_digs ds h0 hd (by omega)
  have e1 : (43 : UInt8).toNat = 43 := rfl
  simp only [Lib.parseIntB, e1, true_or, if_true, hp]
  rw [if_neg (by omega), if_neg (by omega), if_neg (by decide)]
theorem parseInt_minus (ds : List UInt8) (h0 : ds ≠ []) (hd : Digs ds) (hv : decV ds ≤ 9223372036854775808) : Lib.parseIntB 64 (45 :: ds) = .ok (-(decV ds : Int)) := by
  have hp := parse_digs ds h0 hd (by omega)
  have e1 : (45 : UInt8).toNat = 45 := rfl
  simp only [Lib.parseIntB, e1, or_true, if_true, hp]
  rw [if_neg (by simp), if_neg (by omega)]
end Go.Proofs.Qxb6615473aFmt
