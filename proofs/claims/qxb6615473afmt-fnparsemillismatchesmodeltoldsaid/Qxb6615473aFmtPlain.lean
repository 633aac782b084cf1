import Derived.Lib.ParseIntB
namespace Go.Proofs.Qxb6615473aFmt

/-! ### the plain law: a query component unescaped; no Go in sight -/
def hexB (c : UInt8) : Bool := decide ((48 ≤ c.toNat ∧ c.toNat ≤ 57) ∨ (65 ≤ c.toNat ∧ c.toNat ≤ 70) ∨ (97 ≤ c.toNat ∧ c.toNat ≤ 102))
/-- a hex digit's value, as net/url reckons it -/
def hv (c : UInt8) : Nat := 9 * (c.toNat / 64) + c.toNat % 16
def hexByte (a b : UInt8) : UInt8 := UInt8.ofNat (hv a * 16 + hv b)

theorem hv_lt (c : UInt8) (h : hexB c = true) : hv c < 16 := by
  simp [hexB] at h
  unfold hv
  omega

/-- 'unescape' of a query component: none where it refuses -/
def unesc : List UInt8 → Option (List UInt8)
  | [] => some []
  | c :: r =>
    if c = 37 then
      match r with
      | a :: b :: r' => if hexB a && hexB b then (unesc r').map (hexByte a b :: ·) else none
      | _ => none
    else (unesc r).map ((if c = 43 then 32 else c) :: ·)

theorem unesc_nil : unesc [] = some [] := by simp [unesc]
theorem unesc_pct (a b : UInt8) (r : List UInt8) (h : hexB a = true) (k : hexB b = true) : unesc (37 :: a :: b :: r) = (unesc r).map (hexByte a b :: ·) := by
  simp [unesc, h, k]
theorem unesc_bad (a b : UInt8) (r : List UInt8) (h : (hexB a && hexB b) = false) : unesc (37 :: a :: b :: r) = none := by
  simp [unesc, h]
theorem unesc_short (r : List UInt8) (h : r.length < 2) : unesc (37 :: r) = none := by
  match r, h with
  | [], _ => simp [unesc]
  | [a], _ => simp [unesc]
theorem unesc_step (c : UInt8) (r : List UInt8) (h : c ≠ 37) : unesc (c :: r) = (unesc r).map ((if c = 43 then 32 else c) :: ·) := by
  match r with
  | [] => simp [unesc, h]
  | [x] => rw [unesc, if_neg h]; intro a b r' e; cases e
  | x :: y :: r' => rw [unesc, if_neg h]
theorem unesc_plus (r : List UInt8) : unesc (43 :: r) = (unesc r).map (32 :: ·) := by
  rw [unesc_step 43 r (by decide), if_pos rfl]
theorem unesc_other (c : UInt8) (r : List UInt8) (h : c ≠ 37) (k : c ≠ 43) : unesc (c :: r) = (unesc r).map (c :: ·) := by
  rw [unesc_step c r h, if_neg k]

/-- how many escapes the rest holds, and whether a plus stands in it: of a text that is not refused -/
def pct : List UInt8 → Nat
  | [] => 0
  | c :: r =>
    if c = 37 then
      match r with
      | _ :: _ :: r' => pct r' + 1
      | _ => 1
    else pct r
def pls : List UInt8 → Bool
  | [] => false
  | c :: r =>
    if c = 37 then
      match r with
      | _ :: _ :: r' => pls r'
      | _ => false
    else if c = 43 then true else pls r

theorem pct_pct (a b : UInt8) (r : List UInt8) : pct (37 :: a :: b :: r) = pct r + 1 := by simp [pct]
theorem pct_other (c : UInt8) (r : List UInt8) (h : c ≠ 37) : pct (c :: r) = pct r := by
  match r with
  | [] => simp [pct, h]
  | [x] => rw [pct, if_neg h]; intro a b r' e; cases e
  | x :: y :: r' => rw [pct, if_neg h]
theorem pls_pct (a b : UInt8) (r : List UInt8) : pls (37 :: a :: b :: r) = pls r := by simp [pls]
theorem pls_step (c : UInt8) (r : List UInt8) (h : c ≠ 37) : pls (c :: r) = if c = 43 then true else pls r := by
  match r with
  | [] => simp [pls, h]
  | [x] => rw [pls, if_neg h]; intro a b r' e; cases e
  | x :: y :: r' => rw [pls, if_neg h]
theorem pls_plus (r : List UInt8) : pls (43 :: r) = true := by rw [pls_step 43 r (by decide), if_pos rfl]
theorem pls_other (c : UInt8) (r : List UInt8) (h : c ≠ 37) (k : c ≠ 43) : pls (c :: r) = pls r := by rw [pls_step c r h, if_neg k]

/-- no escape and no plus: the text as it is -/
theorem unesc_same : ∀ (l : List UInt8), pct l = 0 → pls l = false → unesc l = some l
  | [], _, _ => by simp [unesc]
  | c :: r, h, k => by
    have hc : c ≠ 37 := by
      intro e
      subst e
      match r, h with
      | [], h => simp [pct] at h
      | [a], h => simp [pct] at h
      | a :: b :: r', h => simp [pct] at h
    have hp : c ≠ 43 := by
      intro e
      subst e
      rw [pls_plus] at k
      cases k
    rw [pct_other c r hc] at h
    rw [pls_other c r hc hp] at k
    rw [unesc_other c r hc hp, unesc_same r h k]
    rfl

end Go.Proofs.Qxb6615473aFmt
