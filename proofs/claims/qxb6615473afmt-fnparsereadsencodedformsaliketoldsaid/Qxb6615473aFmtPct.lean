import Derived.Test.Qxb6615473aFmtItoa
import Derived.Test.Qxb6615473aFmtSteps
import Derived.WalkKit
import Derived.Deep.DeepMust
namespace Go.Proofs.Qxb6615473aFmt
open Go.RowKit
set_option linter.unusedVariables false

/-- the hex digits that 'zzPercentAll' writes with -/
def hexDig (lo : Bool) : ByteArray := if lo then ⟨#[48, 49, 50, 51, 52, 53, 54, 55, 56, 57, 97, 98, 99, 100, 101, 102]⟩ else ⟨#[48, 49, 50, 51, 52, 53, 54, 55, 56, 57, 65, 66, 67, 68, 69, 70]⟩
def digAt (lo : Bool) (i : Nat) : UInt8 := (hexDig lo).data.toList.getD i 0
def pctAll (lo : Bool) : List UInt8 → List UInt8
  | [] => []
  | c :: r => 37 :: digAt lo (c.toNat / 16) :: digAt lo (c.toNat % 16) :: pctAll lo r

theorem dig_hex : ∀ (lo : Bool) (i : Fin 16), hexB (digAt lo i.1) = true ∧ hv (digAt lo i.1) = i.1 := by decide +kernel
theorem unesc_pctAll (lo : Bool) : ∀ (l r : List UInt8), unesc (pctAll lo l ++ r) = (unesc r).map (l ++ ·)
  | [], r => by simp [pctAll]
  | c :: l, r => by
    have hlt := c.toNat_lt
    obtain ⟨a1, a2⟩ := dig_hex lo ⟨c.toNat / 16, by omega⟩
    obtain ⟨b1, b2⟩ := dig_hex lo ⟨c.toNat % 16, by omega⟩
    have e : hexByte (digAt lo (c.toNat / 16)) (digAt lo (c.toNat % 16)) = c := by
      unfold hexByte
      rw [a2, b2]
      apply UInt8.toNat_inj.1
      rw [UInt8.toNat_ofNat']
      simp only
      omega
    rw [pctAll, List.cons_append, List.cons_append, List.cons_append, unesc_pct _ _ _ a1 b1, e, unesc_pctAll lo l r, Option.map_map]
    rfl
theorem pctAll_length (lo : Bool) : ∀ l, (pctAll lo l).length = 3 * l.length
  | [] => rfl
  | c :: l => by simp [pctAll, pctAll_length lo l]; omega
theorem pctAll_append (lo : Bool) : ∀ (l r : List UInt8), pctAll lo (l ++ r) = pctAll lo l ++ pctAll lo r
  | [], r => rfl
  | c :: l, r => by simp [pctAll, pctAll_append lo l r]

/-- the buffer behind k rounds -/
def part (lo : Bool) (s : ByteArray) (k : Nat) : List Value := (pctAll lo (s.data.toList.take k)).map (fun c => Value.int .u8 (c.toNat : Int)) ++ List.replicate (3 * (s.size - k)) (Value.int .u8 0)

theorem part_zero (lo : Bool) (s : ByteArray) : (madeCells #[Value.int .u8 0] (3 * s.size)).toList = part lo s 0 := by
  rw [toList_madeCells_one]
  simp [part, pctAll]
theorem part_full (lo : Bool) (s : ByteArray) : part lo s s.size = (pctAll lo s.data.toList).map (fun c => Value.int .u8 (c.toNat : Int)) := by
  have : s.data.toList.take s.size = s.data.toList := List.take_of_length_le (by simp)
  simp [part, this]
theorem set3 (P : List Value) (m : Nat) (z a b c : Value) (n : Nat) (hn : P.length = n) :
    (((P ++ List.replicate (m + 3) z).set n a).set (n + 1) b).set (n + 2) c = P ++ a :: b :: c :: List.replicate m z := by
  subst hn
  rw [List.replicate_succ, List.replicate_succ, List.replicate_succ]
  rw [List.set_append_right _ _ (Nat.le_refl _), Nat.sub_self, List.set_cons_zero]
  rw [List.set_append_right _ _ (by omega), show P.length + 1 - P.length = 1 by omega, List.set_cons_succ, List.set_cons_zero]
  rw [List.set_append_right _ _ (by omega), show P.length + 2 - P.length = 2 by omega, List.set_cons_succ, List.set_cons_succ, List.set_cons_zero]
theorem part_succ (lo : Bool) (s : ByteArray) (k : Nat) (hk : k < s.size) :
    (((part lo s k).set (3 * k) (.int .u8 37)).set (3 * k + 1) (.int .u8 ((digAt lo (s[k].toNat / 16)).toNat : Int))).set (3 * k + 2) (.int .u8 ((digAt lo (s[k].toNat % 16)).toNat : Int)) = part lo s (k + 1) := by
  unfold part
  have hl : ((pctAll lo (s.data.toList.take k)).map (fun c => Value.int .u8 (c.toNat : Int))).length = 3 * k := by
    rw [List.length_map, pctAll_length, List.length_take]
    have : s.data.toList.length = s.size := by simp
    omega
  have ht : s.data.toList.take (k + 1) = s.data.toList.take k ++ [s[k]] := by
    rw [List.take_succ_eq_append_getElem (by simpa using hk)]
    rfl
  rw [show 3 * (s.size - k) = 3 * (s.size - (k + 1)) + 3 by omega, set3 _ _ _ _ _ _ (3 * k) hl, ht, pctAll_append, List.map_append]
  simp [pctAll]

theorem info5 : (Tryf.prog.info? 5).map (fun i => (i.zero, i.size, i.bytes)) = some (some (.int .u8 0), 1, 1) := by kernel_rfl
theorem dig_size (lo : Bool) : (hexDig lo).size = 16 := by cases lo <;> rfl
theorem dig_get (lo : Bool) (i : Nat) (h : i < (hexDig lo).size) : (hexDig lo)[i] = digAt lo i := by
  unfold digAt
  have h' : i < (hexDig lo).data.toList.length := by simpa using h
  rw [List.getD_eq_getElem?_getD, List.getElem?_eq_getElem h']
  rfl

theorem own_facts {W : World} {base g n cap : Nat} {xs : List Value} (h : W.ownsRow base 5 1 (.slice (some ⟨g, 0, none⟩) n cap) n xs) (j : Nat) (hj : j < n) : (∃ x, W.cell? ⟨g, j, none⟩ = some x) ∧ W.frozen? ⟨g, j, none⟩ = false := by
  refine ⟨?_, h.frozenAt j⟩
  rw [h.cellAt j (by omega)]
  have hl : xs.length = n * 1 := h.1
  exact ⟨xs[j]'(by omega), List.getElem?_eq_getElem (by omega)⟩

set_option maxRecDepth 100000 in
set_option maxHeartbeats 800000 in
theorem percent_up (s : ByteArray) (w : World) (hs : (s.size : Int) ≤ 1000) :
    Calls Tryf.prog 9 #[.string s, .bool false] w fun e w' => e = .returned (.string ⟨(pctAll false s.data.toList).toArray⟩) ∧ Below w.heap.size w w' := by
  obtain ⟨i0, hi, hz0, hz1, hz2⟩ := info_parts info5
  go_enter Tryf.func9, Tryf.ntmps9
  go_wp2_with (at_make; refine wpList_make_full _ rfl _ _ 39 rfl w.heap.size 5 i0 (.int .u8 0) 1 Tryf.underlying39 hi hz0 hz1 .i64 .i64 _ _ (3 * s.size) rfl rfl (by omega) (by omega) (by rw [hz2]; omega) (by unfold maxLen; omega) (Nat.le_refl _) ?_)
  intro w1 hown hgrow
  have hbel : Below w.heap.size w w1 := (Below.refl _ _).grown hgrow (Nat.le_refl _) (fun k e => by cases e)
  rw [part_zero false s] at hown
  have HO : Hid (w1.ownsRow w.heap.size 5 1 (.slice (some ⟨w.heap.size, 0, none⟩) (3 * s.size) (3 * s.size)) (3 * s.size) (part false s 0)) := hown
  clear hown hgrow
  go_wp2
  go_loopw [7] (fun iv wr => ∃ k : Nat, k ≤ s.size ∧ iv = .int .i64 k ∧ wr.ownsRow w.heap.size 5 1 (.slice (some ⟨w.heap.size, 0, none⟩) (3 * s.size) (3 * s.size)) (3 * s.size) (part false s k) ∧ Below w.heap.size w wr) (fun iv _ => s.size - (intOf iv).toNat)
  case atStart => exact ⟨0, Nat.zero_le _, rfl, HO.out, hbel⟩
  case round =>
    obtain ⟨k, hk, rfl, hown, hbl⟩ := hrel
    clear hbel HO
    by_cases hlt : k < s.size
    · have hcl : (s[k].toNat : Int) ≤ 255 := by have := s[k].toNat_lt; omega
      have hcp : (0 : Int) ≤ (s[k].toNat : Int) := by omega
      obtain ⟨⟨x0, hx0⟩, hf0⟩ := own_facts hown (3 * k) (by omega)
      obtain ⟨⟨x1, hx1⟩, hf1⟩ := own_facts hown (3 * k + 1) (by omega)
      obtain ⟨⟨x2, hx2⟩, hf2⟩ := own_facts hown (3 * k + 2) (by omega)
      have st1 := (hown.stored (3 * k) (.int .u8 37)).1
      have st2 := (st1.stored (3 * k + 1) (.int .u8 ((digAt false (s[k].toNat / 16)).toNat : Int))).1
      have st3 := (st2.stored (3 * k + 2) (.int .u8 ((digAt false (s[k].toNat % 16)).toNat : Int))).1
      have bl3 := ((hbl.setCell (p := ⟨w.heap.size, 3 * k, none⟩) (Nat.le_refl _) (.int .u8 37)).setCell (p := ⟨w.heap.size, 3 * k + 1, none⟩) (Nat.le_refl _) (.int .u8 ((digAt false (s[k].toNat / 16)).toNat : Int))).setCell (p := ⟨w.heap.size, 3 * k + 2, none⟩) (Nat.le_refl _) (.int .u8 ((digAt false (s[k].toNat % 16)).toNat : Int))
      rw [part_succ false s k hlt] at st3
      have g1 : s[k].toNat / 16 < (hexDig false).size := by rw [dig_size]; omega
      have g2 : s[k].toNat % 16 < (hexDig false).size := by rw [dig_size]; omega
      rw [← dig_get false _ g1, ← dig_get false _ g2] at st3 bl3
      clear st1 st2 hown hbl
      go_wp2_with fail
      exact ⟨⟨k + 1, by omega, by go_num, st3, bl3⟩, by simp [intOf]; omega⟩
    · have e : k = s.size := by omega
      subst e
      rw [part_full] at hown
      have hln : (pctAll false s.data.toList).length = 3 * s.size := by rw [pctAll_length]; simp
      have HC := str_of_row w.heap.size 0 (3 * s.size) (3 * s.size) (pctAll false s.data.toList) wr hln (fun i hi => by
        rw [Nat.zero_add, hown.cellAt i (by omega)]
        simp [List.getD_eq_getElem?_getD, show i < (pctAll false s.data.toList).length by omega])
      obtain ⟨t, ht⟩ : ∃ t, t = pctAll false s.data.toList := ⟨_, rfl⟩
      rw [← ht] at HC
      have HT : Hid (t = pctAll false s.data.toList) := ht
      clear hown hln ht
      go_wp2_with fail
      go_ret
      refine ⟨?_, hbl⟩
      rw [← HT.out]
      rfl

set_option maxRecDepth 100000 in
set_option maxHeartbeats 800000 in
theorem percent_lo (s : ByteArray) (w : World) (hs : (s.size : Int) ≤ 1000) :
    Calls Tryf.prog 9 #[.string s, .bool true] w fun e w' => e = .returned (.string ⟨(pctAll true s.data.toList).toArray⟩) ∧ Below w.heap.size w w' := by
  obtain ⟨i0, hi, hz0, hz1, hz2⟩ := info_parts info5
  go_enter Tryf.func9, Tryf.ntmps9
  go_wp2_with (at_make; refine wpList_make_full _ rfl _ _ 39 rfl w.heap.size 5 i0 (.int .u8 0) 1 Tryf.underlying39 hi hz0 hz1 .i64 .i64 _ _ (3 * s.size) rfl rfl (by omega) (by omega) (by rw [hz2]; omega) (by unfold maxLen; omega) (Nat.le_refl _) ?_)
  intro w1 hown hgrow
  have hbel : Below w.heap.size w w1 := (Below.refl _ _).grown hgrow (Nat.le_refl _) (fun k e => by cases e)
  rw [part_zero true s] at hown
  have HO : Hid (w1.ownsRow w.heap.size 5 1 (.slice (some ⟨w.heap.size, 0, none⟩) (3 * s.size) (3 * s.size)) (3 * s.size) (part true s 0)) := hown
  clear hown hgrow
  go_wp2
  go_loopw [7] (fun iv wr => ∃ k : Nat, k ≤ s.size ∧ iv = .int .i64 k ∧ wr.ownsRow w.heap.size 5 1 (.slice (some ⟨w.heap.size, 0, none⟩) (3 * s.size) (3 * s.size)) (3 * s.size) (part true s k) ∧ Below w.heap.size w wr) (fun iv _ => s.size - (intOf iv).toNat)
  case atStart => exact ⟨0, Nat.zero_le _, rfl, HO.out, hbel⟩
  case round =>
    obtain ⟨k, hk, rfl, hown, hbl⟩ := hrel
    clear hbel HO
    by_cases hlt : k < s.size
    · have hcl : (s[k].toNat : Int) ≤ 255 := by have := s[k].toNat_lt; omega
      have hcp : (0 : Int) ≤ (s[k].toNat : Int) := by omega
      obtain ⟨⟨x0, hx0⟩, hf0⟩ := own_facts hown (3 * k) (by omega)
      obtain ⟨⟨x1, hx1⟩, hf1⟩ := own_facts hown (3 * k + 1) (by omega)
      obtain ⟨⟨x2, hx2⟩, hf2⟩ := own_facts hown (3 * k + 2) (by omega)
      have st1 := (hown.stored (3 * k) (.int .u8 37)).1
      have st2 := (st1.stored (3 * k + 1) (.int .u8 ((digAt true (s[k].toNat / 16)).toNat : Int))).1
      have st3 := (st2.stored (3 * k + 2) (.int .u8 ((digAt true (s[k].toNat % 16)).toNat : Int))).1
      have bl3 := ((hbl.setCell (p := ⟨w.heap.size, 3 * k, none⟩) (Nat.le_refl _) (.int .u8 37)).setCell (p := ⟨w.heap.size, 3 * k + 1, none⟩) (Nat.le_refl _) (.int .u8 ((digAt true (s[k].toNat / 16)).toNat : Int))).setCell (p := ⟨w.heap.size, 3 * k + 2, none⟩) (Nat.le_refl _) (.int .u8 ((digAt true (s[k].toNat % 16)).toNat : Int))
      rw [part_succ true s k hlt] at st3
      have g1 : s[k].toNat / 16 < (hexDig true).size := by rw [dig_size]; omega
      have g2 : s[k].toNat % 16 < (hexDig true).size := by rw [dig_size]; omega
      rw [← dig_get true _ g1, ← dig_get true _ g2] at st3 bl3
      clear st1 st2 hown hbl
      go_wp2_with fail
      exact ⟨⟨k + 1, by omega, by go_num, st3, bl3⟩, by simp [intOf]; omega⟩
    · have e : k = s.size := by omega
      subst e
      rw [part_full] at hown
      have hln : (pctAll true s.data.toList).length = 3 * s.size := by rw [pctAll_length]; simp
      have HC := str_of_row w.heap.size 0 (3 * s.size) (3 * s.size) (pctAll true s.data.toList) wr hln (fun i hi => by
        rw [Nat.zero_add, hown.cellAt i (by omega)]
        simp [List.getD_eq_getElem?_getD, show i < (pctAll true s.data.toList).length by omega])
      obtain ⟨t, ht⟩ : ∃ t, t = pctAll true s.data.toList := ⟨_, rfl⟩
      rw [← ht] at HC
      have HT : Hid (t = pctAll true s.data.toList) := ht
      clear hown hln ht
      go_wp2_with fail
      go_ret
      refine ⟨?_, hbl⟩
      rw [← HT.out]
      rfl

theorem percent_any (s : ByteArray) (lo : Bool) (w : World) (hs : (s.size : Int) ≤ 1000) :
    Calls Tryf.prog 9 #[.string s, .bool lo] w fun e w' => e = .returned (.string ⟨(pctAll lo s.data.toList).toArray⟩) ∧ Below w.heap.size w w' := by
  cases lo
  · exact percent_up s w hs
  · exact percent_lo s w hs
end Go.Proofs.Qxb6615473aFmt
