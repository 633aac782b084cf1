import Derived.Test.Qxb6615473aFmtRows
import Derived.Test.Qxb6615473aFmtSteps
import Derived.Test.Qxb6615473aFmtNum
import Derived.WalkKit
import Derived.Lib.AtoiErrMem
namespace Go.Proofs.Qxb6615473aFmt
open Go.RowKit
set_option linter.unusedVariables false

theorem unhex_no (c : Int) (w : World) (h : ¬ ((48 ≤ c ∧ c ≤ 57) ∨ (65 ≤ c ∧ c ≤ 70) ∨ (97 ≤ c ∧ c ≤ 102))) :
    Calls Tryf.prog 13 #[.int .u8 c] w fun e w' => e = .returned (.tuple #[.int .u8 0, .bool false]) ∧ w' = w := by
  have hc : c < 48 ∨ (57 < c ∧ c < 65) ∨ (70 < c ∧ c < 97) ∨ 102 < c := by omega
  clear h
  rcases hc with h | ⟨h, k⟩ | ⟨h, k⟩ | h
  all_goals
    go_enter Tryf.func13, Tryf.ntmps13
    go_wp2
    go_ret2
    exact ⟨rfl, rfl⟩
theorem unhex_yes (c : Int) (w : World) (h : (48 ≤ c ∧ c ≤ 57) ∨ (65 ≤ c ∧ c ≤ 70) ∨ (97 ≤ c ∧ c ≤ 102)) (x : Int) (hx : x = 9 * (c / 64) + c % 16) :
    Calls Tryf.prog 13 #[.int .u8 c] w fun e w' => e = .returned (.tuple #[.int .u8 x, .bool true]) ∧ w' = w := by
  rcases h with ⟨h, k⟩ | ⟨h, k⟩ | ⟨h, k⟩
  · have e : x = c - 48 := by omega
    clear hx
    subst e
    go_enter Tryf.func13, Tryf.ntmps13
    go_wp2
    go_ret2
    exact ⟨rfl, rfl⟩
  · have e : x = c - 65 + 10 := by omega
    clear hx
    subst e
    go_enter Tryf.func13, Tryf.ntmps13
    go_wp2
    go_ret2
    exact ⟨rfl, rfl⟩
  · have e : x = c - 97 + 10 := by omega
    clear hx
    subst e
    go_enter Tryf.func13, Tryf.ntmps13
    go_wp2
    go_ret2
    exact ⟨rfl, rfl⟩
theorem unhex_some (c : UInt8) (w : World) : Calls Tryf.prog 13 #[.int .u8 c.toNat] w fun e w' => (∃ (x : Int) (b : Bool), e = .returned (.tuple #[.int .u8 x, .bool b])) ∧ w' = w := by
  by_cases h : (48 ≤ (c.toNat : Int) ∧ (c.toNat : Int) ≤ 57) ∨ (65 ≤ (c.toNat : Int) ∧ (c.toNat : Int) ≤ 70) ∨ (97 ≤ (c.toNat : Int) ∧ (c.toNat : Int) ≤ 102)
  · exact (unhex_yes _ w h _ rfl).mono (fun e w' h => ⟨⟨_, _, h.1⟩, h.2⟩)
  · exact (unhex_no _ w h).mono (fun e w' h => ⟨⟨_, _, h.1⟩, h.2⟩)
/-- zzUnhex, by what net/url's table says of the byte -/
theorem zunhex_no (c : UInt8) (w : World) (h : hexB c = false) : Calls Tryf.prog 13 #[.int .u8 c.toNat] w fun e w' => e = .returned (.tuple #[.int .u8 0, .bool false]) ∧ w' = w := by
  have h' := of_decide_eq_false h
  exact unhex_no _ w (by omega)
theorem zunhex_yes (c : UInt8) (w : World) (h : hexB c = true) : Calls Tryf.prog 13 #[.int .u8 c.toNat] w fun e w' => e = .returned (.tuple #[.int .u8 (hv c : Int), .bool true]) ∧ w' = w := by
  have h' := of_decide_eq_true h
  exact unhex_yes _ w (by omega) _ (by unfold hv; omega)

/-- the model's first pass, k bytes in -/
def PreM (s : ByteArray) (k : Nat) (out : List UInt8) : Prop := unesc s.data.toList = (unesc (s.data.toList.drop k)).map (out ++ ·) ∧ out.length ≤ k
theorem preM_zero (s : ByteArray) : PreM s 0 [] := ⟨by simp, Nat.le_refl _⟩
theorem map_snoc (o : Option (List UInt8)) (out : List UInt8) (c : UInt8) : (o.map (c :: ·)).map (out ++ ·) = o.map ((out ++ [c]) ++ ·) := by
  cases o <;> simp
theorem preM_pct {s : ByteArray} {k : Nat} {out : List UInt8} (h : PreM s k out) (hk : k + 2 < s.size) (h0 : s[k] = 37) (h1 : hexB s[k + 1] = true) (h2 : hexB s[k + 2] = true) : PreM s (k + 3) (out ++ [hexByte s[k + 1] s[k + 2]]) := by
  obtain ⟨a1, a2⟩ := h
  rw [drop_cons s k (by omega), drop_cons s (k + 1) (by omega), drop_cons s (k + 2) (by omega), h0, unesc_pct _ _ _ h1 h2, map_snoc] at a1
  exact ⟨a1, by simp; omega⟩
theorem preM_plus {s : ByteArray} {k : Nat} {out : List UInt8} (h : PreM s k out) (hk : k < s.size) (h0 : s[k] = 43) : PreM s (k + 1) (out ++ [32]) := by
  obtain ⟨a1, a2⟩ := h
  rw [drop_cons s k hk, h0, unesc_plus, map_snoc] at a1
  exact ⟨a1, by simp; omega⟩
theorem preM_other {s : ByteArray} {k : Nat} {out : List UInt8} (h : PreM s k out) (hk : k < s.size) (h0 : s[k] ≠ 37) (h1 : s[k] ≠ 43) : PreM s (k + 1) (out ++ [s[k]]) := by
  obtain ⟨a1, a2⟩ := h
  rw [drop_cons s k hk, unesc_other _ _ h0 h1, map_snoc] at a1
  exact ⟨a1, by simp; omega⟩
theorem preM_short {s : ByteArray} {k : Nat} {out : List UInt8} (h : PreM s k out) (hk : k < s.size) (h0 : s[k] = 37) (h1 : s.size ≤ k + 2) : unesc s.data.toList = none := by
  obtain ⟨a1, _⟩ := h
  rw [a1, drop_cons s k hk, h0, unesc_short _ (by simp; omega)]
  rfl
theorem preM_bad {s : ByteArray} {k : Nat} {out : List UInt8} (h : PreM s k out) (hk : k + 2 < s.size) (h0 : s[k] = 37) (h1 : (hexB s[k + 1] && hexB s[k + 2]) = false) : unesc s.data.toList = none := by
  obtain ⟨a1, _⟩ := h
  rw [a1, drop_cons s k (by omega), drop_cons s (k + 1) (by omega), drop_cons s (k + 2) (by omega), h0, unesc_bad _ _ _ h1]
  rfl
theorem preM_end {s : ByteArray} {out : List UInt8} (h : PreM s s.size out) : unesc s.data.toList = some out := by
  obtain ⟨a1, _⟩ := h
  rw [a1, drop_end, unesc_nil]
  simp

theorem or_small' : ∀ (a b : Fin 16), bits BinOp.or IntKind.u8 ((a.1 : Int) * 16) (b.1 : Int) = ((UInt8.ofNat (a.1 * 16 + b.1)).toNat : Int) := by decide +kernel
theorem or_eq' (a b : UInt8) (h : hexB a = true) (k : hexB b = true) : bits BinOp.or IntKind.u8 ((hv a : Int) * 16) (hv b : Int) = ((hexByte a b).toNat : Int) :=
  or_small' ⟨hv a, hv_lt a h⟩ ⟨hv b, hv_lt b k⟩
/-- what the model hands back -/
def MPost (o : Option Int) (e : Ending) : Prop :=
  match o with
  | some n => e = .returned (.tuple #[.int .i64 n, .bool true])
  | none => e = .returned (.tuple #[.int .i64 0, .bool false])
def modelAll (l : List UInt8) : Option Int := (unesc l).bind modelNum
theorem modelAll_none {l : List UInt8} (h : unesc l = none) : modelAll l = none := by unfold modelAll; rw [h]; rfl

theorem infoB : (Tryf.prog.info? 5).map (fun i => (i.zero, i.size, i.bytes)) = some (some (.int .u8 0), 1, 1) := by kernel_rfl
theorem nb' (c d : UInt8) (h : c ≠ d) : ((c.toNat : Int) == (d.toNat : Int)) = false := beq_eq_false_iff_ne.2 (fun e => h (UInt8.toNat_inj.1 (by omega)))
theorem yb' (c d : UInt8) (h : c = d) : ((c.toNat : Int) == (d.toNat : Int)) = true := by rw [h]; simp

theorem row_shape {W : World} {base n : Nat} {v : Value} {xs : List Value} (h : W.ownsRow base 5 1 v (n + 1) xs) : ∃ g cap, v = .slice (some ⟨g, 0, none⟩) (n + 1) cap := by
  rcases h.2 with ⟨_, h0⟩ | ⟨g, cap, cur, rfl, _⟩
  · omega
  · exact ⟨g, cap, rfl⟩
theorem bel_app {B : Nat} {w w1 w2 : World} {o : Obj} {v : Value} {n : Nat} {xs : List Value} (hB : B ≤ w.heap.size) (hb : Below B w w1) (hown : w1.ownsRow B 5 1 v n xs) (hg : (w1.alloc o).grownBy w2 v.ownBlock) : Below B w w2 := by
  have hlt : ∀ k, k < B → some k ≠ v.ownBlock := fun k hk e => by have := (hown.lt k e.symm).1; omega
  have hsz : w1.heap.size ≤ w2.heap.size := by have := hg.size; simp at this; omega
  refine hb.trans ⟨hg.os, hg.tape, hg.output, hsz, fun k hk => ?_⟩
  have := hb.size
  rw [hg.block k (by simp; omega) (hlt k hk)]
  exact Below.heap_alloc w1 o k (by omega)
theorem cells_snoc (l : List UInt8) (c : UInt8) : Lib.byteCells l ++ [.int .u8 (c.toNat : Int)] = Lib.byteCells (l ++ [c]) := by simp [Lib.byteCells]
/-- the row the model writes into -/
def Row (B : Nat) (vv : Value) (out : List UInt8) (w : World) : Prop := w.ownsRow B 5 1 vv out.length (Lib.byteCells out) ∧ ∃ g cap, vv = .slice (some ⟨g, 0, none⟩) out.length cap
theorem row_app {B : Nat} {w2 : World} {v' : Value} {out : List UInt8} {c : UInt8} {x : Int} (hx : x = (c.toNat : Int)) (h : w2.ownsRow B 5 1 v' (out.length + 1) (Lib.byteCells out ++ [.int .u8 x])) : Row B v' (out ++ [c]) w2 := by
  subst hx
  rw [cells_snoc] at h
  have e : out.length + 1 = (out ++ [c]).length := by simp
  have hs := row_shape h
  rw [e] at h hs
  exact ⟨h, hs⟩

/-- the i-th byte -/
def byteAt (l : List UInt8) (i : Nat) : UInt8 := l.getD i 0
theorem drop_byteAt (l : List UInt8) (i : Nat) (h : i < l.length) : l.drop i = byteAt l i :: l.drop (i + 1) := by
  rw [List.drop_eq_getElem_cons h]
  simp [byteAt, List.getD_eq_getElem?_getD, h]
/-- the model's second pass, i bytes in -/
def St (out : List UInt8) (i nn : Nat) (b : Bool) (m0 : Option (Nat × Bool)) : Prop := m0 = mloop (out.drop i) nn b
theorem st_bad {out : List UInt8} {i nn : Nat} {b : Bool} {m : Option (Nat × Bool)} (h : St out i nn b m) (hi : i < out.length) (hc : ¬ (48 ≤ (byteAt out i).toNat ∧ (byteAt out i).toNat ≤ 57)) : m = none := by
  unfold St at h
  rw [h, drop_byteAt _ _ hi, mloop, if_neg hc]
theorem st_big {out : List UInt8} {i nn : Nat} {m : Option (Nat × Bool)} (h : St out i nn true m) (hi : i < out.length) (hc : 48 ≤ (byteAt out i).toNat ∧ (byteAt out i).toNat ≤ 57) : St out (i + 1) nn true m := by
  unfold St at h ⊢
  rw [h, drop_byteAt _ _ hi, mloop, if_pos hc, if_pos rfl]
theorem st_dig {out : List UInt8} {i nn : Nat} {m : Option (Nat × Bool)} (h : St out i nn false m) (hi : i < out.length) (hc : 48 ≤ (byteAt out i).toNat ∧ (byteAt out i).toNat ≤ 57) : St out (i + 1) (nn * 10 + ((byteAt out i).toNat - 48)) (decide (9223372036854 < nn * 10 + ((byteAt out i).toNat - 48))) m := by
  unfold St at h ⊢
  rw [h, drop_byteAt _ _ hi, mloop, if_pos hc, if_neg (by decide)]
theorem st_end {out : List UInt8} {nn : Nat} {b : Bool} {m : Option (Nat × Bool)} (h : St out out.length nn b m) : m = some (nn, b) := by
  unfold St at h
  rw [h, List.drop_length]
  rfl
theorem modelAll_zero {l out : List UInt8} (h : unesc l = some out) (h0 : out.length = 0) : modelAll l = none := by
  unfold modelAll
  rw [h, List.length_eq_zero_iff.1 h0]
  rfl
theorem modelAll_one {l out : List UInt8} (h : unesc l = some out) (h0 : out.length = 1) (h1 : byteAt out 0 = 43 ∨ byteAt out 0 = 45) : modelAll l = none := by
  unfold modelAll
  rw [h]
  match out, h0, h1 with
  | [c], _, h1 =>
    simp only [byteAt, List.getD_cons_zero] at h1
    rcases h1 with rfl | rfl <;> rfl
theorem modelAll_plus {l out : List UInt8} (h : unesc l = some out) (h0 : 1 < out.length) (h1 : byteAt out 0 = 43) : modelAll l = fin false (mloop (out.drop 1) 0 false) := by
  unfold modelAll
  rw [h]
  match out, h0, h1 with
  | c :: d :: r, _, h1 =>
    simp only [byteAt, List.getD_cons_zero] at h1
    subst h1
    rfl
theorem modelAll_minus {l out : List UInt8} (h : unesc l = some out) (h0 : 1 < out.length) (h1 : byteAt out 0 = 45) : modelAll l = fin true (mloop (out.drop 1) 0 false) := by
  unfold modelAll
  rw [h]
  match out, h0, h1 with
  | c :: d :: r, _, h1 =>
    simp only [byteAt, List.getD_cons_zero] at h1
    subst h1
    rfl
theorem modelAll_plain {l out : List UInt8} (h : unesc l = some out) (h0 : 0 < out.length) (h1 : byteAt out 0 ≠ 43) (h2 : byteAt out 0 ≠ 45) : modelAll l = fin false (mloop (out.drop 0) 0 false) := by
  unfold modelAll
  rw [h]
  match out, h0, h1, h2 with
  | c :: r, _, h1, h2 =>
    simp only [byteAt, List.getD_cons_zero] at h1 h2
    have hn : ¬ (c.toNat = 43 ∨ c.toNat = 45) := by
      rintro (e | e)
      · exact h1 (UInt8.toNat_inj.1 (by simpa using e))
      · exact h2 (UInt8.toNat_inj.1 (by simpa using e))
    simp only [Option.bind_some, modelNum]
    rw [if_neg hn]
    rfl
theorem row_cells {W : World} {base g cap : Nat} {out : List UInt8} (h : W.ownsRow base 5 1 (.slice (some ⟨g, 0, none⟩) out.length cap) out.length (Lib.byteCells out)) (i : Nat) (hi : i < out.length) : W.cell? ⟨g, i, none⟩ = some (.int .u8 ((byteAt out i).toNat : Int)) := by
  rw [h.cellAt i (by omega)]
  simp [Lib.byteCells, byteAt, List.getD_eq_getElem?_getD, hi]

set_option maxRecDepth 100000 in
set_option maxHeartbeats 2000000 in
theorem model_any (s : ByteArray) (w : World) (hs : (s.size : Int) ≤ 4194304) :
    Calls Tryf.prog 7 #[.string s] w fun e w' => MPost (modelAll s.data.toList) e ∧ Below w.heap.size w w' := by
  obtain ⟨i0, hi, hz0, hz1, hz2⟩ := info_parts infoB
  go_enter Tryf.func7, Tryf.ntmps7
  go_wp2_with (at_make; refine wpList_make_own _ rfl _ _ 39 rfl w.heap.size 5 i0 (.int .u8 0) 1 Tryf.underlying39 hi hz0 hz1 .i64 .i64 _ s.size rfl rfl rfl (by rw [hz2]; omega) (by unfold maxLen; omega) (Nat.le_refl _) ?_)
  intro w1 hown hgrow
  have HBL : Hid (Below w.heap.size w w1) := (Below.refl _ _).grown hgrow (Nat.le_refl _) (fun k e => by cases e)
  have HO : Hid (w1.ownsRow w.heap.size 5 1 (.slice (some ⟨w.heap.size, 0, none⟩) 0 s.size) 0 []) := hown
  clear hown hgrow
  go_wp2_with fail
  go_loopw [4, 5] (fun vv iv wr => ∃ (k : Nat) (out : List UInt8), k ≤ s.size ∧ iv = .int .i64 k ∧ PreM s k out ∧ Row w.heap.size vv out wr ∧ Below w.heap.size w wr) (fun _ iv _ => s.size - (intOf iv).toNat)
  case atStart => exact ⟨0, [], Nat.zero_le _, rfl, preM_zero s, ⟨HO.out, _, _, rfl⟩, HBL.out⟩
  case round =>
    obtain ⟨k, out, hk, rfl, hp, ⟨hown, g, cap, rfl⟩, hbl⟩ := hrel
    clear HO HBL
    have hol := hp.2
    by_cases hlt : k < s.size
    · by_cases h37 : s[k] = 37
      · have b37 : ((s[k].toNat : Int) == 37) = true := yb' s[k] 37 h37
        by_cases hsh : s.size ≤ k + 2
        · have HU : Hid (unesc s.data.toList = none) := preM_short hp hlt h37 hsh
          clear hp h37 hown
          go_wp2_with fail
          all_goals
            go_ret2
            rw [modelAll_none HU.out]
            exact ⟨rfl, hbl⟩
        · have hk2 : k + 2 < s.size := by omega
          have hk1 : k + 1 < s.size := by omega
          cases ha : hexB s[k + 1]
          · have HU : Hid (unesc s.data.toList = none) := preM_bad hp hk2 h37 (by rw [ha]; rfl)
            have HA : Hid (hexB s[k + 1] = false) := ha
            clear hp h37 ha hown
            go_wp2_with fail
            refine (zunhex_no s[k + 1] _ HA.out).mono ?_
            rintro e w' ⟨rfl, rfl⟩
            go_wp2_with fail
            refine (unhex_some s[k + 2] _).mono ?_
            rintro e w' ⟨⟨x, b, rfl⟩, rfl⟩
            go_wp2_with fail
            all_goals
              go_ret2
              rw [modelAll_none HU.out]
              exact ⟨rfl, hbl⟩
          · have HA : Hid (hexB s[k + 1] = true) := ha
            cases hb : hexB s[k + 2]
            · have HU : Hid (unesc s.data.toList = none) := preM_bad hp hk2 h37 (by rw [ha, hb]; rfl)
              have HB : Hid (hexB s[k + 2] = false) := hb
              clear hp h37 ha hb hown
              go_wp2_with fail
              refine (zunhex_yes s[k + 1] _ HA.out).mono ?_
              rintro e w' ⟨rfl, rfl⟩
              go_wp2_with fail
              refine (zunhex_no s[k + 2] _ HB.out).mono ?_
              rintro e w' ⟨rfl, rfl⟩
              go_wp2_with fail
              all_goals
                go_ret2
                rw [modelAll_none HU.out]
                exact ⟨rfl, hbl⟩
            · have HP : Hid (PreM s (k + 3) (out ++ [hexByte s[k + 1] s[k + 2]])) := preM_pct hp hk2 h37 ha hb
              have HB : Hid (hexB s[k + 2] = true) := hb
              clear hp h37 ha hb
              go_wp2_with fail
              refine (zunhex_yes s[k + 1] _ HA.out).mono ?_
              rintro e w' ⟨rfl, rfl⟩
              go_wp2_with fail
              refine (zunhex_yes s[k + 2] _ HB.out).mono ?_
              rintro e w3 ⟨rfl, rfl⟩
              have hv1 : (hv s[k + 1] : Int) ≤ 15 := by have := hv_lt _ HA.out; omega
              have hv2 : (hv s[k + 2] : Int) ≤ 15 := by have := hv_lt _ HB.out; omega
              have hv3 : (0 : Int) ≤ (hv s[k + 1] : Int) := by omega
              have hv4 : (0 : Int) ≤ (hv s[k + 2] : Int) := by omega
              have hw16 : IntKind.u8.wrap ((hv s[k + 1] : Int) * 16) = (hv s[k + 1] : Int) * 16 := by simp [IntKind.wrap, IntKind.bits, IntKind.signed]; omega
              go_wp2_with (at_builtin; refine wpList_append_own _ rfl _ _ 39 rfl w.heap.size 5 i0 (.int .u8 0) 1 1 Tryf.underlying39 hi hz0 hz1 hz2 rfl (by decide) _ _ _ rfl (hown.alloc _) ⟨w3.heap.size, 0, none⟩ 1 1 [.int .u8 (bits BinOp.or IntKind.u8 ((hv s[k + 1] : Int) * 16) (hv s[k + 2] : Int))] rfl rfl ?c1 ?c2 ?c3 ?c4 ?c5 ?_)
              case c1 =>
                intro j u hj
                match j, hj with
                | 0, hj => simp at hj; subst hj; simp [Addr.add]
              case c2 => intro u hu; simp at hu; subst hu; rfl
              case c3 => unfold maxLen; omega
              case c4 => omega
              case c5 => have := hbl.size; simp; omega
              · intro v' w2 hown2 hg2 _
                have HR : Hid (Row w.heap.size v' (out ++ [hexByte s[k + 1] s[k + 2]]) w2) := row_app (or_eq' _ _ HA.out HB.out) hown2
                have HL : Hid (Below w.heap.size w w2) := bel_app (Nat.le_refl _) hbl hown hg2
                clear hown2 hg2 hown hbl
                go_wp2_with fail
                exact ⟨⟨k + 3, _, by omega, by go_num, HP.out, HR.out, HL.out⟩, by simp [intOf]; omega⟩
      · have b37 : ((s[k].toNat : Int) == 37) = false := nb' s[k] 37 h37
        by_cases h43 : s[k] = 43
        · have b43 : ((s[k].toNat : Int) == 43) = true := yb' s[k] 43 h43
          have HP : Hid (PreM s (k + 1) (out ++ [32])) := preM_plus hp hlt h43
          clear hp h37 h43
          go_wp2_with (at_builtin; refine wpList_append_own _ rfl _ _ 39 rfl w.heap.size 5 i0 (.int .u8 0) 1 1 Tryf.underlying39 hi hz0 hz1 hz2 rfl (by decide) _ _ _ rfl (hown.alloc _) ⟨wr.heap.size, 0, none⟩ 1 1 [.int .u8 32] rfl rfl ?c1 ?c2 ?c3 ?c4 ?c5 ?_)
          case c1 =>
            intro j u hj
            match j, hj with
            | 0, hj => simp at hj; subst hj; simp [Addr.add]
          case c2 => intro u hu; simp at hu; subst hu; rfl
          case c3 => unfold maxLen; omega
          case c4 => omega
          case c5 => have := hbl.size; simp; omega
          · intro v' w2 hown2 hg2 _
            have HR : Hid (Row w.heap.size v' (out ++ [32]) w2) := row_app rfl hown2
            have HL : Hid (Below w.heap.size w w2) := bel_app (Nat.le_refl _) hbl hown hg2
            clear hown2 hg2 hown hbl
            go_wp2_with fail
            exact ⟨⟨k + 1, _, by omega, by go_num, HP.out, HR.out, HL.out⟩, by simp [intOf]; omega⟩
        · have b43 : ((s[k].toNat : Int) == 43) = false := nb' s[k] 43 h43
          have HP : Hid (PreM s (k + 1) (out ++ [s[k]])) := preM_other hp hlt h37 h43
          clear hp h37 h43
          go_wp2_with (at_builtin; refine wpList_append_own _ rfl _ _ 39 rfl w.heap.size 5 i0 (.int .u8 0) 1 1 Tryf.underlying39 hi hz0 hz1 hz2 rfl (by decide) _ _ _ rfl (hown.alloc _) ⟨wr.heap.size, 0, none⟩ 1 1 [.int .u8 (s[k].toNat : Int)] rfl rfl ?c1 ?c2 ?c3 ?c4 ?c5 ?_)
          case c1 =>
            intro j u hj
            match j, hj with
            | 0, hj => simp at hj; subst hj; simp [Addr.add]
          case c2 => intro u hu; simp at hu; subst hu; rfl
          case c3 => unfold maxLen; omega
          case c4 => omega
          case c5 => have := hbl.size; simp; omega
          · intro v' w2 hown2 hg2 _
            have HR : Hid (Row w.heap.size v' (out ++ [s[k]]) w2) := row_app rfl hown2
            have HL : Hid (Below w.heap.size w w2) := bel_app (Nat.le_refl _) hbl hown hg2
            clear hown2 hg2 hown hbl
            go_wp2_with fail
            exact ⟨⟨k + 1, _, by omega, by go_num, HP.out, HR.out, HL.out⟩, by simp [intOf]; omega⟩
    · have e : k = s.size := by omega
      subst e
      have HE : Hid (unesc s.data.toList = some out) := preM_end hp
      have HC : Hid (∀ i, i < out.length → wr.cell? ⟨g, i, none⟩ = some (.int .u8 ((byteAt out i).toNat : Int))) := fun i hi => row_cells hown i hi
      have HLN : Hid (∀ nn b m, St out out.length nn b m → m = some (nn, b)) := fun nn b m h => st_end h
      clear hp hlt hown hk
      by_cases h0 : out.length = 0
      · have HM : Hid (modelAll s.data.toList = none) := modelAll_zero HE.out h0
        rw [h0]
        clear HC HE HLN
        go_wp2_with fail
        go_ret2
        rw [HM.out]
        exact ⟨rfl, hbl⟩
      have hn0 : 0 < out.length := by omega
      have hc0 := HC.out 0 hn0
      by_cases hsg : byteAt out 0 = 43 ∨ byteAt out 0 = 45
      · by_cases h1 : out.length = 1
        · have HM : Hid (modelAll s.data.toList = none) := modelAll_one HE.out h1 hsg
          rw [h1]
          clear HC HE HLN
          rcases hsg with hsg | hsg
          all_goals
            rw [hsg] at hc0
            clear hsg
            go_wp2_with fail
            go_ret2
            rw [HM.out]
            exact ⟨rfl, hbl⟩
        · have hn1 : 1 < out.length := by omega
          have hne : ((1 : Int) == (out.length : Int)) = false := beq_eq_false_iff_ne.2 (by omega)
          rcases hsg with hsg | hsg
          · have HM : Hid (modelAll s.data.toList = fin false (mloop (out.drop 1) 0 false)) := modelAll_plus HE.out hn1 hsg
            have HS : Hid (St out 1 0 false (mloop (out.drop 1) 0 false)) := rfl
            generalize mloop (out.drop 1) 0 false = m0 at HM HS
            rw [hsg] at hc0
            have hc0' : wr.cell? ⟨g, 0, none⟩ = some (.int .u8 43) := hc0
            have hn0' : (0 : Int) < (out.length : Int) := by omega
            clear hsg HE h0 h1 hc0
            go_wp2_with fail
            go_loopw [11, 13, 14] (fun jv nv bv wz => ∃ (i nn : Nat) (b : Bool), i ≤ out.length ∧ jv = .int .i64 i ∧ nv = .int .i64 nn ∧ bv = .bool b ∧ nn ≤ 92233720368549 ∧ (b = false → nn ≤ 9223372036854) ∧ St out i nn b m0 ∧ wz = wr) (fun jv _ _ _ => out.length - (intOf jv).toNat)
            case atStart => exact ⟨1, 0, false, by omega, rfl, rfl, rfl, by omega, fun _ => by omega, HS.out, rfl⟩
            case round =>
              obtain ⟨i, nn, b, hi, rfl, rfl, rfl, hnn, hnb, hst, rfl⟩ := hrel
              clear HS
              by_cases hlt : i < out.length
              · have hci := HC.out i hlt
                by_cases hc : 48 ≤ (byteAt out i).toNat ∧ (byteAt out i).toNat ≤ 57
                · cases b
                  · have HT : Hid _ := st_dig hst hlt hc
                    have hnn' := hnb rfl
                    obtain ⟨d, hd⟩ : ∃ d : Nat, (byteAt out i).toNat = d + 48 := ⟨(byteAt out i).toNat - 48, by omega⟩
                    have hd9 : d ≤ 9 := by omega
                    rw [hd] at hci HT
                    clear hst hc hnb hd
                    by_cases hbig : 9223372036854 < nn * 10 + d
                    · have HT1 : Hid (St out (i + 1) (nn * 10 + d) true m0) := by
                        have h := HT.out
                        rw [Nat.add_sub_cancel, decide_eq_true hbig] at h
                        exact h
                      have hbi : (9223372036854 : Int) < (nn : Int) * 10 + (d : Int) := by omega
                      clear HT
                      go_wp2_with fail
                      exact ⟨⟨i + 1, nn * 10 + d, true, by omega, by go_num, by go_num, rfl, by omega, (fun h => by cases h), HT1.out, by trivial⟩, by simp [intOf]; omega⟩
                    · have HT1 : Hid (St out (i + 1) (nn * 10 + d) false m0) := by
                        have h := HT.out
                        rw [Nat.add_sub_cancel, decide_eq_false hbig] at h
                        exact h
                      have hbi : (nn : Int) * 10 + (d : Int) ≤ 9223372036854 := by omega
                      clear HT
                      go_wp2_with fail
                      exact ⟨⟨i + 1, nn * 10 + d, false, by omega, by go_num, by go_num, rfl, by omega, (fun _ => by omega), HT1.out, by trivial⟩, by simp [intOf]; omega⟩
                  · have HT : Hid (St out (i + 1) nn true m0) := st_big hst hlt hc
                    have hc1 : (48 : Int) ≤ ((byteAt out i).toNat : Int) := by omega
                    have hc2 : ((byteAt out i).toNat : Int) ≤ 57 := by omega
                    clear hst hc hnb
                    go_wp2_with fail
                    exact ⟨⟨i + 1, nn, true, by omega, by go_num, rfl, rfl, hnn, (fun h => by cases h), HT.out, by trivial⟩, by simp [intOf]; omega⟩
                · have HT : Hid (m0 = none) := st_bad hst hlt hc
                  have hcc : ((byteAt out i).toNat : Int) < 48 ∨ (57 : Int) < ((byteAt out i).toNat : Int) := by omega
                  clear hst hc hnb
                  rcases hcc with hcc | hcc
                  all_goals
                    go_wp2_with fail
                    go_ret2
                    rw [HM.out, HT.out]
                    exact ⟨rfl, hbl⟩
              · have e : i = out.length := by omega
                subst e
                have HT : Hid (m0 = some (nn, b)) := HLN.out _ _ _ hst
                clear hst hlt hi hnb
                cases b
                · by_cases hz : nn = 0
                  · subst hz
                    go_wp2_with fail
                    go_ret2
                    rw [HM.out, HT.out]
                    exact ⟨rfl, hbl⟩
                  · have hz1 : ((nn : Int) == 0) = false := beq_eq_false_iff_ne.2 (by omega)
                    have hz2 : ((nn : Int) != 0) = true := bne_iff_ne.2 (by omega)
                    have HZ : Hid (nn ≠ 0) := hz
                    clear hz
                    go_wp2_with fail
                    go_ret2
                    rw [HM.out, HT.out]
                    refine ⟨?_, hbl⟩
                    simp [fin, MPost, HZ.out]
                · go_wp2_with fail
                  go_ret2
                  rw [HM.out, HT.out]
                  exact ⟨rfl, hbl⟩
          · have HM : Hid (modelAll s.data.toList = fin true (mloop (out.drop 1) 0 false)) := modelAll_minus HE.out hn1 hsg
            have HS : Hid (St out 1 0 false (mloop (out.drop 1) 0 false)) := rfl
            generalize mloop (out.drop 1) 0 false = m0 at HM HS
            rw [hsg] at hc0
            have hc0' : wr.cell? ⟨g, 0, none⟩ = some (.int .u8 45) := hc0
            have hn0' : (0 : Int) < (out.length : Int) := by omega
            clear hsg HE h0 h1 hc0
            go_wp2_with fail
            go_loopw [11, 13, 14] (fun jv nv bv wz => ∃ (i nn : Nat) (b : Bool), i ≤ out.length ∧ jv = .int .i64 i ∧ nv = .int .i64 nn ∧ bv = .bool b ∧ nn ≤ 92233720368549 ∧ (b = false → nn ≤ 9223372036854) ∧ St out i nn b m0 ∧ wz = wr) (fun jv _ _ _ => out.length - (intOf jv).toNat)
            case atStart => exact ⟨1, 0, false, by omega, rfl, rfl, rfl, by omega, fun _ => by omega, HS.out, rfl⟩
            case round =>
              obtain ⟨i, nn, b, hi, rfl, rfl, rfl, hnn, hnb, hst, rfl⟩ := hrel
              clear HS
              by_cases hlt : i < out.length
              · have hci := HC.out i hlt
                by_cases hc : 48 ≤ (byteAt out i).toNat ∧ (byteAt out i).toNat ≤ 57
                · cases b
                  · have HT : Hid _ := st_dig hst hlt hc
                    have hnn' := hnb rfl
                    obtain ⟨d, hd⟩ : ∃ d : Nat, (byteAt out i).toNat = d + 48 := ⟨(byteAt out i).toNat - 48, by omega⟩
                    have hd9 : d ≤ 9 := by omega
                    rw [hd] at hci HT
                    clear hst hc hnb hd
                    by_cases hbig : 9223372036854 < nn * 10 + d
                    · have HT1 : Hid (St out (i + 1) (nn * 10 + d) true m0) := by
                        have h := HT.out
                        rw [Nat.add_sub_cancel, decide_eq_true hbig] at h
                        exact h
                      have hbi : (9223372036854 : Int) < (nn : Int) * 10 + (d : Int) := by omega
                      clear HT
                      go_wp2_with fail
                      exact ⟨⟨i + 1, nn * 10 + d, true, by omega, by go_num, by go_num, rfl, by omega, (fun h => by cases h), HT1.out, by trivial⟩, by simp [intOf]; omega⟩
                    · have HT1 : Hid (St out (i + 1) (nn * 10 + d) false m0) := by
                        have h := HT.out
                        rw [Nat.add_sub_cancel, decide_eq_false hbig] at h
                        exact h
                      have hbi : (nn : Int) * 10 + (d : Int) ≤ 9223372036854 := by omega
                      clear HT
                      go_wp2_with fail
                      exact ⟨⟨i + 1, nn * 10 + d, false, by omega, by go_num, by go_num, rfl, by omega, (fun _ => by omega), HT1.out, by trivial⟩, by simp [intOf]; omega⟩
                  · have HT : Hid (St out (i + 1) nn true m0) := st_big hst hlt hc
                    have hc1 : (48 : Int) ≤ ((byteAt out i).toNat : Int) := by omega
                    have hc2 : ((byteAt out i).toNat : Int) ≤ 57 := by omega
                    clear hst hc hnb
                    go_wp2_with fail
                    exact ⟨⟨i + 1, nn, true, by omega, by go_num, rfl, rfl, hnn, (fun h => by cases h), HT.out, by trivial⟩, by simp [intOf]; omega⟩
                · have HT : Hid (m0 = none) := st_bad hst hlt hc
                  have hcc : ((byteAt out i).toNat : Int) < 48 ∨ (57 : Int) < ((byteAt out i).toNat : Int) := by omega
                  clear hst hc hnb
                  rcases hcc with hcc | hcc
                  all_goals
                    go_wp2_with fail
                    go_ret2
                    rw [HM.out, HT.out]
                    exact ⟨rfl, hbl⟩
              · have e : i = out.length := by omega
                subst e
                have HT : Hid (m0 = some (nn, b)) := HLN.out _ _ _ hst
                clear hst hlt hi hnb
                cases b
                · by_cases hz : nn = 0
                  · subst hz
                    go_wp2_with fail
                    go_ret2
                    rw [HM.out, HT.out]
                    exact ⟨rfl, hbl⟩
                  · have hz1 : ((nn : Int) == 0) = false := beq_eq_false_iff_ne.2 (by omega)
                    have hz2 : ((nn : Int) != 0) = true := bne_iff_ne.2 (by omega)
                    have HZ : Hid (nn ≠ 0) := hz
                    clear hz
                    go_wp2_with fail
                    go_ret2
                    rw [HM.out, HT.out]
                    refine ⟨?_, hbl⟩
                    simp [fin, MPost, HZ.out]
                · go_wp2_with fail
                  go_ret2
                  rw [HM.out, HT.out]
                  exact ⟨rfl, hbl⟩
      · have HM : Hid (modelAll s.data.toList = fin false (mloop (out.drop 0) 0 false)) := modelAll_plain HE.out hn0 (fun e => hsg (.inl e)) (fun e => hsg (.inr e))
        have HS : Hid (St out 0 0 false (mloop (out.drop 0) 0 false)) := rfl
        generalize mloop (out.drop 0) 0 false = m0 at HM HS
        have hs1 : (((byteAt out 0).toNat : Int) == 43) = false := nb' _ 43 (fun e => hsg (.inl e))
        have hs2 : (((byteAt out 0).toNat : Int) == 45) = false := nb' _ 45 (fun e => hsg (.inr e))
        have hne : ((0 : Int) == (out.length : Int)) = false := beq_eq_false_iff_ne.2 (by omega)
        have hn0' : (0 : Int) < (out.length : Int) := by omega
        clear hsg HE h0
        go_wp2_with fail
        go_loopw [11, 13, 14] (fun jv nv bv wz => ∃ (i nn : Nat) (b : Bool), i ≤ out.length ∧ jv = .int .i64 i ∧ nv = .int .i64 nn ∧ bv = .bool b ∧ nn ≤ 92233720368549 ∧ (b = false → nn ≤ 9223372036854) ∧ St out i nn b m0 ∧ wz = wr) (fun jv _ _ _ => out.length - (intOf jv).toNat)
        case atStart => exact ⟨0, 0, false, by omega, rfl, rfl, rfl, by omega, fun _ => by omega, HS.out, rfl⟩
        case round =>
          obtain ⟨i, nn, b, hi, rfl, rfl, rfl, hnn, hnb, hst, rfl⟩ := hrel
          clear HS
          by_cases hlt : i < out.length
          · have hci := HC.out i hlt
            by_cases hc : 48 ≤ (byteAt out i).toNat ∧ (byteAt out i).toNat ≤ 57
            · cases b
              · have HT : Hid _ := st_dig hst hlt hc
                have hnn' := hnb rfl
                obtain ⟨d, hd⟩ : ∃ d : Nat, (byteAt out i).toNat = d + 48 := ⟨(byteAt out i).toNat - 48, by omega⟩
                have hd9 : d ≤ 9 := by omega
                rw [hd] at hci HT
                clear hst hc hnb hd
                by_cases hbig : 9223372036854 < nn * 10 + d
                · have HT1 : Hid (St out (i + 1) (nn * 10 + d) true m0) := by
                    have h := HT.out
                    rw [Nat.add_sub_cancel, decide_eq_true hbig] at h
                    exact h
                  have hbi : (9223372036854 : Int) < (nn : Int) * 10 + (d : Int) := by omega
                  clear HT
                  go_wp2_with fail
                  exact ⟨⟨i + 1, nn * 10 + d, true, by omega, by go_num, by go_num, rfl, by omega, (fun h => by cases h), HT1.out, by trivial⟩, by simp [intOf]; omega⟩
                · have HT1 : Hid (St out (i + 1) (nn * 10 + d) false m0) := by
                    have h := HT.out
                    rw [Nat.add_sub_cancel, decide_eq_false hbig] at h
                    exact h
                  have hbi : (nn : Int) * 10 + (d : Int) ≤ 9223372036854 := by omega
                  clear HT
                  go_wp2_with fail
                  exact ⟨⟨i + 1, nn * 10 + d, false, by omega, by go_num, by go_num, rfl, by omega, (fun _ => by omega), HT1.out, by trivial⟩, by simp [intOf]; omega⟩
              · have HT : Hid (St out (i + 1) nn true m0) := st_big hst hlt hc
                have hc1 : (48 : Int) ≤ ((byteAt out i).toNat : Int) := by omega
                have hc2 : ((byteAt out i).toNat : Int) ≤ 57 := by omega
                clear hst hc hnb
                go_wp2_with fail
                exact ⟨⟨i + 1, nn, true, by omega, by go_num, rfl, rfl, hnn, (fun h => by cases h), HT.out, by trivial⟩, by simp [intOf]; omega⟩
            · have HT : Hid (m0 = none) := st_bad hst hlt hc
              have hcc : ((byteAt out i).toNat : Int) < 48 ∨ (57 : Int) < ((byteAt out i).toNat : Int) := by omega
              clear hst hc hnb
              rcases hcc with hcc | hcc
              all_goals
                go_wp2_with fail
                go_ret2
                rw [HM.out, HT.out]
                exact ⟨rfl, hbl⟩
          · have e : i = out.length := by omega
            subst e
            have HT : Hid (m0 = some (nn, b)) := HLN.out _ _ _ hst
            clear hst hlt hi hnb
            cases b
            · by_cases hz : nn = 0
              · subst hz
                go_wp2_with fail
                go_ret2
                rw [HM.out, HT.out]
                exact ⟨rfl, hbl⟩
              · have hz1 : ((nn : Int) == 0) = false := beq_eq_false_iff_ne.2 (by omega)
                have hz2 : ((nn : Int) != 0) = true := bne_iff_ne.2 (by omega)
                have HZ : Hid (nn ≠ 0) := hz
                clear hz
                go_wp2_with fail
                go_ret2
                rw [HM.out, HT.out]
                refine ⟨?_, hbl⟩
                simp [fin, MPost, HZ.out]
            · go_wp2_with fail
              go_ret2
              rw [HM.out, HT.out]
              exact ⟨rfl, hbl⟩
end Go.Proofs.Qxb6615473aFmt
