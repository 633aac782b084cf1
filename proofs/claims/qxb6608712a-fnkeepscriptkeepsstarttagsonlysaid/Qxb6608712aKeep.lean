import Derived.Test.Qxb6608712aRows
import Derived.WalkKit
import Derived.ProofKit
import Derived.OpenShut
namespace Go.Proofs.Qxb6608712a
open Go.ChangeShapes Go.WideShapes Go.ChangeAt Go.RowKit
set_option linter.unusedVariables false

theorem info5 : (Try.prog.info? 5).map (fun i => (i.zero, i.size, i.bytes)) = some (some (.int .u8 0), 1, 1) := by kernel_rfl

/-- what the source's block says: the tag's value and whether it keeps -/
structure Src (S : Nat) (w : World) (v : Value) (kp : Bool) : Prop where
  lt : S < w.heap.size
  c7 : w.cell? ⟨S, 7, none⟩ = some v
  c8 : w.cell? ⟨S, 8, none⟩ = some (.bool kp)
  f7 : w.frozen? ⟨S, 7, none⟩ = false
  f8 : w.frozen? ⟨S, 8, none⟩ = false

theorem Src.of_block {S : Nat} {w w' : World} {v : Value} {kp : Bool} (h : Src S w v kp) (hb : w'.heap[S]? = w.heap[S]?) (hs : w.heap.size ≤ w'.heap.size) : Src S w' v kp :=
  ⟨Nat.lt_of_lt_of_le h.lt hs, (World.cell?_of_block (w := w) hb).trans h.c7, (World.cell?_of_block (w := w) hb).trans h.c8, (World.frozen?_of_block (w := w) hb).trans h.f7, (World.frozen?_of_block (w := w) hb).trans h.f8⟩

/-- behind the append: the source's block is as it was, and the tag's new value has its shape -/
theorem behind {S n : Nat} {w w1 : World} {o : Obj} {v v' : Value} {xs ys : List Value} {kp : Bool} (hs : Src S w v kp) (hown : w.ownsRow (S + 1) 5 1 v n xs) (hgrow : (w.alloc o).grownBy w1 v.ownBlock)
    (hown' : w1.ownsRow (S + 1) 5 1 v' (n + 1) ys) : Src S w1 v kp ∧ Below S w w1 ∧ ∃ g cap, v' = .slice (some ⟨g, 0, none⟩) (n + 1) cap := by
  have hlt := hs.lt
  have hne : ∀ k, k ≤ S → some k ≠ v.ownBlock := fun k hk e => by have := (hown.lt k e.symm).1; omega
  have hb : ∀ k, k ≤ S → w1.heap[k]? = w.heap[k]? := fun k hk => by
    rw [hgrow.block k (by simp; omega) (hne k hk)]
    exact Below.heap_alloc w o k (by omega)
  have hsz : w.heap.size ≤ w1.heap.size := by have := hgrow.size; simp at this; omega
  refine ⟨hs.of_block (hb S (Nat.le_refl _)) hsz, ⟨hgrow.os, hgrow.tape, hgrow.output, hsz, fun k hk => hb k (by omega)⟩, ?_⟩
  rcases hown'.2 with ⟨_, h0⟩ | ⟨g, cap, cur, rfl, _⟩
  · omega
  · exact ⟨g, cap, rfl⟩

theorem Src.setTag {S : Nat} {w : World} {v u : Value} {kp : Bool} (h : Src S w v kp) : Src S (w.setCell ⟨S, 7, none⟩ u) u kp := by
  obtain ⟨lt, c7, c8, f7, f8⟩ := h
  refine ⟨by simpa [World.setCell] using lt, ?_, ?_, (World.frozen?_setCell _ _ _ _).trans f7, (World.frozen?_setCell _ _ _ _).trans f8⟩
  · go_simp
  · go_simp
theorem Src.setKeep {S : Nat} {w : World} {v : Value} {kp k2 : Bool} (h : Src S w v kp) : Src S (w.setCell ⟨S, 8, none⟩ (.bool k2)) v k2 := by
  obtain ⟨lt, c7, c8, f7, f8⟩ := h
  refine ⟨by simpa [World.setCell] using lt, ?_, ?_, (World.frozen?_setCell _ _ _ _).trans f7, (World.frozen?_setCell _ _ _ _).trans f8⟩
  · go_simp
  · go_simp

/-- a byte behind '<' that opens a start tag -/
def isTag (c : Int) : Bool := c != 47 && c != 33 && c != 63
theorem isTag_of {c : Int} (h : (c != 47) = true) (k : (c != 33) = true) : isTag c = (c != 63) := by simp [isTag, h, k]

set_option maxHeartbeats 400000 in
theorem keep_first (S : Nat) (c : Int) (v : Value) (xs : List Value) (kp : Bool) (w : World) (hs : Src S w v kp) (hown : w.ownsRow (S + 1) 5 1 v 0 xs) :
    Calls Try.prog 12 #[.pointer (some ⟨S, 0, none⟩), .int .u8 c] w fun e w' => e = .returned (.tuple #[]) ∧ ∃ v', Src S w' v' (c == 60) ∧ w'.ownsRow (S + 1) 5 1 v' 1 (xs ++ [.int .u8 c]) ∧ Below S w w' := by
  obtain ⟨i0, hi, hz0, hz1, hz2⟩ := info_parts info5
  obtain ⟨lt, c7, c8, f7, f8⟩ := id hs
  go_enter Try.func12, Try.ntmps12
  go_wp2_with (at_builtin; refine wpList_append_own _ rfl _ _ 22 rfl (S + 1) 5 i0 (.int .u8 0) 1 1 Try.underlying22 hi hz0 hz1 hz2 rfl (by decide) _ _ _ rfl (hown.alloc _) ⟨w.heap.size, 0, none⟩ 1 1 [.int .u8 c] rfl rfl ?c1 ?c2 ?c3 ?c4 ?c5 ?_)
  case c1 =>
    intro j u hj
    match j, hj with
    | 0, hj => simp at hj; subst hj; simp [Addr.add]
  case c2 => intro u hu; simp at hu; subst hu; rfl
  case c3 => unfold maxLen; omega
  case c4 => omega
  case c5 => simp; omega
  · intro v' w1 hown' hgrow _
    obtain ⟨hs1, hbel, g, cap, rfl⟩ := behind hs hown hgrow hown'
    clear hown hgrow hs c7 c8 f7 f8 lt
    obtain ⟨lt, c7, c8, f7, f8⟩ := id hs1
    go_wp2
    go_end0
    refine ⟨rfl, _, Src.setKeep (Src.setTag hs1), ownsRow_setCell_below (ownsRow_setCell_below hown' (by simp) _) (by simp) _, (hbel.setCell (by simp) _).setCell (by simp) _⟩

set_option maxHeartbeats 400000 in
theorem keep_second (S : Nat) (c : Int) (v : Value) (xs : List Value) (kp : Bool) (w : World) (hs : Src S w v kp) (hown : w.ownsRow (S + 1) 5 1 v 1 xs) :
    Calls Try.prog 12 #[.pointer (some ⟨S, 0, none⟩), .int .u8 c] w fun e w' => e = .returned (.tuple #[]) ∧ ∃ v', Src S w' v' (isTag c) ∧ w'.ownsRow (S + 1) 5 1 v' 2 (xs ++ [.int .u8 c]) ∧ Below S w w' := by
  obtain ⟨i0, hi, hz0, hz1, hz2⟩ := info_parts info5
  obtain ⟨lt, c7, c8, f7, f8⟩ := id hs
  go_enter Try.func12, Try.ntmps12
  go_wp2_with (at_builtin; refine wpList_append_own _ rfl _ _ 22 rfl (S + 1) 5 i0 (.int .u8 0) 1 1 Try.underlying22 hi hz0 hz1 hz2 rfl (by decide) _ _ _ rfl (hown.alloc _) ⟨w.heap.size, 0, none⟩ 1 1 [.int .u8 c] rfl rfl ?c1 ?c2 ?c3 ?c4 ?c5 ?_)
  case c1 =>
    intro j u hj
    match j, hj with
    | 0, hj => simp at hj; subst hj; simp [Addr.add]
  case c2 => intro u hu; simp at hu; subst hu; rfl
  case c3 => unfold maxLen; omega
  case c4 => omega
  case c5 => simp; omega
  · intro v' w1 hown' hgrow _
    obtain ⟨hs1, hbel, g, cap, rfl⟩ := behind hs hown hgrow hown'
    clear hown hgrow hs c7 c8 f7 f8 lt
    obtain ⟨lt, c7, c8, f7, f8⟩ := id hs1
    by_cases h47 : c = 47
    · subst h47
      go_wp2
      go_end0
      exact ⟨rfl, _, Src.setKeep (Src.setTag hs1), ownsRow_setCell_below (ownsRow_setCell_below hown' (by simp) _) (by simp) _, (hbel.setCell (by simp) _).setCell (by simp) _⟩
    by_cases h33 : c = 33
    · subst h33
      go_wp2
      go_end0
      exact ⟨rfl, _, Src.setKeep (Src.setTag hs1), ownsRow_setCell_below (ownsRow_setCell_below hown' (by simp) _) (by simp) _, (hbel.setCell (by simp) _).setCell (by simp) _⟩
    have n47 : (c != 47) = true := by rw [bne_iff_ne]; exact h47
    have n33 : (c != 33) = true := by rw [bne_iff_ne]; exact h33
    have HT : Hid (isTag c = (c != 63)) := isTag_of n47 n33
    clear h47 h33
    go_wp2
    go_end0
    rw [HT.out]
    refine ⟨rfl, _, Src.setKeep (Src.setTag hs1), ownsRow_setCell_below (ownsRow_setCell_below hown' (by simp) _) (by simp) _, (hbel.setCell (by simp) _).setCell (by simp) _⟩

set_option maxHeartbeats 400000 in
theorem keep_more (S : Nat) (c : Int) (v : Value) (n : Nat) (hn : 2 ≤ n) (hm : n ≤ 1048576) (xs : List Value) (kp : Bool) (w : World) (hs : Src S w v kp) (hown : w.ownsRow (S + 1) 5 1 v n xs) :
    Calls Try.prog 12 #[.pointer (some ⟨S, 0, none⟩), .int .u8 c] w fun e w' => e = .returned (.tuple #[]) ∧ ∃ v', Src S w' v' kp ∧ w'.ownsRow (S + 1) 5 1 v' (n + 1) (xs ++ [.int .u8 c]) ∧ Below S w w' := by
  obtain ⟨i0, hi, hz0, hz1, hz2⟩ := info_parts info5
  obtain ⟨lt, c7, c8, f7, f8⟩ := id hs
  go_enter Try.func12, Try.ntmps12
  go_wp2_with (at_builtin; refine wpList_append_own _ rfl _ _ 22 rfl (S + 1) 5 i0 (.int .u8 0) 1 1 Try.underlying22 hi hz0 hz1 hz2 rfl (by decide) _ _ _ rfl (hown.alloc _) ⟨w.heap.size, 0, none⟩ 1 1 [.int .u8 c] rfl rfl ?c1 ?c2 ?c3 ?c4 ?c5 ?_)
  case c1 =>
    intro j u hj
    match j, hj with
    | 0, hj => simp at hj; subst hj; simp [Addr.add]
  case c2 => intro u hu; simp at hu; subst hu; rfl
  case c3 => unfold maxLen; omega
  case c4 => omega
  case c5 => simp; omega
  · intro v' w1 hown' hgrow _
    obtain ⟨hs1, hbel, g, cap, rfl⟩ := behind hs hown hgrow hown'
    clear hown hgrow hs c7 c8 f7 f8 lt
    obtain ⟨lt, c7, c8, f7, f8⟩ := id hs1
    have e1 : (((n : Int) + 1) == 1) = false := beq_eq_false_iff_ne.2 (by omega)
    have e2 : (((n : Int) + 1) == 2) = false := beq_eq_false_iff_ne.2 (by omega)
    go_wp2
    go_end0
    refine ⟨rfl, _, Src.setTag hs1, ownsRow_setCell_below hown' (by simp) _, hbel.setCell (by simp) _⟩

/-- what 'keeping' becomes when byte c is kept behind n others -/
def kpNew (n : Nat) (kp : Bool) (c : Int) : Bool := if n = 0 then c == 60 else if n = 1 then isTag c else kp

theorem keep_any (S : Nat) (c : Int) (v : Value) (n : Nat) (hm : n ≤ 1048576) (xs : List Value) (kp : Bool) (w : World) (hs : Src S w v kp) (hown : w.ownsRow (S + 1) 5 1 v n xs) :
    Calls Try.prog 12 #[.pointer (some ⟨S, 0, none⟩), .int .u8 c] w fun e w' => e = .returned (.tuple #[]) ∧ ∃ v', Src S w' v' (kpNew n kp c) ∧ w'.ownsRow (S + 1) 5 1 v' (n + 1) (xs ++ [.int .u8 c]) ∧ Below S w w' := by
  match n, hm, hown with
  | 0, _, hown => exact keep_first S c v xs kp w hs hown
  | 1, _, hown => exact keep_second S c v xs kp w hs hown
  | n + 2, hm, hown => exact keep_more S c v (n + 2) (by omega) hm xs kp w hs hown

theorem zkeep_any (S : Nat) (c : Int) (v : Value) (n : Nat) (hm : n ≤ 1048576) (xs : List Value) (kp : Bool) (w : World) (hs : Src S w v kp) (hown : w.ownsRow (S + 1) 5 1 v n xs) :
    Calls Try.prog 8 #[.pointer (some ⟨S, 0, none⟩), .int .u8 c] w fun e w' => e = .returned (.tuple #[]) ∧ ∃ v', Src S w' v' (kpNew n kp c) ∧ w'.ownsRow (S + 1) 5 1 v' (n + 1) (xs ++ [.int .u8 c]) ∧ Below S w w' := by
  go_enter Try.func8, Try.ntmps8
  go_wp2_with fail
  refine (keep_any S c v n hm xs kp w hs hown).mono ?_
  rintro e w' ⟨rfl, h⟩
  go_wp2
  go_end0
  exact ⟨rfl, h⟩

theorem zkeeping (S : Nat) (v : Value) (kp : Bool) (w : World) (hs : Src S w v kp) : Calls Try.prog 7 #[.pointer (some ⟨S, 0, none⟩)] w fun e w' => e = .returned (.bool kp) ∧ w' = w := by
  obtain ⟨lt, c7, c8, f7, f8⟩ := hs
  go_enter Try.func7, Try.ntmps7
  go_wp2
  go_ret
  exact ⟨rfl, rfl⟩

theorem ztag (S : Nat) (v : Value) (kp : Bool) (w : World) (hs : Src S w v kp) : Calls Try.prog 11 #[.pointer (some ⟨S, 0, none⟩)] w fun e w' => e = .returned v ∧ w' = w := by
  obtain ⟨lt, c7, c8, f7, f8⟩ := hs
  go_enter Try.func11, Try.ntmps11
  go_wp2
  go_ret
  exact ⟨rfl, rfl⟩

theorem znew (w : World) : Calls Try.prog 6 #[] w fun e w' => e = .returned (.pointer (some ⟨w.heap.size, 0, none⟩)) ∧ Src w.heap.size w' (.slice none 0 0) true ∧ Below w.heap.size w w' := by
  go_enter Try.func6, Try.ntmps6
  go_wp2
  go_ret
  refine ⟨rfl, ⟨by simp, by go_simp, by go_simp, by go_simp, by go_simp⟩, (Below.refl _ _).alloc (Nat.le_refl _) _⟩

theorem zbytes (a : Option Addr) (len cap : Nat) (w : World) (h : (len : Int) ≤ 1048576) : Calls Try.prog 4 #[.slice a len cap] w fun e w' => e = .returned (.bool true) ∧ w' = w := by
  go_enter Try.func4, Try.ntmps4
  go_wp2
  go_ret
  exact ⟨rfl, rfl⟩

theorem law_long (a : Option Addr) (len cap : Nat) (w : World) (h : (1048576 : Int) < len) : Calls Try.prog 3 #[.slice a len cap] w fun e w' => e = .returned (.bool true) ∧ w' = w := by
  go_enter Try.func3, Try.ntmps3
  go_wp2
  go_ret
  exact ⟨rfl, rfl⟩
end Go.Proofs.Qxb6608712a
