import Derived.Test.Qxb6615473aFmtShelf
import Derived.Test.Qxb6615473aFmtErrf
import Derived.Test.Qxb6615473aFmtIs
import Derived.Laws.EntriesVeiled
import Derived.OneCell
namespace Go.Proofs.Qxb6615473aFmt
open Go.RowKit Go.Extern.Stop Go.Stop Go.Extern
set_option linter.unusedVariables false

/-- what the listed variables hold, as far as the walks ask -/
structure Env (aR aS : Addr) (w : World) : Prop where
  tab : Tab w
  cR : w.cell? ⟨0, 0, none⟩ = some (.iface 95 (.pointer (some aR)))
  cS : w.cell? ⟨2, 0, none⟩ = some (.iface 95 (.pointer (some aS)))
  ne : aS ≠ aR
  bR : ∃ c t, w.heap[aR.block]? = some (.cells c t (0, 0))
  bS : ∃ c t, w.heap[aS.block]? = some (.cells c t (0, 0))

theorem block_lt {w : World} {b o : Nat} {v : Value} (h : w.cell? ⟨b, o, none⟩ = some v) : b < w.heap.size := by
  rcases Nat.lt_or_ge b w.heap.size with h' | h'
  · exact h'
  · exact absurd h (by simp [World.cell?, Array.getElem?_eq_none h'])

theorem Env.below {aR aS : Addr} {w w' : World} (h : Env aR aS w) (hb : Below w.heap.size w w') : Env aR aS w' := by
  obtain ⟨tab, cR, cS, ne, ⟨c1, t1, bR⟩, ⟨c2, t2, bS⟩⟩ := h
  have l0 := block_lt cR
  have l2 := block_lt cS
  have l1 : 1 < w.heap.size := block_lt (tab 0 (by omega))
  exact ⟨fun i hi => (hb.cell (p := ⟨1, i, none⟩) l1).trans (tab i hi), (hb.cell (p := ⟨0, 0, none⟩) l0).trans cR, (hb.cell (p := ⟨2, 0, none⟩) l2).trans cS, ne,
    ⟨c1, t1, (hb.block _ (lt_of_block bR)).trans bR⟩, ⟨c2, t2, (hb.block _ (lt_of_block bS)).trans bS⟩⟩

/-- strconv.ParseInt(s, 10, 64), the number out of int64's range -/
theorem parse_range (s : ByteArray) (hs : (s.size : Int) ≤ 4194304) (h : Lib.parseIntB 64 s.data.toList = .range) (aR aS : Addr) (w : World) (he : Env aR aS w) :
    Calls Tryf.prog 18 #[.string s, .int .i64 10, .int .i64 64] w fun e w' => ∃ N, e = .returned (.tuple #[.int .i64 (Lib.intSat 64 s.data.toList), .iface 81 (.pointer (some ⟨N, 0, none⟩))]) ∧ w'.cell? ⟨N, 2, none⟩ = some (.iface 95 (.pointer (some aR))) ∧ Below w.heap.size w w' := by
  refine (Any.strconv_ParseInt_10_at64_range laysC174 s (by omega) h _ w he.cR (.inr ⟨_, _, rfl⟩)).mono ?_
  rintro e w' ⟨N, rfl, _, hN, hb⟩
  exact ⟨N, rfl, by simp [World.cell?, hN], hb⟩

/-- strconv.ParseInt(s, 10, 64), no numeral -/
theorem parse_bad (s : ByteArray) (hs : (s.size : Int) ≤ 4194304) (h1 : ∀ v, Lib.parseIntB 64 s.data.toList ≠ .ok v) (h2 : Lib.parseIntB 64 s.data.toList ≠ .range) (aR aS : Addr) (w : World) (he : Env aR aS w) :
    Calls Tryf.prog 18 #[.string s, .int .i64 10, .int .i64 64] w fun e w' => ∃ N, e = .returned (.tuple #[.int .i64 0, .iface 81 (.pointer (some ⟨N, 0, none⟩))]) ∧ w'.cell? ⟨N, 2, none⟩ = some (.iface 95 (.pointer (some aS))) ∧ Below w.heap.size w w' := by
  cases hx : Lib.parseIntB 64 s.data.toList with
  | ok v => exact absurd hx (h1 v)
  | range => exact absurd hx h2
  | _ =>
    refine (Any.strconv_ParseInt_10_at64_syntax laysC174 s (by omega) hx _ w he.cS (.inr ⟨_, _, rfl⟩)).mono ?_
    rintro e w' ⟨N, rfl, _, hN, hb⟩
    exact ⟨N, rfl, by simp [World.cell?, hN], hb⟩

/-- what 'parse' hands back -/
def PPost (o : Option Int) (e : Ending) : Prop :=
  match o with
  | some n => e = .returned (.tuple #[.int .i64 n, .nilIface])
  | none => ∃ t x, e = .returned (.tuple #[.int .i64 0, .iface t x])

/-- the number that a text spells, where it is in the option's range -/
def numOf (u : List UInt8) : Option Int :=
  match Lib.parseIntB 64 u with
  | .ok n => if 0 ≤ n ∧ n ≤ 9223372036854 then some n else none
  | _ => none
def parseAll (l : List UInt8) : Option Int := (unesc l).bind numOf

theorem unesc_length : ∀ (l u : List UInt8), unesc l = some u → u.length ≤ l.length := by
  intro l
  induction hn : l.length using Nat.strongRecOn generalizing l with
  | _ n ih =>
    intro u h
    match l, hn, h with
    | [], _, h => rw [unesc_nil] at h; cases h; simp
    | c :: r, hn, h =>
      by_cases hc : c = 37
      · subst hc
        match r, hn, h with
        | [], _, h => rw [unesc_short _ (by simp)] at h; cases h
        | [a], _, h => rw [unesc_short _ (by simp)] at h; cases h
        | a :: b :: r', hn, h =>
          cases hb : (hexB a && hexB b) with
          | false => rw [unesc_bad _ _ _ hb] at h; cases h
          | true =>
            simp only [Bool.and_eq_true] at hb
            rw [unesc_pct _ _ _ hb.1 hb.2] at h
            obtain ⟨u', e1, rfl⟩ := Option.map_eq_some_iff.1 h
            have := ih r'.length (by simp at hn; omega) r' rfl u' e1
            simp at hn ⊢
            omega
      · rw [unesc_step c r hc] at h
        obtain ⟨u', e1, rfl⟩ := Option.map_eq_some_iff.1 h
        have := ih r.length (by simp at hn; omega) r rfl u' e1
        simp at hn ⊢
        omega

set_option maxRecDepth 100000 in
set_option maxHeartbeats 1000000 in
theorem parse_none (nm s : ByteArray) (fg fs : Value) (w : World) (hs : (s.size : Int) ≤ 4194304) (aR aS : Addr) (he : Env aR aS w) (hu : unesc s.data.toList = none) :
    Calls Tryf.prog 12 #[.agg #[.string nm, .int .i64 0, .int .i64 9223372036854, fg, fs], .string s] w fun e w' => PPost none e ∧ Below w.heap.size w w' := by
  have hq := query_all s (w.alloc (.cells #[.string nm, .int .i64 0, .int .i64 9223372036854, fg, fs] 35)) hs (he.below ((Below.refl _ _).alloc (Nat.le_refl _) _)).tab
  rw [hu] at hq
  go_enter Tryf.func12, Tryf.ntmps12
  go_wp2_with fail
  refine hq.mono ?_
  rintro e w1 ⟨⟨x, rfl⟩, hb⟩
  go_wp2_with fail
  go_ret2
  exact ⟨⟨_, _, rfl⟩, ((Below.refl _ _).alloc (Nat.le_refl _) _).trans (hb.mono (by simp))⟩

theorem bcell {W w1 : World} (hb : Below W.heap.size W w1) : (∀ b o, b < W.heap.size → w1.cell? ⟨b, o, none⟩ = W.cell? ⟨b, o, none⟩) ∧ (∀ b o, b < W.heap.size → w1.frozen? ⟨b, o, none⟩ = W.frozen? ⟨b, o, none⟩) :=
  ⟨fun b o h => hb.cell (p := ⟨b, o, none⟩) h, fun b o h => hb.frozen (p := ⟨b, o, none⟩) h⟩

set_option maxRecDepth 100000 in
set_option maxHeartbeats 1000000 in
theorem parse_in (F : Interp) (nm s : ByteArray) (fg fs : Value) (w : World) (hF : F.answers w.tape) (hs : (s.size : Int) ≤ 4194304) (aR aS : Addr) (he : Env aR aS w) (u : List UInt8) (hu : unesc s.data.toList = some u) (n : Int) (hn : Lib.parseIntB 64 u = .ok n) (h0 : 0 ≤ n) (h1 : n ≤ 9223372036854) :
    Calls Tryf.prog 12 #[.agg #[.string nm, .int .i64 0, .int .i64 9223372036854, fg, fs], .string s] w fun e w' => PPost (some n) e ∧ Below w.heap.size w w' := by
  have W0 : Below w.heap.size w (w.alloc (.cells #[.string nm, .int .i64 0, .int .i64 9223372036854, fg, fs] 35)) := (Below.refl _ _).alloc (Nat.le_refl _) _
  have hq := query_all s (w.alloc (.cells #[.string nm, .int .i64 0, .int .i64 9223372036854, fg, fs] 35)) hs (he.below W0).tab
  rw [hu] at hq
  have hq' : Calls Tryf.prog 17 #[.string s] (w.alloc (.cells #[.string nm, .int .i64 0, .int .i64 9223372036854, fg, fs] 35)) fun e w' => e = .returned (.tuple #[.string ⟨u.toArray⟩, .nilIface]) ∧ Below (w.alloc (.cells #[.string nm, .int .i64 0, .int .i64 9223372036854, fg, fs] 35)).heap.size (w.alloc (.cells #[.string nm, .int .i64 0, .int .i64 9223372036854, fg, fs] 35)) w' := hq
  have hl := unesc_length _ _ hu
  have hsu : ((⟨u.toArray⟩ : ByteArray).size : Int) ≤ 4194304 := by
    have e1 : (⟨u.toArray⟩ : ByteArray).size = u.length := by simp [ByteArray.size]
    have e2 : s.data.toList.length = s.size := by simp
    omega
  have HQ : Hid (Calls Tryf.prog 17 #[.string s] (w.alloc (.cells #[.string nm, .int .i64 0, .int .i64 9223372036854, fg, fs] 35)) fun e w' => e = .returned (.tuple #[.string ⟨u.toArray⟩, .nilIface]) ∧ Below (w.alloc (.cells #[.string nm, .int .i64 0, .int .i64 9223372036854, fg, fs] 35)).heap.size (w.alloc (.cells #[.string nm, .int .i64 0, .int .i64 9223372036854, fg, fs] 35)) w') := hq'
  clear hq hq' hl hu
  obtain ⟨us, hus⟩ : ∃ us : ByteArray, us = ⟨u.toArray⟩ := ⟨_, rfl⟩
  rw [← hus] at hsu
  have HUS : Hid (us = ⟨u.toArray⟩) := hus
  have HN : Hid (Lib.parseIntB 64 us.data.toList = .ok n) := by rw [hus]; exact hn
  clear hus hn
  rw [← HUS.out] at HQ
  go_enter Tryf.func12, Tryf.ntmps12
  go_wp2_with fail
  refine HQ.out.mono ?_
  rintro e w1 ⟨rfl, hb⟩
  have he1 : Env aR aS w1 := (he.below W0).below hb
  have hb0 : Below w.heap.size w w1 := W0.trans (hb.mono (by simp))
  obtain ⟨hc1, hf1⟩ := bcell hb
  have hz1 : w.heap.size < w1.heap.size := by have := hb.size; simp at this; omega
  clear hb
  go_wp2_with fail
  refine (parse_ok us hsu n HN.out _).mono ?_
  rintro e w2 ⟨rfl, hb2⟩
  have he2 := he1.below hb2
  have hb3 : Below w.heap.size w w2 := hb0.trans (hb2.mono hb0.size)
  have hF2 : F.answers w2.tape := by rw [hb3.tape]; exact hF
  obtain ⟨hc2, hf2⟩ := bcell hb2
  have hz2 : w.heap.size < w2.heap.size := by have := hb2.size; omega
  have hR : w2.cell? ⟨0, 0, none⟩ = some (.iface 95 (.pointer (some aR))) := he2.cR
  clear hb2
  go_wp2_with fail
  refine (is_nil aR _).mono ?_
  rintro e w' ⟨rfl, rfl⟩
  go_wp2_with fail
  go_ret2
  exact ⟨rfl, hb3⟩

set_option maxRecDepth 100000 in
set_option maxHeartbeats 1000000 in
theorem parse_low (F : Interp) (nm s : ByteArray) (fg fs : Value) (w : World) (hF : F.answers w.tape) (hs : (s.size : Int) ≤ 4194304) (aR aS : Addr) (he : Env aR aS w) (u : List UInt8) (hu : unesc s.data.toList = some u) (n : Int) (hn : Lib.parseIntB 64 u = .ok n) (h0 : n < 0) :
    Calls Tryf.prog 12 #[.agg #[.string nm, .int .i64 0, .int .i64 9223372036854, fg, fs], .string s] w fun e w' => PPost none e ∧ Below w.heap.size w w' := by
  have W0 : Below w.heap.size w (w.alloc (.cells #[.string nm, .int .i64 0, .int .i64 9223372036854, fg, fs] 35)) := (Below.refl _ _).alloc (Nat.le_refl _) _
  have hq := query_all s (w.alloc (.cells #[.string nm, .int .i64 0, .int .i64 9223372036854, fg, fs] 35)) hs (he.below W0).tab
  rw [hu] at hq
  have hq' : Calls Tryf.prog 17 #[.string s] (w.alloc (.cells #[.string nm, .int .i64 0, .int .i64 9223372036854, fg, fs] 35)) fun e w' => e = .returned (.tuple #[.string ⟨u.toArray⟩, .nilIface]) ∧ Below (w.alloc (.cells #[.string nm, .int .i64 0, .int .i64 9223372036854, fg, fs] 35)).heap.size (w.alloc (.cells #[.string nm, .int .i64 0, .int .i64 9223372036854, fg, fs] 35)) w' := hq
  have hl := unesc_length _ _ hu
  have hsu : ((⟨u.toArray⟩ : ByteArray).size : Int) ≤ 4194304 := by
    have e1 : (⟨u.toArray⟩ : ByteArray).size = u.length := by simp [ByteArray.size]
    have e2 : s.data.toList.length = s.size := by simp
    omega
  have HQ : Hid (Calls Tryf.prog 17 #[.string s] (w.alloc (.cells #[.string nm, .int .i64 0, .int .i64 9223372036854, fg, fs] 35)) fun e w' => e = .returned (.tuple #[.string ⟨u.toArray⟩, .nilIface]) ∧ Below (w.alloc (.cells #[.string nm, .int .i64 0, .int .i64 9223372036854, fg, fs] 35)).heap.size (w.alloc (.cells #[.string nm, .int .i64 0, .int .i64 9223372036854, fg, fs] 35)) w') := hq'
  clear hq hq' hl hu
  obtain ⟨us, hus⟩ : ∃ us : ByteArray, us = ⟨u.toArray⟩ := ⟨_, rfl⟩
  rw [← hus] at hsu
  have HUS : Hid (us = ⟨u.toArray⟩) := hus
  have HN : Hid (Lib.parseIntB 64 us.data.toList = .ok n) := by rw [hus]; exact hn
  clear hus hn
  rw [← HUS.out] at HQ
  go_enter Tryf.func12, Tryf.ntmps12
  go_wp2_with fail
  refine HQ.out.mono ?_
  rintro e w1 ⟨rfl, hb⟩
  have he1 : Env aR aS w1 := (he.below W0).below hb
  have hb0 : Below w.heap.size w w1 := W0.trans (hb.mono (by simp))
  obtain ⟨hc1, hf1⟩ := bcell hb
  have hz1 : w.heap.size < w1.heap.size := by have := hb.size; simp at this; omega
  clear hb
  go_wp2_with fail
  refine (parse_ok us hsu n HN.out _).mono ?_
  rintro e w2 ⟨rfl, hb2⟩
  have he2 := he1.below hb2
  have hb3 : Below w.heap.size w w2 := hb0.trans (hb2.mono hb0.size)
  have hF2 : F.answers w2.tape := by rw [hb3.tape]; exact hF
  obtain ⟨hc2, hf2⟩ := bcell hb2
  have hz2 : w.heap.size < w2.heap.size := by have := hb2.size; omega
  have hR : w2.cell? ⟨0, 0, none⟩ = some (.iface 95 (.pointer (some aR))) := he2.cR
  clear hb2
  go_wp2_with fail
  refine (is_nil aR _).mono ?_
  rintro e w' ⟨rfl, rfl⟩
  go_wp2_with fail
  refine (errorf_s F us 0 _ _ (by exact hF2) (by go_simp) (by go_simp)).mono ?_
  rintro e w3 ⟨⟨a, rfl⟩, hb4⟩
  go_wp2_with fail
  go_ret2
  exact ⟨⟨_, _, rfl⟩, (hb3.alloc hb3.size _).trans (hb4.mono (by simp; omega))⟩

set_option maxRecDepth 100000 in
set_option maxHeartbeats 1000000 in
theorem parse_high (F : Interp) (nm s : ByteArray) (fg fs : Value) (w : World) (hF : F.answers w.tape) (hs : (s.size : Int) ≤ 4194304) (aR aS : Addr) (he : Env aR aS w) (u : List UInt8) (hu : unesc s.data.toList = some u) (n : Int) (hn : Lib.parseIntB 64 u = .ok n) (h0 : 9223372036854 < n) :
    Calls Tryf.prog 12 #[.agg #[.string nm, .int .i64 0, .int .i64 9223372036854, fg, fs], .string s] w fun e w' => PPost none e ∧ Below w.heap.size w w' := by
  have W0 : Below w.heap.size w (w.alloc (.cells #[.string nm, .int .i64 0, .int .i64 9223372036854, fg, fs] 35)) := (Below.refl _ _).alloc (Nat.le_refl _) _
  have hq := query_all s (w.alloc (.cells #[.string nm, .int .i64 0, .int .i64 9223372036854, fg, fs] 35)) hs (he.below W0).tab
  rw [hu] at hq
  have hq' : Calls Tryf.prog 17 #[.string s] (w.alloc (.cells #[.string nm, .int .i64 0, .int .i64 9223372036854, fg, fs] 35)) fun e w' => e = .returned (.tuple #[.string ⟨u.toArray⟩, .nilIface]) ∧ Below (w.alloc (.cells #[.string nm, .int .i64 0, .int .i64 9223372036854, fg, fs] 35)).heap.size (w.alloc (.cells #[.string nm, .int .i64 0, .int .i64 9223372036854, fg, fs] 35)) w' := hq
  have hl := unesc_length _ _ hu
  have hsu : ((⟨u.toArray⟩ : ByteArray).size : Int) ≤ 4194304 := by
    have e1 : (⟨u.toArray⟩ : ByteArray).size = u.length := by simp [ByteArray.size]
    have e2 : s.data.toList.length = s.size := by simp
    omega
  have HQ : Hid (Calls Tryf.prog 17 #[.string s] (w.alloc (.cells #[.string nm, .int .i64 0, .int .i64 9223372036854, fg, fs] 35)) fun e w' => e = .returned (.tuple #[.string ⟨u.toArray⟩, .nilIface]) ∧ Below (w.alloc (.cells #[.string nm, .int .i64 0, .int .i64 9223372036854, fg, fs] 35)).heap.size (w.alloc (.cells #[.string nm, .int .i64 0, .int .i64 9223372036854, fg, fs] 35)) w') := hq'
  clear hq hq' hl hu
  obtain ⟨us, hus⟩ : ∃ us : ByteArray, us = ⟨u.toArray⟩ := ⟨_, rfl⟩
  rw [← hus] at hsu
  have HUS : Hid (us = ⟨u.toArray⟩) := hus
  have HN : Hid (Lib.parseIntB 64 us.data.toList = .ok n) := by rw [hus]; exact hn
  clear hus hn
  rw [← HUS.out] at HQ
  go_enter Tryf.func12, Tryf.ntmps12
  go_wp2_with fail
  refine HQ.out.mono ?_
  rintro e w1 ⟨rfl, hb⟩
  have he1 : Env aR aS w1 := (he.below W0).below hb
  have hb0 : Below w.heap.size w w1 := W0.trans (hb.mono (by simp))
  obtain ⟨hc1, hf1⟩ := bcell hb
  have hz1 : w.heap.size < w1.heap.size := by have := hb.size; simp at this; omega
  clear hb
  go_wp2_with fail
  refine (parse_ok us hsu n HN.out _).mono ?_
  rintro e w2 ⟨rfl, hb2⟩
  have he2 := he1.below hb2
  have hb3 : Below w.heap.size w w2 := hb0.trans (hb2.mono hb0.size)
  have hF2 : F.answers w2.tape := by rw [hb3.tape]; exact hF
  obtain ⟨hc2, hf2⟩ := bcell hb2
  have hz2 : w.heap.size < w2.heap.size := by have := hb2.size; omega
  have hR : w2.cell? ⟨0, 0, none⟩ = some (.iface 95 (.pointer (some aR))) := he2.cR
  clear hb2
  go_wp2_with fail
  refine (is_nil aR _).mono ?_
  rintro e w' ⟨rfl, rfl⟩
  go_wp2_with fail
  refine (errorf_t F us 9223372036854 _ _ (by exact hF2) (by go_simp) (by go_simp)).mono ?_
  rintro e w3 ⟨⟨a, rfl⟩, hb4⟩
  go_wp2_with fail
  go_ret2
  exact ⟨⟨_, _, rfl⟩, (hb3.alloc hb3.size _).trans (hb4.mono (by simp; omega))⟩

set_option maxRecDepth 100000 in
set_option maxHeartbeats 1000000 in
theorem parse_bad_all (F : Interp) (nm s : ByteArray) (fg fs : Value) (w : World) (hF : F.answers w.tape) (hs : (s.size : Int) ≤ 4194304) (aR aS : Addr) (he : Env aR aS w) (u : List UInt8) (hu : unesc s.data.toList = some u) (hn : (∀ v, Lib.parseIntB 64 u ≠ .ok v) ∧ Lib.parseIntB 64 u ≠ .range) :
    Calls Tryf.prog 12 #[.agg #[.string nm, .int .i64 0, .int .i64 9223372036854, fg, fs], .string s] w fun e w' => PPost none e ∧ Below w.heap.size w w' := by
  have W0 : Below w.heap.size w (w.alloc (.cells #[.string nm, .int .i64 0, .int .i64 9223372036854, fg, fs] 35)) := (Below.refl _ _).alloc (Nat.le_refl _) _
  have hq := query_all s (w.alloc (.cells #[.string nm, .int .i64 0, .int .i64 9223372036854, fg, fs] 35)) hs (he.below W0).tab
  rw [hu] at hq
  have hq' : Calls Tryf.prog 17 #[.string s] (w.alloc (.cells #[.string nm, .int .i64 0, .int .i64 9223372036854, fg, fs] 35)) fun e w' => e = .returned (.tuple #[.string ⟨u.toArray⟩, .nilIface]) ∧ Below (w.alloc (.cells #[.string nm, .int .i64 0, .int .i64 9223372036854, fg, fs] 35)).heap.size (w.alloc (.cells #[.string nm, .int .i64 0, .int .i64 9223372036854, fg, fs] 35)) w' := hq
  have hl := unesc_length _ _ hu
  have hsu : ((⟨u.toArray⟩ : ByteArray).size : Int) ≤ 4194304 := by
    have e1 : (⟨u.toArray⟩ : ByteArray).size = u.length := by simp [ByteArray.size]
    have e2 : s.data.toList.length = s.size := by simp
    omega
  have HQ : Hid (Calls Tryf.prog 17 #[.string s] (w.alloc (.cells #[.string nm, .int .i64 0, .int .i64 9223372036854, fg, fs] 35)) fun e w' => e = .returned (.tuple #[.string ⟨u.toArray⟩, .nilIface]) ∧ Below (w.alloc (.cells #[.string nm, .int .i64 0, .int .i64 9223372036854, fg, fs] 35)).heap.size (w.alloc (.cells #[.string nm, .int .i64 0, .int .i64 9223372036854, fg, fs] 35)) w') := hq'
  clear hq hq' hl hu
  obtain ⟨us, hus⟩ : ∃ us : ByteArray, us = ⟨u.toArray⟩ := ⟨_, rfl⟩
  rw [← hus] at hsu
  have HUS : Hid (us = ⟨u.toArray⟩) := hus
  have HN : Hid ((∀ v, Lib.parseIntB 64 us.data.toList ≠ .ok v) ∧ Lib.parseIntB 64 us.data.toList ≠ .range) := by rw [hus]; exact hn
  clear hus hn
  rw [← HUS.out] at HQ
  go_enter Tryf.func12, Tryf.ntmps12
  go_wp2_with fail
  refine HQ.out.mono ?_
  rintro e w1 ⟨rfl, hb⟩
  have he1 : Env aR aS w1 := (he.below W0).below hb
  have hb0 : Below w.heap.size w w1 := W0.trans (hb.mono (by simp))
  obtain ⟨hc1, hf1⟩ := bcell hb
  have hz1 : w.heap.size < w1.heap.size := by have := hb.size; simp at this; omega
  clear hb
  go_wp2_with fail
  refine (parse_bad us hsu HN.out.1 HN.out.2 aR aS _ he1).mono ?_
  rintro e w2 ⟨N, rfl, hN, hb2⟩
  have he2 := he1.below hb2
  have hb3 : Below w.heap.size w w2 := hb0.trans (hb2.mono hb0.size)
  have hF2 : F.answers w2.tape := by rw [hb3.tape]; exact hF
  obtain ⟨hc2, hf2⟩ := bcell hb2
  have hz2 : w.heap.size < w2.heap.size := by have := hb2.size; omega
  have hR : w2.cell? ⟨0, 0, none⟩ = some (.iface 95 (.pointer (some aR))) := he2.cR
  obtain ⟨c1, t1, bR⟩ := he2.bR
  obtain ⟨c2, t2, bS⟩ := he2.bS
  have HI : Hid (Calls Tryf.prog 19 #[.iface 81 (.pointer (some ⟨N, 0, none⟩)), .iface 95 (.pointer (some aR))] w2 fun e w' => e = .returned (.bool false) ∧ w' = w2) := is_num_other N aR aS c2 c1 t2 t1 w2 hN he2.ne bS bR
  clear hb2 bR bS hN
  go_wp2_with fail
  refine HI.out.mono ?_
  rintro e w' ⟨rfl, rfl⟩
  go_wp2_with fail
  refine (errorf_q F us _ _ (by exact hF2) (by go_simp)).mono ?_
  rintro e w3 ⟨⟨a, rfl⟩, hb4⟩
  go_wp2_with fail
  go_ret2
  exact ⟨⟨_, _, rfl⟩, (hb3.alloc hb3.size _).trans (hb4.mono (by simp; omega))⟩

set_option maxRecDepth 100000 in
set_option maxHeartbeats 1000000 in
theorem parse_rlow (F : Interp) (nm s : ByteArray) (fg fs : Value) (w : World) (hF : F.answers w.tape) (hs : (s.size : Int) ≤ 4194304) (aR aS : Addr) (he : Env aR aS w) (u : List UInt8) (hu : unesc s.data.toList = some u) (hn : Lib.parseIntB 64 u = .range) (sat : Int) (hsat : Lib.intSat 64 u = sat) (h0 : sat < 0) :
    Calls Tryf.prog 12 #[.agg #[.string nm, .int .i64 0, .int .i64 9223372036854, fg, fs], .string s] w fun e w' => PPost none e ∧ Below w.heap.size w w' := by
  have W0 : Below w.heap.size w (w.alloc (.cells #[.string nm, .int .i64 0, .int .i64 9223372036854, fg, fs] 35)) := (Below.refl _ _).alloc (Nat.le_refl _) _
  have hq := query_all s (w.alloc (.cells #[.string nm, .int .i64 0, .int .i64 9223372036854, fg, fs] 35)) hs (he.below W0).tab
  rw [hu] at hq
  have hq' : Calls Tryf.prog 17 #[.string s] (w.alloc (.cells #[.string nm, .int .i64 0, .int .i64 9223372036854, fg, fs] 35)) fun e w' => e = .returned (.tuple #[.string ⟨u.toArray⟩, .nilIface]) ∧ Below (w.alloc (.cells #[.string nm, .int .i64 0, .int .i64 9223372036854, fg, fs] 35)).heap.size (w.alloc (.cells #[.string nm, .int .i64 0, .int .i64 9223372036854, fg, fs] 35)) w' := hq
  have hl := unesc_length _ _ hu
  have hsu : ((⟨u.toArray⟩ : ByteArray).size : Int) ≤ 4194304 := by
    have e1 : (⟨u.toArray⟩ : ByteArray).size = u.length := by simp [ByteArray.size]
    have e2 : s.data.toList.length = s.size := by simp
    omega
  have HQ : Hid (Calls Tryf.prog 17 #[.string s] (w.alloc (.cells #[.string nm, .int .i64 0, .int .i64 9223372036854, fg, fs] 35)) fun e w' => e = .returned (.tuple #[.string ⟨u.toArray⟩, .nilIface]) ∧ Below (w.alloc (.cells #[.string nm, .int .i64 0, .int .i64 9223372036854, fg, fs] 35)).heap.size (w.alloc (.cells #[.string nm, .int .i64 0, .int .i64 9223372036854, fg, fs] 35)) w') := hq'
  clear hq hq' hl hu
  obtain ⟨us, hus⟩ : ∃ us : ByteArray, us = ⟨u.toArray⟩ := ⟨_, rfl⟩
  rw [← hus] at hsu
  have HUS : Hid (us = ⟨u.toArray⟩) := hus
  have HN : Hid (Lib.parseIntB 64 us.data.toList = .range) := by rw [hus]; exact hn
  have HSAT : Hid (Lib.intSat 64 us.data.toList = sat) := by rw [hus]; exact hsat
  clear hus hn hsat
  rw [← HUS.out] at HQ
  go_enter Tryf.func12, Tryf.ntmps12
  go_wp2_with fail
  refine HQ.out.mono ?_
  rintro e w1 ⟨rfl, hb⟩
  have he1 : Env aR aS w1 := (he.below W0).below hb
  have hb0 : Below w.heap.size w w1 := W0.trans (hb.mono (by simp))
  obtain ⟨hc1, hf1⟩ := bcell hb
  have hz1 : w.heap.size < w1.heap.size := by have := hb.size; simp at this; omega
  clear hb
  go_wp2_with fail
  have hpr := parse_range us hsu HN.out aR aS w1 he1
  rw [HSAT.out] at hpr
  refine hpr.mono ?_
  rintro e w2 ⟨N, rfl, hN, hb2⟩
  have he2 := he1.below hb2
  have hb3 : Below w.heap.size w w2 := hb0.trans (hb2.mono hb0.size)
  have hF2 : F.answers w2.tape := by rw [hb3.tape]; exact hF
  obtain ⟨hc2, hf2⟩ := bcell hb2
  have hz2 : w.heap.size < w2.heap.size := by have := hb2.size; omega
  have hR : w2.cell? ⟨0, 0, none⟩ = some (.iface 95 (.pointer (some aR))) := he2.cR
  have HI : Hid (Calls Tryf.prog 19 #[.iface 81 (.pointer (some ⟨N, 0, none⟩)), .iface 95 (.pointer (some aR))] w2 fun e w' => e = .returned (.bool true) ∧ w' = w2) := is_num_same N aR w2 hN
  clear hb2 hN hpr
  go_wp2_with fail
  refine HI.out.mono ?_
  rintro e w' ⟨rfl, rfl⟩
  go_wp2_with fail
  refine (errorf_s F us 0 _ _ (by exact hF2) (by go_simp) (by go_simp)).mono ?_
  rintro e w3 ⟨⟨a, rfl⟩, hb4⟩
  go_wp2_with fail
  go_ret2
  exact ⟨⟨_, _, rfl⟩, (hb3.alloc hb3.size _).trans (hb4.mono (by simp; omega))⟩

set_option maxRecDepth 100000 in
set_option maxHeartbeats 1000000 in
theorem parse_rhigh (F : Interp) (nm s : ByteArray) (fg fs : Value) (w : World) (hF : F.answers w.tape) (hs : (s.size : Int) ≤ 4194304) (aR aS : Addr) (he : Env aR aS w) (u : List UInt8) (hu : unesc s.data.toList = some u) (hn : Lib.parseIntB 64 u = .range) (sat : Int) (hsat : Lib.intSat 64 u = sat) (h0 : 9223372036854 < sat) :
    Calls Tryf.prog 12 #[.agg #[.string nm, .int .i64 0, .int .i64 9223372036854, fg, fs], .string s] w fun e w' => PPost none e ∧ Below w.heap.size w w' := by
  have W0 : Below w.heap.size w (w.alloc (.cells #[.string nm, .int .i64 0, .int .i64 9223372036854, fg, fs] 35)) := (Below.refl _ _).alloc (Nat.le_refl _) _
  have hq := query_all s (w.alloc (.cells #[.string nm, .int .i64 0, .int .i64 9223372036854, fg, fs] 35)) hs (he.below W0).tab
  rw [hu] at hq
  have hq' : Calls Tryf.prog 17 #[.string s] (w.alloc (.cells #[.string nm, .int .i64 0, .int .i64 9223372036854, fg, fs] 35)) fun e w' => e = .returned (.tuple #[.string ⟨u.toArray⟩, .nilIface]) ∧ Below (w.alloc (.cells #[.string nm, .int .i64 0, .int .i64 9223372036854, fg, fs] 35)).heap.size (w.alloc (.cells #[.string nm, .int .i64 0, .int .i64 9223372036854, fg, fs] 35)) w' := hq
  have hl := unesc_length _ _ hu
  have hsu : ((⟨u.toArray⟩ : ByteArray).size : Int) ≤ 4194304 := by
    have e1 : (⟨u.toArray⟩ : ByteArray).size = u.length := by simp [ByteArray.size]
    have e2 : s.data.toList.length = s.size := by simp
    omega
  have HQ : Hid (Calls Tryf.prog 17 #[.string s] (w.alloc (.cells #[.string nm, .int .i64 0, .int .i64 9223372036854, fg, fs] 35)) fun e w' => e = .returned (.tuple #[.string ⟨u.toArray⟩, .nilIface]) ∧ Below (w.alloc (.cells #[.string nm, .int .i64 0, .int .i64 9223372036854, fg, fs] 35)).heap.size (w.alloc (.cells #[.string nm, .int .i64 0, .int .i64 9223372036854, fg, fs] 35)) w') := hq'
  clear hq hq' hl hu
  obtain ⟨us, hus⟩ : ∃ us : ByteArray, us = ⟨u.toArray⟩ := ⟨_, rfl⟩
  rw [← hus] at hsu
  have HUS : Hid (us = ⟨u.toArray⟩) := hus
  have HN : Hid (Lib.parseIntB 64 us.data.toList = .range) := by rw [hus]; exact hn
  have HSAT : Hid (Lib.intSat 64 us.data.toList = sat) := by rw [hus]; exact hsat
  clear hus hn hsat
  rw [← HUS.out] at HQ
  go_enter Tryf.func12, Tryf.ntmps12
  go_wp2_with fail
  refine HQ.out.mono ?_
  rintro e w1 ⟨rfl, hb⟩
  have he1 : Env aR aS w1 := (he.below W0).below hb
  have hb0 : Below w.heap.size w w1 := W0.trans (hb.mono (by simp))
  obtain ⟨hc1, hf1⟩ := bcell hb
  have hz1 : w.heap.size < w1.heap.size := by have := hb.size; simp at this; omega
  clear hb
  go_wp2_with fail
  have hpr := parse_range us hsu HN.out aR aS w1 he1
  rw [HSAT.out] at hpr
  refine hpr.mono ?_
  rintro e w2 ⟨N, rfl, hN, hb2⟩
  have he2 := he1.below hb2
  have hb3 : Below w.heap.size w w2 := hb0.trans (hb2.mono hb0.size)
  have hF2 : F.answers w2.tape := by rw [hb3.tape]; exact hF
  obtain ⟨hc2, hf2⟩ := bcell hb2
  have hz2 : w.heap.size < w2.heap.size := by have := hb2.size; omega
  have hR : w2.cell? ⟨0, 0, none⟩ = some (.iface 95 (.pointer (some aR))) := he2.cR
  have HI : Hid (Calls Tryf.prog 19 #[.iface 81 (.pointer (some ⟨N, 0, none⟩)), .iface 95 (.pointer (some aR))] w2 fun e w' => e = .returned (.bool true) ∧ w' = w2) := is_num_same N aR w2 hN
  clear hb2 hN hpr
  go_wp2_with fail
  refine HI.out.mono ?_
  rintro e w' ⟨rfl, rfl⟩
  go_wp2_with fail
  refine (errorf_t F us 9223372036854 _ _ (by exact hF2) (by go_simp) (by go_simp)).mono ?_
  rintro e w3 ⟨⟨a, rfl⟩, hb4⟩
  go_wp2_with fail
  go_ret2
  exact ⟨⟨_, _, rfl⟩, (hb3.alloc hb3.size _).trans (hb4.mono (by simp; omega))⟩
end Go.Proofs.Qxb6615473aFmt
