import Derived.Test.Qxb6615473aFmtRows
import Derived.Test.Qxb6615473aFmtDec
import Derived.WalkKit
import Derived.OpenShut
import Derived.Laws.BytesString
import Derived.Laws.Cells
namespace Go.Proofs.Qxb6615473aFmt
open Go.RowKit
set_option linter.unusedVariables false

theorem foldl_push : ∀ (l : List UInt8) (s : ByteArray), (l.map (fun c => (c.toNat : Int))).foldl (fun r n => r.push (UInt8.ofNat n.toNat)) s = ⟨s.data ++ l.toArray⟩
  | [], s => by simp
  | c :: r, s => by
    simp only [List.map_cons, List.foldl_cons]
    rw [foldl_push r]
    simp [ByteArray.push]

/-- string(b), b a row of bytes -/
theorem str_of_row (b off n c : Nat) (l : List UInt8) (w : World) (hl : l.length = n) (hc : ∀ i, i < n → w.cell? ⟨b, off + i, none⟩ = some (.int .u8 ((l.getD i 0).toNat : Int))) :
    (convert 39 9 (.slice (some ⟨b, off, none⟩) n c)).run Tryf.prog w = .ok (.string ⟨l.toArray⟩) w := by
  rw [run_convert_bytes_string w 39 9 5 _ _ _ Tryf.underlying39 Tryf.underlying5 Tryf.underlying9]
  rw [run_bytesToString w ⟨b, off, none⟩ n c (l.map (fun c => (c.toNat : Int)))]
  · rw [foldl_push]
    simp
  · have := run_loadCells_list (P := Tryf.prog) (w := w) ⟨b, off, none⟩ ((l.map (fun c => (c.toNat : Int))).map (Value.int .u8)) (fun j v hj => by
      simp only [List.map_map, List.getElem?_map, Option.map_eq_some_iff] at hj
      obtain ⟨x, hx, rfl⟩ := hj
      have hlt : j < l.length := by
        rcases Nat.lt_or_ge j l.length with h | h
        · exact h
        · rw [List.getElem?_eq_none h] at hx; cases hx
      have := hc j (by omega)
      rw [show (⟨b, off, none⟩ : Addr).add j = ⟨b, off + j, none⟩ from by simp [Addr.add], this]
      simp [List.getD_eq_getElem?_getD, hx])
    simpa [hl] using this

/-- the array behind some rounds: the digits ts stand at its end, from k on; v is still to write; u the whole -/
def Buf (B : Nat) (u k v : Nat) (ts : List UInt8) (w wr : World) : Prop :=
  (∃ cur : Array Value, wr.heap[B]? = some (.cells cur 43 (0, 0)) ∧ cur.size = 20 ∧ cur.toList.drop k = ts.map (fun c => Value.int .u8 (c.toNat : Int))) ∧
  k + ts.length = 20 ∧ Digs ts ∧ v * 10 ^ ts.length + decV ts = u ∧ (ts ≠ [] → 1 ≤ v) ∧ Below B w wr


theorem pow_lt {u len v d : Nat} (hu : u < 10 ^ 20) (h : v * 10 ^ len + d = u) (hv : len ≠ 0 → 1 ≤ v) : len ≤ 19 := by
  rcases Nat.lt_or_ge len 20 with h' | h'
  · omega
  · exfalso
    have h1 := hv (by omega)
    have h2 : 10 ^ 20 ≤ 10 ^ len := Nat.pow_le_pow_right (by omega) h'
    have h3 : 1 * 10 ^ len ≤ v * 10 ^ len := Nat.mul_le_mul_right _ h1
    omega

theorem buf_zero (B u : Nat) (w : World) (hB : B = w.heap.size) : Buf B u 20 u [] w (w.alloc (.cells #[.int .u8 0, .int .u8 0, .int .u8 0, .int .u8 0, .int .u8 0, .int .u8 0, .int .u8 0, .int .u8 0, .int .u8 0, .int .u8 0, .int .u8 0, .int .u8 0, .int .u8 0, .int .u8 0, .int .u8 0, .int .u8 0, .int .u8 0, .int .u8 0, .int .u8 0, .int .u8 0] 43)) := by
  subst hB
  refine ⟨⟨#[.int .u8 0, .int .u8 0, .int .u8 0, .int .u8 0, .int .u8 0, .int .u8 0, .int .u8 0, .int .u8 0, .int .u8 0, .int .u8 0, .int .u8 0, .int .u8 0, .int .u8 0, .int .u8 0, .int .u8 0, .int .u8 0, .int .u8 0, .int .u8 0, .int .u8 0, .int .u8 0], ?_, rfl, rfl⟩, rfl, (fun c hc => by cases hc), by simp [decV], (fun h => absurd rfl h), (Below.refl _ _).alloc (Nat.le_refl _) _⟩
  show (w.heap.push _)[w.heap.size]? = _
  simp

theorem buf_len {B u k v : Nat} {ts : List UInt8} {w wr : World} (hu : u < 10 ^ 20) (h : Buf B u k v ts w wr) : ts.length ≤ 19 ∧ 1 ≤ k ∧ k ≤ 20 := by
  obtain ⟨_, hk, _, hv, h1, _⟩ := h
  have := pow_lt hu hv (fun hl => h1 (fun e => hl (by rw [e]; rfl)))
  omega

theorem buf_facts {B u k v : Nat} {ts : List UInt8} {w wr : World} (h : Buf B u k v ts w wr) (j : Nat) (hj : j < 20) : (∃ x, wr.cell? ⟨B, j, none⟩ = some x) ∧ wr.frozen? ⟨B, j, none⟩ = false := by
  obtain ⟨⟨cur, hh, hs, _⟩, _⟩ := h
  refine ⟨⟨cur[j]'(by omega), ?_⟩, ?_⟩
  · simp [World.cell?, hh, hs, hj]
  · simp [World.frozen?, hh]

theorem buf_put {B u k v : Nat} {ts : List UInt8} {w wr : World} (h : Buf B u k v ts w wr) (hk : 1 ≤ k) (hk' : k ≤ 20) (c : UInt8) :
    (∃ cur : Array Value, (wr.setCell ⟨B, k - 1, none⟩ (.int .u8 (c.toNat : Int))).heap[B]? = some (.cells cur 43 (0, 0)) ∧ cur.size = 20 ∧ cur.toList.drop (k - 1) = (c :: ts).map (fun c => Value.int .u8 (c.toNat : Int))) ∧ Below B w (wr.setCell ⟨B, k - 1, none⟩ (.int .u8 (c.toNat : Int))) := by
  obtain ⟨⟨cur, hh, hs, hd⟩, _, _, _, _, hb⟩ := h
  refine ⟨⟨cur.setIfInBounds (k - 1) (.int .u8 (c.toNat : Int)), heap_setCell_same wr B (k - 1) cur 43 _ hh, by simpa using hs, ?_⟩, hb.setCell (Nat.le_refl _) _⟩
  have hlt : k - 1 < cur.toList.length := by simp; omega
  rw [Array.toList_setIfInBounds, List.drop_set]
  rw [if_neg (by omega), Nat.sub_self, List.drop_eq_getElem_cons hlt, List.set_cons_zero, List.map_cons, show k - 1 + 1 = k by omega, hd]

theorem len43 : Tryf.prog.arrayLen 43 = 20 := by kernel_rfl
theorem slice20 (B j : Nat) (hj : j < 20) (w : World) : (Instr.sliceAt 43 (.pointer (some ⟨B, 0, none⟩)) (some (.int .i64 (j : Int))) none none).run Tryf.prog w = .ok (.slice (some ⟨B, j, none⟩) (20 - j) (20 - j)) w := by
  rw [run_sliceAt_array_l w 43 ⟨B, 0, none⟩ (by kernel_rfl) .i64 (j : Int) (by omega) (by rw [len43]; omega), len43]
  have hs : (Go.sizeOf (Tryf.prog.elem 43)).run Tryf.prog w = .ok 1 w := by kernel_rfl
  rw [hs]
  have hne : ¬ (20 = j) := by omega
  simp [Result.andThen, slicedAt, hne, Addr.add]
  intro h
  exact h.symm

theorem row_cells {cur : Array Value} {B j : Nat} {ds : List UInt8} {W : World} (hh : W.heap[B]? = some (.cells cur 43 (0, 0))) (hs : cur.size = 20) (hd : cur.toList.drop j = ds.map (fun c => Value.int .u8 (c.toNat : Int))) (i : Nat) (hi : i < ds.length) :
    W.cell? ⟨B, j + i, none⟩ = some (.int .u8 ((ds.getD i 0).toNat : Int)) := by
  have h1 : (cur.toList.drop j)[i]? = some (.int .u8 ((ds.getD i 0).toNat : Int)) := by
    rw [hd]
    simp [List.getD_eq_getElem?_getD, hi]
  rw [List.getElem?_drop] at h1
  simp only [World.cell?, hh]
  simpa using h1

theorem row_put {cur : Array Value} {B j : Nat} {ds : List UInt8} {W : World} (hh : W.heap[B]? = some (.cells cur 43 (0, 0))) (hs : cur.size = 20) (hj : j < 20) (hd : cur.toList.drop (j + 1) = ds.map (fun c => Value.int .u8 (c.toNat : Int))) (c : UInt8) :
    ∃ cur' : Array Value, (W.setCell ⟨B, j, none⟩ (.int .u8 (c.toNat : Int))).heap[B]? = some (.cells cur' 43 (0, 0)) ∧ cur'.size = 20 ∧ cur'.toList.drop j = (c :: ds).map (fun c => Value.int .u8 (c.toNat : Int)) := by
  refine ⟨cur.setIfInBounds j (.int .u8 (c.toNat : Int)), heap_setCell_same W B j cur 43 _ hh, by simpa using hs, ?_⟩
  have hlt : j < cur.toList.length := by simp; omega
  rw [Array.toList_setIfInBounds, List.drop_set]
  rw [if_neg (by omega), Nat.sub_self, List.drop_eq_getElem_cons hlt, List.set_cons_zero, List.map_cons, hd]
theorem row_facts {cur : Array Value} {B : Nat} {W : World} (hh : W.heap[B]? = some (.cells cur 43 (0, 0))) (hs : cur.size = 20) (j : Nat) (hj : j < 20) : (∃ x, W.cell? ⟨B, j, none⟩ = some x) ∧ W.frozen? ⟨B, j, none⟩ = false := by
  refine ⟨⟨cur[j]'(by omega), ?_⟩, ?_⟩
  · simp [World.cell?, hh, hs, hj]
  · simp [World.frozen?, hh]
theorem neg_wrap (u : Nat) (h0 : 0 < u) (h : u ≤ 9223372036854775808) : IntKind.u64.wrap (-IntKind.u64.wrap (-(u : Int))) = (u : Int) := by
  have e : ∀ x, IntKind.u64.wrap x = x % 18446744073709551616 := fun x => rfl
  rw [e, e]
  omega
theorem pow_lt19 {u len v d : Nat} (hu : u < 10 ^ 19) (h : v * 10 ^ len + d = u) (hv : len ≠ 0 → 1 ≤ v) : len ≤ 18 := by
  rcases Nat.lt_or_ge len 19 with h' | h'
  · omega
  · exfalso
    have h1 := hv (by omega)
    have h2 : 10 ^ 19 ≤ 10 ^ len := Nat.pow_le_pow_right (by omega) h'
    have h3 : 1 * 10 ^ len ≤ v * 10 ^ len := Nat.mul_le_mul_right _ h1
    omega

theorem ofNat_dig (d : Nat) (h : d < 10) : ((UInt8.ofNat (48 + d)).toNat : Int) = 48 + (d : Int) ∧ 48 ≤ (UInt8.ofNat (48 + d)).toNat ∧ (UInt8.ofNat (48 + d)).toNat ≤ 57 := by
  have e : (UInt8.ofNat (48 + d)).toNat = 48 + d := by
    simp [UInt8.toNat_ofNat']
    omega
  rw [e]
  omega

theorem buf_step {B u k v : Nat} {ts : List UInt8} {w wr : World} (hu : u < 10 ^ 20) (h : Buf B u k v ts w wr) (hv : 10 ≤ v) :
    Buf B u (k - 1) (v / 10) (UInt8.ofNat (48 + v % 10) :: ts) w (wr.setCell ⟨B, k - 1, none⟩ (.int .u8 (48 + (v : Int) % 10))) := by
  obtain ⟨hl, hk, hk'⟩ := buf_len hu h
  obtain ⟨e1, e2, e3⟩ := ofNat_dig (v % 10) (by omega)
  have hp := buf_put h hk hk' (UInt8.ofNat (48 + v % 10))
  rw [e1, Int.natCast_emod] at hp
  obtain ⟨_, hkl, hd, hv', h1, _⟩ := h
  refine ⟨hp.1, by simp; omega, ?_, ?_, fun _ => by omega, hp.2⟩
  · intro c hc
    rcases List.mem_cons.1 hc with rfl | hc
    · exact ⟨e2, e3⟩
    · exact hd c hc
  · have e4 : (UInt8.ofNat (48 + v % 10)).toNat = 48 + v % 10 := by omega
    simp only [decV, List.length_cons, Nat.pow_succ, e4]
    rw [show 48 + v % 10 - 48 = v % 10 by omega, ← Nat.add_assoc, ← Nat.mul_assoc, Nat.mul_right_comm, ← Nat.add_mul]
    rw [show v / 10 * 10 + v % 10 = v by omega]
    exact hv'

set_option maxRecDepth 100000 in
set_option maxHeartbeats 800000 in
theorem itoa_pos (n : Int) (w : World) (h0 : 0 ≤ n) (h1 : n ≤ 9223372036854775807) :
    Calls Tryf.prog 8 #[.int .i64 n] w fun e w' => ∃ t, e = .returned (.string ⟨t.toArray⟩) ∧ Itoa n t ∧ Below w.heap.size w w' := by
  obtain ⟨u, rfl⟩ := Int.eq_ofNat_of_zero_le h0
  have hu : u < 10 ^ 20 := by omega
  have HU : Hid (u < 10 ^ 20) := hu
  clear hu
  go_enter Tryf.func8, Tryf.ntmps8
  go_wp2_with fail
  go_loopw [4, 5] (fun iv uv wr => ∃ (k v : Nat) (ts : List UInt8), iv = .int .i64 k ∧ uv = .int .u64 v ∧ v ≤ u ∧ Buf w.heap.size u k v ts w wr) (fun _ uv _ => (intOf uv).toNat)
  case atStart => exact ⟨20, u, [], rfl, rfl, Nat.le_refl _, buf_zero _ u w rfl⟩
  case round =>
    obtain ⟨k, v, ts, rfl, rfl, hvu, hbuf⟩ := hrel
    obtain ⟨hl, hk1, hk2⟩ := buf_len HU.out hbuf
    obtain ⟨⟨x, hx⟩, hfz⟩ := buf_facts hbuf (k - 1) (by omega)
    by_cases hv : 10 ≤ v
    · have HB := buf_step HU.out hbuf hv
      obtain ⟨j, rfl⟩ : ∃ j, k = j + 1 := ⟨k - 1, by omega⟩
      simp only [Nat.add_sub_cancel] at HB hx hfz
      have HB' : Hid (Buf w.heap.size u j (v / 10) (UInt8.ofNat (48 + v % 10) :: ts) w (wr.setCell ⟨w.heap.size, j, none⟩ (.int .u8 (48 + (v : Int) % 10)))) := HB
      clear HB hbuf
      go_wp2_with fail
      exact ⟨⟨j, v / 10, _, rfl, by go_num, by omega, HB'.out⟩, by simp [intOf]; omega⟩
    · obtain ⟨j, rfl⟩ : ∃ j, k = j + 1 := ⟨k - 1, by omega⟩
      simp only [Nat.add_sub_cancel] at hx hfz
      obtain ⟨e1, e2, e3⟩ := ofNat_dig v (by omega)
      have hp := buf_put hbuf hk1 hk2 (UInt8.ofNat (48 + v))
      rw [e1] at hp
      simp only [Nat.add_sub_cancel] at hp
      obtain ⟨⟨cur, hh, hs, hd⟩, hbel⟩ := hp
      obtain ⟨_, hkl, hdg, hval, _, _⟩ := hbuf
      have hln : (UInt8.ofNat (48 + v) :: ts).length = 20 - j := by simp; omega
      have HC := str_of_row w.heap.size j (20 - j) (20 - j) (UInt8.ofNat (48 + v) :: ts) (wr.setCell ⟨w.heap.size, j, none⟩ (.int .u8 (48 + (v : Int)))) hln (fun i hi => row_cells hh hs hd i (by omega))
      have HSL := slice20 w.heap.size j (by omega)
      have HIT : Hid (Itoa (u : Int) (UInt8.ofNat (48 + v) :: ts)) := by
        refine ⟨UInt8.ofNat (48 + v) :: ts, by rw [if_neg (by omega)], by simp, by omega, ?_, ?_⟩
        · intro c hc
          rcases List.mem_cons.1 hc with rfl | hc
          · exact ⟨e2, e3⟩
          · exact hdg c hc
        · have e4 : (UInt8.ofNat (48 + v)).toNat = 48 + v := by omega
          simp only [decV, e4]
          rw [show 48 + v - 48 = v by omega, hval]
          simp
      obtain ⟨t, ht⟩ : ∃ t, t = UInt8.ofNat (48 + v) :: ts := ⟨_, rfl⟩
      rw [← ht] at HC
      rw [← ht] at HIT
      clear hh hd hdg hval hln ht e1 e2 e3
      go_wp2_with fail
      go_ret
      exact ⟨t, rfl, HIT.out, hbel⟩
set_option maxRecDepth 100000 in
set_option maxHeartbeats 800000 in
theorem itoa_neg (n : Int) (w : World) (h0 : n < 0) (h1 : -9223372036854775808 ≤ n) :
    Calls Tryf.prog 8 #[.int .i64 n] w fun e w' => ∃ t, e = .returned (.string ⟨t.toArray⟩) ∧ Itoa n t ∧ Below w.heap.size w w' := by
  obtain ⟨u, rfl⟩ : ∃ u : Nat, n = -(u : Int) := ⟨n.natAbs, by omega⟩
  have hub : u ≤ 9223372036854775808 := by omega
  have hu : u < 10 ^ 20 := by omega
  have HU : Hid (u < 10 ^ 20) := hu
  clear hu
  go_enter Tryf.func8, Tryf.ntmps8
  go_wp2_with fail
  go_loopw [4, 5] (fun iv uv wr => ∃ (k v : Nat) (ts : List UInt8), iv = .int .i64 k ∧ uv = .int .u64 v ∧ v ≤ u ∧ Buf w.heap.size u k v ts w wr) (fun _ uv _ => (intOf uv).toNat)
  case atStart =>
    rw [neg_wrap u (by omega) hub]
    exact ⟨20, u, [], rfl, rfl, Nat.le_refl _, buf_zero _ u w rfl⟩
  case round =>
    obtain ⟨k, v, ts, rfl, rfl, hvu, hbuf⟩ := hrel
    obtain ⟨hl, hk1, hk2⟩ := buf_len HU.out hbuf
    obtain ⟨⟨x, hx⟩, hfz⟩ := buf_facts hbuf (k - 1) (by omega)
    by_cases hv : 10 ≤ v
    · have HB := buf_step HU.out hbuf hv
      obtain ⟨j, rfl⟩ : ∃ j, k = j + 1 := ⟨k - 1, by omega⟩
      simp only [Nat.add_sub_cancel] at HB hx hfz
      have HB' : Hid (Buf w.heap.size u j (v / 10) (UInt8.ofNat (48 + v % 10) :: ts) w (wr.setCell ⟨w.heap.size, j, none⟩ (.int .u8 (48 + (v : Int) % 10)))) := HB
      clear HB hbuf
      go_wp2_with fail
      exact ⟨⟨j, v / 10, _, rfl, by go_num, by omega, HB'.out⟩, by simp [intOf]; omega⟩
    · obtain ⟨_, hkl0, _, hval0, hone, _⟩ := id hbuf
      have hl18 : ts.length ≤ 18 := pow_lt19 (by omega) hval0 (fun hl => hone (fun e => hl (by rw [e]; rfl)))
      clear hval0 hone
      obtain ⟨j, rfl⟩ : ∃ j, k = j + 1 + 1 := ⟨k - 2, by omega⟩
      simp only [Nat.add_sub_cancel] at hx hfz
      obtain ⟨e1, e2, e3⟩ := ofNat_dig v (by omega)
      have hp := buf_put hbuf hk1 hk2 (UInt8.ofNat (48 + v))
      rw [e1] at hp
      simp only [Nat.add_sub_cancel] at hp
      obtain ⟨⟨cur, hh, hs, hd⟩, hbel⟩ := hp
      obtain ⟨_, hkl, hdg, hval, _, _⟩ := hbuf
      obtain ⟨⟨x2, hx2⟩, hfz2⟩ := row_facts hh hs j (by omega)
      obtain ⟨cur2, hh2, hs2, hd2⟩ := row_put hh hs (by omega) hd 45
      have hbel2 := hbel.setCell (p := ⟨w.heap.size, j, none⟩) (Nat.le_refl _) (.int .u8 45)
      have hln : (45 :: UInt8.ofNat (48 + v) :: ts).length = 20 - j := by simp; omega
      have HC := str_of_row w.heap.size j (20 - j) (20 - j) (45 :: UInt8.ofNat (48 + v) :: ts) ((wr.setCell ⟨w.heap.size, j + 1, none⟩ (.int .u8 (48 + (v : Int)))).setCell ⟨w.heap.size, j, none⟩ (.int .u8 45)) hln (fun i hi => row_cells hh2 hs2 hd2 i (by omega))
      have HSL := slice20 w.heap.size j (by omega)
      have HIT : Hid (Itoa (-(u : Int)) (45 :: UInt8.ofNat (48 + v) :: ts)) := by
        refine ⟨UInt8.ofNat (48 + v) :: ts, by rw [if_pos h0], by simp, by simp; omega, ?_, ?_⟩
        · intro c hc
          rcases List.mem_cons.1 hc with rfl | hc
          · exact ⟨e2, e3⟩
          · exact hdg c hc
        · have e4 : (UInt8.ofNat (48 + v)).toNat = 48 + v := by omega
          simp only [decV, e4]
          rw [show 48 + v - 48 = v by omega, hval]
          simp
      obtain ⟨t, ht⟩ : ∃ t, t = 45 :: UInt8.ofNat (48 + v) :: ts := ⟨_, rfl⟩
      rw [← ht] at HC
      rw [← ht] at HIT
      clear hh hd hdg hval hln ht e1 e2 e3 hh2 hd2 hs hs2
      go_wp2_with fail
      go_ret
      exact ⟨t, rfl, HIT.out, hbel2⟩

/-- zzItoa, at every int64 -/
theorem itoa_any (n : Int) (w : World) (wn : (Lit.int .i64 n).wf = true) :
    Calls Tryf.prog 8 #[.int .i64 n] w fun e w' => ∃ t, e = .returned (.string ⟨t.toArray⟩) ∧ Itoa n t ∧ Below w.heap.size w w' := by
  have hb := bounds_i64 wn
  by_cases h : 0 ≤ n
  · exact itoa_pos n w h hb.2
  · exact itoa_neg n w (by omega) hb.1
end Go.Proofs.Qxb6615473aFmt
