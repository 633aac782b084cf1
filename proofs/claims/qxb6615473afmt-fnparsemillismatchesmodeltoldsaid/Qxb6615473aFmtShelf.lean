/-
  THE SHELF's CONTRACTS AT THIS DUMP: three methods of strings.Builder and strconv.ParseInt: the layings as the kit's tool writes them for this program; 'lays167' typed by hand after the same make (the tool does not lay it: its closure names no type that the structure asks for).
-/
import Derived.Shelf.Strings.Builder1
import Derived.Shelf.Strings.Builder2
import Derived.Shelf.LaysC
import Derived.Shelf.Strconv.ParseIntPublic10
import Derived.Shelf.Strconv.ErrVarParseInt
import Derived.Test.Qxb6615473aFmtUnesc
namespace Go.Proofs.Qxb6615473aFmt
open Go.Shelf Go.RowKit
def lays169_ren : Go.Shelf.Ren := ⟨fun | 169 => 34 | n => n, fun | 70 => 72 | 9 => 9 | 0 => 0 | 72 => 74 | 37 => 39 | 127 => 99 | 3 => 3 | 5 => 5 | n => n, fun | n => n⟩
theorem lays169 : Go.Proofs.Lays.n169 Tryf.prog lays169_ren := {
  mixed := by kernel_rfl
  f169 := Tryf.func34.trans (congrArg some (by kernel_rfl))
  t0 := Tryf.underlying0
  a0 := Tryf.isAgg0
  z0 := Tryf.sizeOf0
  v0 := Tryf.zeroValue0
  t3 := Tryf.underlying3
  a3 := Tryf.isAgg3
  z3 := Tryf.sizeOf3
  v3 := Tryf.zeroValue3
  t9 := Tryf.underlying9
  a9 := Tryf.isAgg9
  z9 := Tryf.sizeOf9
  v9 := Tryf.zeroValue9
  t37 := Tryf.underlying39
  a37 := Tryf.isAgg39
  z37 := Tryf.sizeOf39
  v37 := Tryf.zeroValue39
  t70 := Tryf.underlying72
  a70 := Tryf.isAgg72
  z70 := Tryf.sizeOf72
  v70 := Tryf.zeroValue72
  t72 := Tryf.underlying74
  a72 := Tryf.isAgg74
  z72 := Tryf.sizeOf74
  v72 := Tryf.zeroValue74
  t127 := Tryf.underlying99
  a127 := Tryf.isAgg99
  z127 := Tryf.sizeOf99
  v127 := Tryf.zeroValue99 }
theorem Builder_Extra_169 : Builder.Extra Tryf.prog lays169_ren := {
  sizeBuilder := by kernel_rfl
  liesBuilder := by kernel_rfl
  t5 := Tryf.underlying5
  a5 := Tryf.isAgg5
  z5 := Tryf.sizeOf5
  v5 := Tryf.zeroValue5
  infoByte := by kernel_rfl
  cellsByte := by kernel_rfl
  sizeByte := by kernel_rfl
  neB5 := by decide }
def lays165_ren : Go.Shelf.Ren := ⟨fun | 165 => 32 | 240 => 40 | 241 => 41 | 276 => 46 | 277 => 47 | n => n, fun | 70 => 72 | 3 => 3 | 0 => 0 | 4 => 4 | 9 => 9 | 20 => 20 | 72 => 74 | 37 => 39 | 164 => 104 | 5 => 5 | n => n, fun | n => n⟩
theorem lays165 : Go.Proofs.Lays.n165 Tryf.prog lays165_ren := {
  mixed := by kernel_rfl
  f165 := Tryf.func32.trans (congrArg some (by kernel_rfl))
  f240 := Tryf.func40.trans (congrArg some (by kernel_rfl))
  f241 := Tryf.func41.trans (congrArg some (by kernel_rfl))
  f276 := Tryf.func46.trans (congrArg some (by kernel_rfl))
  f277 := Tryf.func47.trans (congrArg some (by kernel_rfl))
  t0 := Tryf.underlying0
  a0 := Tryf.isAgg0
  z0 := Tryf.sizeOf0
  v0 := Tryf.zeroValue0
  t3 := Tryf.underlying3
  a3 := Tryf.isAgg3
  z3 := Tryf.sizeOf3
  v3 := Tryf.zeroValue3
  t4 := Tryf.underlying4
  a4 := Tryf.isAgg4
  z4 := Tryf.sizeOf4
  v4 := Tryf.zeroValue4
  t9 := Tryf.underlying9
  a9 := Tryf.isAgg9
  z9 := Tryf.sizeOf9
  v9 := Tryf.zeroValue9
  t20 := Tryf.underlying20
  a20 := Tryf.isAgg20
  z20 := Tryf.sizeOf20
  v20 := Tryf.zeroValue20
  t37 := Tryf.underlying39
  a37 := Tryf.isAgg39
  z37 := Tryf.sizeOf39
  v37 := Tryf.zeroValue39
  t70 := Tryf.underlying72
  a70 := Tryf.isAgg72
  z70 := Tryf.sizeOf72
  v70 := Tryf.zeroValue72
  t72 := Tryf.underlying74
  a72 := Tryf.isAgg74
  z72 := Tryf.sizeOf74
  v72 := Tryf.zeroValue74
  t164 := Tryf.underlying104
  a164 := Tryf.isAgg104
  z164 := Tryf.sizeOf104
  v164 := Tryf.zeroValue104 }
theorem Builder_Extra_165 : Builder.Extra Tryf.prog lays165_ren := {
  sizeBuilder := by kernel_rfl
  liesBuilder := by kernel_rfl
  t5 := Tryf.underlying5
  a5 := Tryf.isAgg5
  z5 := Tryf.sizeOf5
  v5 := Tryf.zeroValue5
  infoByte := by kernel_rfl
  cellsByte := by kernel_rfl
  sizeByte := by kernel_rfl
  neB5 := by decide }
def laysC174_ren : Go.Shelf.Ren := ⟨fun | 174 => 18 | 247 => 23 | 245 => 24 | 287 => 35 | 279 => 36 | 280 => 37 | 281 => 38 | 282 => 39 | 321 => 42 | 322 => 43 | 316 => 44 | 171 => 45 | 205 => 28 | 243 => 48 | 246 => 49 | 283 => 50 | 284 => 51 | 285 => 52 | 286 => 53 | 129 => 55 | 317 => 54 | 318 => 56 | 319 => 57 | 320 => 58 | 337 => 59 | 338 => 60 | n => n, fun | 9 => 9 | 3 => 3 | 2 => 2 | 75 => 24 | 85 => 25 | 4 => 4 | 167 => 78 | 5 => 5 | 53 => 44 | 175 => 79 | 46 => 42 | 168 => 81 | 37 => 39 | 0 => 0 | 210 => 102 | 21 => 21 | 127 => 99 | 145 => 97 | 143 => 95 | 171 => 108 | 173 => 111 | 212 => 115 | 51 => 116 | 20 => 20 | 213 => 117 | 232 => 121 | 233 => 122 | 80 => 77 | n => n, fun | 15 => 2 | 16 => 0 | 17 => 4 | 18 => 5 | 19 => 6 | n => n⟩
theorem laysC174 : Go.Proofs.LaysC.n174 Tryf.prog laysC174_ren := {
  mixed := by kernel_rfl
  f129 := Tryf.func55.trans (congrArg some (by kernel_rfl))
  f171 := Tryf.func45.trans (congrArg some (by kernel_rfl))
  f174 := Tryf.func18.trans (congrArg some (by kernel_rfl))
  f205 := Tryf.func28.trans (congrArg some (by kernel_rfl))
  f243 := Tryf.func48.trans (congrArg some (by kernel_rfl))
  f245 := Tryf.func24.trans (congrArg some (by kernel_rfl))
  f246 := Tryf.func49.trans (congrArg some (by kernel_rfl))
  f247 := Tryf.func23.trans (congrArg some (by kernel_rfl))
  f279 := Tryf.func36.trans (congrArg some (by kernel_rfl))
  f280 := Tryf.func37.trans (congrArg some (by kernel_rfl))
  f281 := Tryf.func38.trans (congrArg some (by kernel_rfl))
  f282 := Tryf.func39.trans (congrArg some (by kernel_rfl))
  f283 := Tryf.func50.trans (congrArg some (by kernel_rfl))
  f284 := Tryf.func51.trans (congrArg some (by kernel_rfl))
  f285 := Tryf.func52.trans (congrArg some (by kernel_rfl))
  f286 := Tryf.func53.trans (congrArg some (by kernel_rfl))
  f287 := Tryf.func35.trans (congrArg some (by kernel_rfl))
  f316 := Tryf.func44.trans (congrArg some (by kernel_rfl))
  f317 := Tryf.func54.trans (congrArg some (by kernel_rfl))
  f318 := Tryf.func56.trans (congrArg some (by kernel_rfl))
  f319 := Tryf.func57.trans (congrArg some (by kernel_rfl))
  f320 := Tryf.func58.trans (congrArg some (by kernel_rfl))
  f321 := Tryf.func42.trans (congrArg some (by kernel_rfl))
  f322 := Tryf.func43.trans (congrArg some (by kernel_rfl))
  f337 := Tryf.func59.trans (congrArg some (by kernel_rfl))
  f338 := Tryf.func60.trans (congrArg some (by kernel_rfl))
  t0 := Tryf.underlying0
  a0 := Tryf.isAgg0
  z0 := Tryf.sizeOf0
  v0 := Tryf.zeroValue0
  t2 := Tryf.underlying2
  a2 := Tryf.isAgg2
  z2 := Tryf.sizeOf2
  v2 := Tryf.zeroValue2
  t3 := Tryf.underlying3
  a3 := Tryf.isAgg3
  z3 := Tryf.sizeOf3
  v3 := Tryf.zeroValue3
  t4 := Tryf.underlying4
  a4 := Tryf.isAgg4
  z4 := Tryf.sizeOf4
  v4 := Tryf.zeroValue4
  t5 := Tryf.underlying5
  a5 := Tryf.isAgg5
  z5 := Tryf.sizeOf5
  v5 := Tryf.zeroValue5
  t9 := Tryf.underlying9
  a9 := Tryf.isAgg9
  z9 := Tryf.sizeOf9
  v9 := Tryf.zeroValue9
  t20 := Tryf.underlying20
  a20 := Tryf.isAgg20
  z20 := Tryf.sizeOf20
  v20 := Tryf.zeroValue20
  t21 := Tryf.underlying21
  a21 := Tryf.isAgg21
  z21 := Tryf.sizeOf21
  v21 := Tryf.zeroValue21
  t37 := Tryf.underlying39
  a37 := Tryf.isAgg39
  z37 := Tryf.sizeOf39
  v37 := Tryf.zeroValue39
  t46 := Tryf.underlying42
  a46 := Tryf.isAgg42
  z46 := Tryf.sizeOf42
  v46 := Tryf.zeroValue42
  t51 := Tryf.underlying116
  a51 := Tryf.isAgg116
  z51 := Tryf.sizeOf116
  v51 := Tryf.zeroValue116
  t53 := Tryf.underlying44
  a53 := Tryf.isAgg44
  z53 := Tryf.sizeOf44
  v53 := Tryf.zeroValue44
  t75 := Tryf.underlying24
  a75 := Tryf.isAgg24
  z75 := Tryf.sizeOf24
  v75 := Tryf.zeroValue24
  t85 := Tryf.underlying25
  a85 := Tryf.isAgg25
  z85 := Tryf.sizeOf25
  v85 := Tryf.zeroValue25
  t127 := Tryf.underlying99
  a127 := Tryf.isAgg99
  z127 := Tryf.sizeOf99
  v127 := Tryf.zeroValue99
  t143 := Tryf.underlying95
  a143 := Tryf.isAgg95
  z143 := Tryf.sizeOf95
  v143 := Tryf.zeroValue95
  t145 := Tryf.underlying97
  a145 := Tryf.isAgg97
  z145 := Tryf.sizeOf97
  v145 := Tryf.zeroValue97
  t167 := Tryf.underlying78
  a167 := Tryf.isAgg78
  z167 := Tryf.sizeOf78
  v167 := Tryf.zeroValue78
  t168 := Tryf.underlying81
  a168 := Tryf.isAgg81
  z168 := Tryf.sizeOf81
  v168 := Tryf.zeroValue81
  t171 := Tryf.underlying108
  a171 := Tryf.isAgg108
  z171 := Tryf.sizeOf108
  v171 := Tryf.zeroValue108
  t173 := Tryf.underlying111
  a173 := Tryf.isAgg111
  z173 := Tryf.sizeOf111
  v173 := Tryf.zeroValue111
  t175 := Tryf.underlying79
  a175 := Tryf.isAgg79
  z175 := Tryf.sizeOf79
  v175 := Tryf.zeroValue79
  t210 := Tryf.underlying102
  a210 := Tryf.isAgg102
  z210 := Tryf.sizeOf102
  v210 := Tryf.zeroValue102
  t212 := Tryf.underlying115
  a212 := Tryf.isAgg115
  z212 := Tryf.sizeOf115
  v212 := Tryf.zeroValue115
  t213 := Tryf.underlying117
  a213 := Tryf.isAgg117
  z213 := Tryf.sizeOf117
  t232 := Tryf.underlying121
  a232 := Tryf.isAgg121
  z232 := Tryf.sizeOf121
  v232 := Tryf.zeroValue121
  t233 := Tryf.underlying122
  a233 := Tryf.isAgg122
  z233 := Tryf.sizeOf122
  v233 := Tryf.zeroValue122
  g15 := by kernel_rfl
  g16 := by kernel_rfl
  g17 := by kernel_rfl
  g18 := by kernel_rfl
  g19 := by kernel_rfl
  t80 := Tryf.underlying77
  a80 := Tryf.isAgg77
  z80 := Tryf.sizeOf77
  v80 := Tryf.zeroValue77
  i0 := by kernel_rfl
  i2 := by kernel_rfl
  i3 := by kernel_rfl
  i4 := by kernel_rfl
  i5 := by kernel_rfl
  i9 := by kernel_rfl
  i20 := by kernel_rfl
  i21 := by kernel_rfl
  i37 := by kernel_rfl
  i46 := by kernel_rfl
  i51 := by kernel_rfl
  i53 := by kernel_rfl
  i75 := by kernel_rfl
  i80 := by kernel_rfl
  i85 := by kernel_rfl
  i127 := by kernel_rfl
  i143 := by kernel_rfl
  i145 := by kernel_rfl
  i167 := by kernel_rfl
  i168 := by kernel_rfl
  i171 := by kernel_rfl
  i173 := by kernel_rfl
  i175 := by kernel_rfl
  i210 := by kernel_rfl
  i212 := by kernel_rfl
  i232 := by kernel_rfl
  i233 := by kernel_rfl
  m15 := by kernel_rfl
  m16 := by kernel_rfl
  m17 := by kernel_rfl
  m18 := by kernel_rfl
  m19 := by kernel_rfl
  c0 := by kernel_rfl
  c2 := by kernel_rfl
  c3 := by kernel_rfl
  c4 := by kernel_rfl
  c5 := by kernel_rfl
  c9 := by kernel_rfl
  c20 := by kernel_rfl
  c21 := by kernel_rfl
  c37 := by kernel_rfl
  c46 := by kernel_rfl
  c51 := by kernel_rfl
  c53 := by kernel_rfl
  c75 := by kernel_rfl
  c80 := by kernel_rfl
  c85 := by kernel_rfl
  c127 := by kernel_rfl
  c143 := by kernel_rfl
  c145 := by kernel_rfl
  c167 := by kernel_rfl
  c168 := by kernel_rfl
  c171 := by kernel_rfl
  c173 := by kernel_rfl
  c175 := by kernel_rfl
  c210 := by kernel_rfl
  c212 := by kernel_rfl
  c213 := by kernel_rfl
  c232 := by kernel_rfl
  c233 := by kernel_rfl }
def lays167_ren : Go.Shelf.Ren := ⟨fun | 167 => 33 | 240 => 40 | 276 => 46 | n => n, fun | 0 => 0 | 4 => 4 | 5 => 5 | 9 => 9 | 20 => 20 | 37 => 39 | 70 => 72 | 72 => 74 | 75 => 24 | 80 => 77 | 164 => 104 | n => n, fun | n => n⟩
theorem lays167 : Go.Proofs.Lays.n167 Tryf.prog lays167_ren := {
  mixed := by kernel_rfl
  f167 := Tryf.func33.trans (congrArg some (by kernel_rfl))
  f240 := Tryf.func40.trans (congrArg some (by kernel_rfl))
  f276 := Tryf.func46.trans (congrArg some (by kernel_rfl))
  t0 := Tryf.underlying0
  a0 := Tryf.isAgg0
  z0 := Tryf.sizeOf0
  v0 := Tryf.zeroValue0
  t4 := Tryf.underlying4
  a4 := Tryf.isAgg4
  z4 := Tryf.sizeOf4
  v4 := Tryf.zeroValue4
  t5 := Tryf.underlying5
  a5 := Tryf.isAgg5
  z5 := Tryf.sizeOf5
  v5 := Tryf.zeroValue5
  t9 := Tryf.underlying9
  a9 := Tryf.isAgg9
  z9 := Tryf.sizeOf9
  v9 := Tryf.zeroValue9
  t20 := Tryf.underlying20
  a20 := Tryf.isAgg20
  z20 := Tryf.sizeOf20
  v20 := Tryf.zeroValue20
  t37 := Tryf.underlying39
  a37 := Tryf.isAgg39
  z37 := Tryf.sizeOf39
  v37 := Tryf.zeroValue39
  t70 := Tryf.underlying72
  a70 := Tryf.isAgg72
  z70 := Tryf.sizeOf72
  v70 := Tryf.zeroValue72
  t72 := Tryf.underlying74
  a72 := Tryf.isAgg74
  z72 := Tryf.sizeOf74
  v72 := Tryf.zeroValue74
  t75 := Tryf.underlying24
  a75 := Tryf.isAgg24
  z75 := Tryf.sizeOf24
  v75 := Tryf.zeroValue24
  t164 := Tryf.underlying104
  a164 := Tryf.isAgg104
  z164 := Tryf.sizeOf104
  v164 := Tryf.zeroValue104 }
theorem Builder_Extra_167 : Builder.Extra Tryf.prog lays167_ren := {
  sizeBuilder := by kernel_rfl
  liesBuilder := by kernel_rfl
  t5 := Tryf.underlying5
  a5 := Tryf.isAgg5
  z5 := Tryf.sizeOf5
  v5 := Tryf.zeroValue5
  infoByte := by kernel_rfl
  cellsByte := by kernel_rfl
  sizeByte := by kernel_rfl
  neB5 := by decide }

theorem grow_said : GrowSaid := fun B b n w hB hbk hBw hn => by
  refine (Any.Builder_Grow_fresh lays165 Builder_Extra_165 B b n w hB hbk hBw hn).mono ?_
  rintro e w' ⟨rfl, h, k⟩
  exact ⟨rfl, .inr h, k⟩
theorem write_said : WriteSaid := fun B b l c w h hl hBw => by
  refine (Any.Builder_WriteByte lays167 Builder_Extra_167 B b (Lib.byteCells l) c.toNat w h (by rw [Lib.byteCells_length]; exact hl) hBw).mono ?_
  rintro e w' ⟨rfl, h, k⟩
  exact ⟨rfl, .inr (by rw [Lib.byteCells_append]; exact h), k⟩
theorem string_said : StringSaid := fun B b l w h hBw => Any.Builder_String_any lays169 Builder_Extra_169 B b l w h hBw

theorem unescape_all (s : ByteArray) (w : World) (hs : (s.size : Int) ≤ 4194304) (ht : Tab w) :
    Calls Tryf.prog 22 #[.string s, .int .u8 32] w fun e w' => UPost (unesc s.data.toList) e ∧ Below w.heap.size w w' :=
  unescape_any grow_said write_said string_said s w hs ht

/-- net/url.QueryUnescape -/
theorem query_all (s : ByteArray) (w : World) (hs : (s.size : Int) ≤ 4194304) (ht : Tab w) :
    Calls Tryf.prog 17 #[.string s] w fun e w' => UPost (unesc s.data.toList) e ∧ Below w.heap.size w w' := by
  have hu := unescape_all s w hs ht
  cases hc : unesc s.data.toList with
  | none =>
    rw [hc] at hu
    go_enter Tryf.func17, Tryf.ntmps17
    go_wp2_with fail
    refine hu.mono ?_
    rintro e w1 ⟨⟨x, rfl⟩, hb⟩
    go_wp2_with fail
    go_ret2
    exact ⟨⟨x, rfl⟩, hb⟩
  | some u =>
    rw [hc] at hu
    have hu' : Calls Tryf.prog 22 #[.string s, .int .u8 32] w fun e w' => e = .returned (.tuple #[.string ⟨u.toArray⟩, .nilIface]) ∧ Below w.heap.size w w' := hu
    clear hu hc
    go_enter Tryf.func17, Tryf.ntmps17
    go_wp2_with fail
    refine hu'.mono ?_
    rintro e w1 ⟨rfl, hb⟩
    go_wp2_with fail
    go_ret2
    exact ⟨rfl, hb⟩

/-- strconv.ParseInt(s, 10, 64), the number spelt -/
theorem parse_ok (s : ByteArray) (hs : (s.size : Int) ≤ 4194304) (v : Int) (h : Lib.parseIntB 64 s.data.toList = .ok v) (w : World) :
    Calls Tryf.prog 18 #[.string s, .int .i64 10, .int .i64 64] w fun e w' => e = .returned (.tuple #[.int .i64 v, .nilIface]) ∧ Below w.heap.size w w' := by
  refine (Any.strconv_ParseInt_10_at64_ok laysC174 s (by omega) v h w).mono ?_
  rintro e w' ⟨rfl, hw⟩
  refine ⟨rfl, ?_⟩
  rcases hw with rfl | ⟨t, rfl⟩
  · exact Below.refl _ _
  · exact Lib.bytesWorld_below _ _ _
end Go.Proofs.Qxb6615473aFmt
