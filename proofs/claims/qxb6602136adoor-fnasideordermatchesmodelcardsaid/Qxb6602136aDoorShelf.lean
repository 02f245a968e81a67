/-
  DERIVED: THE SHELF's CONTRACTS AT THIS DUMP, IN PLAIN WORDS (tools/lay-plain.mjs out of 'TrydShelf.lean', which tools/lay-shelf.mjs wrote): THE SAME DECLARATIONS UNDER THE SAME NAMES: 'import', 'namespace', 'open', 'def', 'theorem' AND NOTHING ELSE: no command of the shelf's: FOR A HAND-IN. Each laying: the table of numbers ('.._ren') and one theorem, a field a fact of the dump's own or the kernel's comparison; each contract: ONE APPLICATION.
-/
import Derived.Shelf.Small.Wraps
import Derived.Shelf.Strconv.Itoa4
import Derived.Shelf.Strconv.ErrVarParseInt
import Derived.Shelf.Strconv.ParseIntPublic10
import Derived.Shelf.Slices.Turned
import Derived.Shelf.SlGeneric
import Derived.Ground.SlgnProg
import Derived.Shelf.SortG.Plain
import Derived.Shelf.SortG.SortNone
import Derived.Test.Qxb6602136aDoorProg
namespace Go.Proofs
open Go.Shelf
def Tryd.lays103_ren : Go.Shelf.Ren := ⟨fun | 103 => 31 | 210 => 42 | 206 => 50 | n => n, fun | 9 => 9 | 4 => 4 | 24 => 39 | 3 => 3 | n => n, fun | n => n⟩
theorem Tryd.lays103 : Go.Proofs.Lays.n103 Tryd.prog Tryd.lays103_ren := {
  mixed := by kernel_rfl
  f103 := Tryd.func31.trans (congrArg some (by kernel_rfl))
  f206 := Tryd.func50.trans (congrArg some (by kernel_rfl))
  f210 := Tryd.func42.trans (congrArg some (by kernel_rfl))
  t3 := Tryd.underlying3
  a3 := Tryd.isAgg3
  z3 := Tryd.sizeOf3
  v3 := Tryd.zeroValue3
  t4 := Tryd.underlying4
  a4 := Tryd.isAgg4
  z4 := Tryd.sizeOf4
  v4 := Tryd.zeroValue4
  t9 := Tryd.underlying9
  a9 := Tryd.isAgg9
  z9 := Tryd.sizeOf9
  v9 := Tryd.zeroValue9
  t24 := Tryd.underlying39
  a24 := Tryd.isAgg39
  z24 := Tryd.sizeOf39
  v24 := Tryd.zeroValue39 }
open Go.RowKit in
/-- strings.CutPrefix: "CutPrefix returns s without the provided leading prefix string and reports whether it found the prefix. If s doesn't start with prefix, CutPrefix returns s, false. If prefix is the empty string, CutPrefix returns s, true.": IT RETURNS '(Lib.trimPrefix s p, Lib.hasPrefix s p)'; the world is as it was. (LAID: no walk: one application.) -/
theorem Tryd.strings_CutPrefix (s p : ByteArray) (w : World) :
    Calls Tryd.prog 31 #[.string s, .string p] w fun e w' => e = .returned (.tuple #[.string ⟨(Lib.trimPrefix s.data.toList p.data.toList).toArray⟩, .bool (Lib.hasPrefix s.data.toList p.data.toList)]) ∧ w' = w := Any.strings_CutPrefix Tryd.lays103 s p w
def Tryd.laysM173_ren : Go.Shelf.Ren := ⟨fun | 173 => 33 | 246 => 45 | 283 => 56 | 284 => 57 | 285 => 58 | 286 => 59 | 129 => 70 | 317 => 76 | 318 => 77 | 319 => 78 | 320 => 79 | 337 => 87 | 338 => 88 | n => n, fun | 2 => 2 | 3 => 3 | 9 => 9 | 4 => 4 | 171 => 66 | 0 => 0 | 53 => 36 | 37 => 37 | 5 => 5 | 173 => 69 | 212 => 90 | 51 => 81 | 20 => 20 | 213 => 91 | 46 => 56 | 232 => 107 | 233 => 108 | n => n, fun | 17 => 2 | 18 => 3 | 19 => 4 | n => n⟩
theorem Tryd.laysM173 : Go.Proofs.LaysM.n173 Tryd.prog Tryd.laysM173_ren := {
  mixed := by kernel_rfl
  f129 := Tryd.func70.trans (congrArg some (by kernel_rfl))
  f173 := Tryd.func33.trans (congrArg some (by kernel_rfl))
  f246 := Tryd.func45.trans (congrArg some (by kernel_rfl))
  f283 := Tryd.func56.trans (congrArg some (by kernel_rfl))
  f284 := Tryd.func57.trans (congrArg some (by kernel_rfl))
  f285 := Tryd.func58.trans (congrArg some (by kernel_rfl))
  f286 := Tryd.func59.trans (congrArg some (by kernel_rfl))
  f317 := Tryd.func76.trans (congrArg some (by kernel_rfl))
  f318 := Tryd.func77.trans (congrArg some (by kernel_rfl))
  f319 := Tryd.func78.trans (congrArg some (by kernel_rfl))
  f320 := Tryd.func79.trans (congrArg some (by kernel_rfl))
  f337 := Tryd.func87.trans (congrArg some (by kernel_rfl))
  f338 := Tryd.func88.trans (congrArg some (by kernel_rfl))
  t0 := Tryd.underlying0
  a0 := Tryd.isAgg0
  z0 := Tryd.sizeOf0
  v0 := Tryd.zeroValue0
  t2 := Tryd.underlying2
  a2 := Tryd.isAgg2
  z2 := Tryd.sizeOf2
  v2 := Tryd.zeroValue2
  t3 := Tryd.underlying3
  a3 := Tryd.isAgg3
  z3 := Tryd.sizeOf3
  v3 := Tryd.zeroValue3
  t4 := Tryd.underlying4
  a4 := Tryd.isAgg4
  z4 := Tryd.sizeOf4
  v4 := Tryd.zeroValue4
  t5 := Tryd.underlying5
  a5 := Tryd.isAgg5
  z5 := Tryd.sizeOf5
  v5 := Tryd.zeroValue5
  t9 := Tryd.underlying9
  a9 := Tryd.isAgg9
  z9 := Tryd.sizeOf9
  v9 := Tryd.zeroValue9
  t20 := Tryd.underlying20
  a20 := Tryd.isAgg20
  z20 := Tryd.sizeOf20
  v20 := Tryd.zeroValue20
  t37 := Tryd.underlying37
  a37 := Tryd.isAgg37
  z37 := Tryd.sizeOf37
  v37 := Tryd.zeroValue37
  t46 := Tryd.underlying56
  a46 := Tryd.isAgg56
  z46 := Tryd.sizeOf56
  v46 := Tryd.zeroValue56
  t51 := Tryd.underlying81
  a51 := Tryd.isAgg81
  z51 := Tryd.sizeOf81
  v51 := Tryd.zeroValue81
  t53 := Tryd.underlying36
  a53 := Tryd.isAgg36
  z53 := Tryd.sizeOf36
  v53 := Tryd.zeroValue36
  t171 := Tryd.underlying66
  a171 := Tryd.isAgg66
  z171 := Tryd.sizeOf66
  v171 := Tryd.zeroValue66
  t173 := Tryd.underlying69
  a173 := Tryd.isAgg69
  z173 := Tryd.sizeOf69
  v173 := Tryd.zeroValue69
  t212 := Tryd.underlying90
  a212 := Tryd.isAgg90
  z212 := Tryd.sizeOf90
  v212 := Tryd.zeroValue90
  t213 := Tryd.underlying91
  a213 := Tryd.isAgg91
  z213 := Tryd.sizeOf91
  t232 := Tryd.underlying107
  a232 := Tryd.isAgg107
  z232 := Tryd.sizeOf107
  v232 := Tryd.zeroValue107
  t233 := Tryd.underlying108
  a233 := Tryd.isAgg108
  z233 := Tryd.sizeOf108
  v233 := Tryd.zeroValue108
  g17 := by kernel_rfl
  g18 := by kernel_rfl
  g19 := by kernel_rfl
  i0 := by kernel_rfl
  i2 := by kernel_rfl
  i3 := by kernel_rfl
  i4 := by kernel_rfl
  i5 := by kernel_rfl
  i9 := by kernel_rfl
  i20 := by kernel_rfl
  i37 := by kernel_rfl
  i46 := by kernel_rfl
  i51 := by kernel_rfl
  i53 := by kernel_rfl
  i171 := by kernel_rfl
  i173 := by kernel_rfl
  i212 := by kernel_rfl
  i232 := by kernel_rfl
  i233 := by kernel_rfl
  m17 := by kernel_rfl
  m18 := by kernel_rfl
  m19 := by kernel_rfl }
open Go.RowKit Go.Sort Go.Lib in
/-- strconv.FormatInt: "FormatInt returns the string representation of i in the given base": AT BASE 10: i's decimal numeral, for every int64. (LAID: no walk: one application.) -/
theorem Tryd.strconv_FormatInt_10 (n : Int) (h0 : -9223372036854775808 ≤ n) (h1 : n ≤ 9223372036854775807) (w : World) (htab : Lib.TabIs Tryd.prog w "internal/strconv.uint64pow10" .u64 Lib.pow10Tab) :
    Calls Tryd.prog 33 #[.int .i64 n, .int .i64 10] w fun e w' => e = .returned (.string ⟨(Lib.itoa n).toArray⟩) ∧ ∃ k os, w' = grow (w.drewN k) os := Any.strconv_FormatInt_10 Tryd.laysM173 n h0 h1 w htab
def Tryd.laysC174_ren : Go.Shelf.Ren := ⟨fun | 174 => 32 | 247 => 43 | 245 => 44 | 287 => 51 | 279 => 52 | 280 => 53 | 281 => 54 | 282 => 55 | 321 => 71 | 322 => 72 | 316 => 73 | 171 => 75 | 205 => 74 | 243 => 86 | 246 => 45 | 283 => 56 | 284 => 57 | 285 => 58 | 286 => 59 | 129 => 70 | 317 => 76 | 318 => 77 | 319 => 78 | 320 => 79 | 337 => 87 | 338 => 88 | n => n, fun | 9 => 9 | 3 => 3 | 2 => 2 | 75 => 42 | 85 => 43 | 4 => 4 | 167 => 59 | 5 => 5 | 53 => 36 | 175 => 60 | 46 => 56 | 168 => 62 | 37 => 37 | 0 => 0 | 210 => 86 | 21 => 21 | 127 => 100 | 145 => 103 | 143 => 101 | 171 => 66 | 173 => 69 | 212 => 90 | 51 => 81 | 20 => 20 | 213 => 91 | 232 => 107 | 233 => 108 | 80 => 111 | n => n, fun | 15 => 0 | 16 => 1 | 17 => 2 | 18 => 3 | 19 => 4 | n => n⟩
theorem Tryd.laysC174 : Go.Proofs.LaysC.n174 Tryd.prog Tryd.laysC174_ren := {
  mixed := by kernel_rfl
  f129 := Tryd.func70.trans (congrArg some (by kernel_rfl))
  f171 := Tryd.func75.trans (congrArg some (by kernel_rfl))
  f174 := Tryd.func32.trans (congrArg some (by kernel_rfl))
  f205 := Tryd.func74.trans (congrArg some (by kernel_rfl))
  f243 := Tryd.func86.trans (congrArg some (by kernel_rfl))
  f245 := Tryd.func44.trans (congrArg some (by kernel_rfl))
  f246 := Tryd.func45.trans (congrArg some (by kernel_rfl))
  f247 := Tryd.func43.trans (congrArg some (by kernel_rfl))
  f279 := Tryd.func52.trans (congrArg some (by kernel_rfl))
  f280 := Tryd.func53.trans (congrArg some (by kernel_rfl))
  f281 := Tryd.func54.trans (congrArg some (by kernel_rfl))
  f282 := Tryd.func55.trans (congrArg some (by kernel_rfl))
  f283 := Tryd.func56.trans (congrArg some (by kernel_rfl))
  f284 := Tryd.func57.trans (congrArg some (by kernel_rfl))
  f285 := Tryd.func58.trans (congrArg some (by kernel_rfl))
  f286 := Tryd.func59.trans (congrArg some (by kernel_rfl))
  f287 := Tryd.func51.trans (congrArg some (by kernel_rfl))
  f316 := Tryd.func73.trans (congrArg some (by kernel_rfl))
  f317 := Tryd.func76.trans (congrArg some (by kernel_rfl))
  f318 := Tryd.func77.trans (congrArg some (by kernel_rfl))
  f319 := Tryd.func78.trans (congrArg some (by kernel_rfl))
  f320 := Tryd.func79.trans (congrArg some (by kernel_rfl))
  f321 := Tryd.func71.trans (congrArg some (by kernel_rfl))
  f322 := Tryd.func72.trans (congrArg some (by kernel_rfl))
  f337 := Tryd.func87.trans (congrArg some (by kernel_rfl))
  f338 := Tryd.func88.trans (congrArg some (by kernel_rfl))
  t0 := Tryd.underlying0
  a0 := Tryd.isAgg0
  z0 := Tryd.sizeOf0
  v0 := Tryd.zeroValue0
  t2 := Tryd.underlying2
  a2 := Tryd.isAgg2
  z2 := Tryd.sizeOf2
  v2 := Tryd.zeroValue2
  t3 := Tryd.underlying3
  a3 := Tryd.isAgg3
  z3 := Tryd.sizeOf3
  v3 := Tryd.zeroValue3
  t4 := Tryd.underlying4
  a4 := Tryd.isAgg4
  z4 := Tryd.sizeOf4
  v4 := Tryd.zeroValue4
  t5 := Tryd.underlying5
  a5 := Tryd.isAgg5
  z5 := Tryd.sizeOf5
  v5 := Tryd.zeroValue5
  t9 := Tryd.underlying9
  a9 := Tryd.isAgg9
  z9 := Tryd.sizeOf9
  v9 := Tryd.zeroValue9
  t20 := Tryd.underlying20
  a20 := Tryd.isAgg20
  z20 := Tryd.sizeOf20
  v20 := Tryd.zeroValue20
  t21 := Tryd.underlying21
  a21 := Tryd.isAgg21
  z21 := Tryd.sizeOf21
  v21 := Tryd.zeroValue21
  t37 := Tryd.underlying37
  a37 := Tryd.isAgg37
  z37 := Tryd.sizeOf37
  v37 := Tryd.zeroValue37
  t46 := Tryd.underlying56
  a46 := Tryd.isAgg56
  z46 := Tryd.sizeOf56
  v46 := Tryd.zeroValue56
  t51 := Tryd.underlying81
  a51 := Tryd.isAgg81
  z51 := Tryd.sizeOf81
  v51 := Tryd.zeroValue81
  t53 := Tryd.underlying36
  a53 := Tryd.isAgg36
  z53 := Tryd.sizeOf36
  v53 := Tryd.zeroValue36
  t75 := Tryd.underlying42
  a75 := Tryd.isAgg42
  z75 := Tryd.sizeOf42
  v75 := Tryd.zeroValue42
  t85 := Tryd.underlying43
  a85 := Tryd.isAgg43
  z85 := Tryd.sizeOf43
  v85 := Tryd.zeroValue43
  t127 := Tryd.underlying100
  a127 := Tryd.isAgg100
  z127 := Tryd.sizeOf100
  v127 := Tryd.zeroValue100
  t143 := Tryd.underlying101
  a143 := Tryd.isAgg101
  z143 := Tryd.sizeOf101
  v143 := Tryd.zeroValue101
  t145 := Tryd.underlying103
  a145 := Tryd.isAgg103
  z145 := Tryd.sizeOf103
  v145 := Tryd.zeroValue103
  t167 := Tryd.underlying59
  a167 := Tryd.isAgg59
  z167 := Tryd.sizeOf59
  v167 := Tryd.zeroValue59
  t168 := Tryd.underlying62
  a168 := Tryd.isAgg62
  z168 := Tryd.sizeOf62
  v168 := Tryd.zeroValue62
  t171 := Tryd.underlying66
  a171 := Tryd.isAgg66
  z171 := Tryd.sizeOf66
  v171 := Tryd.zeroValue66
  t173 := Tryd.underlying69
  a173 := Tryd.isAgg69
  z173 := Tryd.sizeOf69
  v173 := Tryd.zeroValue69
  t175 := Tryd.underlying60
  a175 := Tryd.isAgg60
  z175 := Tryd.sizeOf60
  v175 := Tryd.zeroValue60
  t210 := Tryd.underlying86
  a210 := Tryd.isAgg86
  z210 := Tryd.sizeOf86
  v210 := Tryd.zeroValue86
  t212 := Tryd.underlying90
  a212 := Tryd.isAgg90
  z212 := Tryd.sizeOf90
  v212 := Tryd.zeroValue90
  t213 := Tryd.underlying91
  a213 := Tryd.isAgg91
  z213 := Tryd.sizeOf91
  t232 := Tryd.underlying107
  a232 := Tryd.isAgg107
  z232 := Tryd.sizeOf107
  v232 := Tryd.zeroValue107
  t233 := Tryd.underlying108
  a233 := Tryd.isAgg108
  z233 := Tryd.sizeOf108
  v233 := Tryd.zeroValue108
  g15 := by kernel_rfl
  g16 := by kernel_rfl
  g17 := by kernel_rfl
  g18 := by kernel_rfl
  g19 := by kernel_rfl
  t80 := Tryd.underlying111
  a80 := Tryd.isAgg111
  z80 := Tryd.sizeOf111
  v80 := Tryd.zeroValue111
  i0 := by kernel_rfl
  i2 := by kernel_rfl
  i3 := by kernel_rfl
  i4 := by kernel_rfl
  i5 := by kernel_rfl
  i9 := by kernel_rfl
  i20 := by kernel_rfl
  i21 := by kernel_rfl
  i37 := by kernel_rfl
  i46 := by kernel_rfl
  i51 := by kernel_rfl
  i53 := by kernel_rfl
  i75 := by kernel_rfl
  i80 := by kernel_rfl
  i85 := by kernel_rfl
  i127 := by kernel_rfl
  i143 := by kernel_rfl
  i145 := by kernel_rfl
  i167 := by kernel_rfl
  i168 := by kernel_rfl
  i171 := by kernel_rfl
  i173 := by kernel_rfl
  i175 := by kernel_rfl
  i210 := by kernel_rfl
  i212 := by kernel_rfl
  i232 := by kernel_rfl
  i233 := by kernel_rfl
  m15 := by kernel_rfl
  m16 := by kernel_rfl
  m17 := by kernel_rfl
  m18 := by kernel_rfl
  m19 := by kernel_rfl
  c0 := by kernel_rfl
  c2 := by kernel_rfl
  c3 := by kernel_rfl
  c4 := by kernel_rfl
  c5 := by kernel_rfl
  c9 := by kernel_rfl
  c20 := by kernel_rfl
  c21 := by kernel_rfl
  c37 := by kernel_rfl
  c46 := by kernel_rfl
  c51 := by kernel_rfl
  c53 := by kernel_rfl
  c75 := by kernel_rfl
  c80 := by kernel_rfl
  c85 := by kernel_rfl
  c127 := by kernel_rfl
  c143 := by kernel_rfl
  c145 := by kernel_rfl
  c167 := by kernel_rfl
  c168 := by kernel_rfl
  c171 := by kernel_rfl
  c173 := by kernel_rfl
  c175 := by kernel_rfl
  c210 := by kernel_rfl
  c212 := by kernel_rfl
  c213 := by kernel_rfl
  c232 := by kernel_rfl
  c233 := by kernel_rfl }
open Go.RowKit in
/-- strconv.ParseInt(s, 10, 64), AT EVERY STRING THAT SPELLS AN int64 ('Lib.parseIntB 64 s.data.toList = .ok v'): v, AND NO ERROR. (LAID: no walk: one application.) -/
theorem Tryd.strconv_ParseInt_10_at64_ok (s : ByteArray) (hmax : s.size ≤ 9223372036854775806) (v : Int) (h : Lib.parseIntB 64 s.data.toList = .ok v) (w : World) :
    Calls Tryd.prog 32 #[.string s, .int .i64 10, .int .i64 64] w fun e w' => e = .returned (.tuple #[.int .i64 v, .nilIface]) ∧ (w' = w ∨ ∃ t, w' = Lib.bytesWorld w 5 t) := Any.strconv_ParseInt_10_at64_ok Tryd.laysC174 s hmax v h w
open Go.RowKit in
/-- strconv.ParseInt(s, 10, 64), AT EVERY STRING THAT IS NO DECIMAL NUMERAL: 0, AND AN ERROR THAT IS NOT nil: a *NumError in a new block N: {Func: "ParseInt", Num: s's bytes, Err: what the variable ErrSyntax holds}. Of what was there nothing has turned. (LAID: no walk: one application.) -/
theorem Tryd.strconv_ParseInt_10_at64_syntax (s : ByteArray) (hlim : s.size ≤ 281474976710656) (h : Lib.parseIntB 64 s.data.toList = .«syntax») (ev : Value) (w : World) (hv : w.cell? ⟨0, 0, none⟩ = some ev) (hev : ev = .nilIface ∨ ∃ te pe, ev = .iface te pe) :
    Calls Tryd.prog 32 #[.string s, .int .i64 10, .int .i64 64] w fun e w' => ∃ N, e = .returned (.tuple #[.int .i64 (0), .iface 62 (.pointer (some ⟨N, 0, none⟩))]) ∧ w.heap.size ≤ N ∧ w'.heap[N]? = some (.cells #[.string ⟨#[80, 97, 114, 115, 101, 73, 110, 116]⟩, .string s, ev] 86 (0, 0)) ∧ Below w.heap.size w w' := Any.strconv_ParseInt_10_at64_syntax Tryd.laysC174 s hlim h ev w hv hev
open Go.RowKit in
/-- strconv.ParseInt(s, 10, 64), AT EVERY NUMERAL THAT NO int64 HOLDS: THE GREATEST OR THE LEAST int64, BY THE SIGN ('Lib.intSat 64'), AND AN ERROR THAT IS NOT nil: a *NumError in a new block N: {Func: "ParseInt", Num: s's bytes, Err: what the variable ErrRange holds}. Of what was there nothing has turned. (LAID: no walk: one application.) -/
theorem Tryd.strconv_ParseInt_10_at64_range (s : ByteArray) (hlim : s.size ≤ 281474976710656) (h : Lib.parseIntB 64 s.data.toList = .range) (ev : Value) (w : World) (hv : w.cell? ⟨1, 0, none⟩ = some ev) (hev : ev = .nilIface ∨ ∃ te pe, ev = .iface te pe) :
    Calls Tryd.prog 32 #[.string s, .int .i64 10, .int .i64 64] w fun e w' => ∃ N, e = .returned (.tuple #[.int .i64 (Lib.intSat 64 s.data.toList), .iface 62 (.pointer (some ⟨N, 0, none⟩))]) ∧ w.heap.size ≤ N ∧ w'.heap[N]? = some (.cells #[.string ⟨#[80, 97, 114, 115, 101, 73, 110, 116]⟩, .string s, ev] 86 (0, 0)) ∧ Below w.heap.size w w' := Any.strconv_ParseInt_10_at64_range Tryd.laysC174 s hlim h ev w hv hev
def Tryd.lays110_ren : Go.Shelf.Ren := ⟨fun | 110 => 40 | 109 => 49 | n => n, fun | 31 => 27 | 9 => 9 | 4 => 4 | 3 => 3 | 0 => 0 | n => n, fun | n => n⟩
theorem Tryd.lays110 : Go.Proofs.Lays.n110 Tryd.prog Tryd.lays110_ren := {
  mixed := by kernel_rfl
  f109 := Tryd.func49.trans (congrArg some (by kernel_rfl))
  f110 := Tryd.func40.trans (congrArg some (by kernel_rfl))
  t0 := Tryd.underlying0
  a0 := Tryd.isAgg0
  z0 := Tryd.sizeOf0
  v0 := Tryd.zeroValue0
  t3 := Tryd.underlying3
  a3 := Tryd.isAgg3
  z3 := Tryd.sizeOf3
  v3 := Tryd.zeroValue3
  t4 := Tryd.underlying4
  a4 := Tryd.isAgg4
  z4 := Tryd.sizeOf4
  v4 := Tryd.zeroValue4
  t9 := Tryd.underlying9
  a9 := Tryd.isAgg9
  z9 := Tryd.sizeOf9
  v9 := Tryd.zeroValue9
  t31 := Tryd.underlying27
  a31 := Tryd.isAgg27
  z31 := Tryd.sizeOf27
  v31 := Tryd.zeroValue27 }
open Go.Lib in
/-- slices.Contains at []string: "Contains reports whether v is present in s.": IT RETURNS 'Lib.containsS (the elements) v', which is true just where v is among them ('Lib.containsS_iff'); the world is as it was. ITS CALLEE slices.Index IS MET BY ITS OWN CONTRACT OFF THE SHELF (lay that first): no loop is walked here. (LAID: no walk: one application.) -/
theorem Tryd.slices_Contains_string (b off n c : Nat) (zs : List ByteArray) (x : ByteArray) (w : World) (hz : n ≤ zs.length) (hbig : n ≤ 9223372036854775807) (hc : ∀ j, j < zs.length → w.cell? ⟨b, off + j, none⟩ = some (.string (zs.getD j ByteArray.empty))) :
    Calls Tryd.prog 40 #[.slice (some ⟨b, off, none⟩) n c, .string x] w fun e w' => e = .returned (.bool (Lib.containsS (zs.take n) x)) ∧ w' = w := Any.slices_Contains_string Tryd.lays110 b off n c zs x w hz hbig hc
open Go.Lib in
/-- The same at a slice of length 0, a nil one too. (LAID: no walk: one application.) -/
theorem Tryd.slices_Contains_string_empty (a : Option Addr) (c : Nat) (x : ByteArray) (w : World) :
    Calls Tryd.prog 40 #[.slice a 0 c, .string x] w fun e w' => e = .returned (.bool false) ∧ w' = w := Any.slices_Contains_string_empty Tryd.lays110 a c x w
def Tryd.lays53g_ren : Go.Shelf.Ren := ⟨fun | 53 => 36 | 64 => 47 | 63 => 46 | 78 => 69 | 79 => 70 | 70 => 60 | 71 => 61 | 72 => 62 | 73 => 63 | 74 => 64 | 75 => 65 | 59 => 66 | 76 => 67 | 77 => 68 | 88 => 80 | 89 => 81 | 90 => 82 | 91 => 83 | 92 => 84 | 68 => 85 | 96 => 89 | n => n, fun | 22 => 30 | 23 => 2 | 3 => 3 | 51 => 56 | 0 => 0 | 67 => 81 | 69 => 36 | 4 => 4 | 61 => 73 | 60 => 72 | 44 => 78 | 5 => 5 | 9 => 9 | 75 => 93 | 79 => 97 | 83 => 104 | 84 => 105 | n => n, fun | n => n⟩
theorem Tryd.lays53g : Go.Proofs.SlLaysN.n53 Tryd.prog Tryd.lays53g_ren := {
  mixed := by kernel_rfl
  f53 := ⟨Tryd.f36.name, by decide, Tryd.func36.trans (congrArg some (by kernel_rfl))⟩
  f59 := ⟨Tryd.f66.name, by decide, Tryd.func66.trans (congrArg some (by kernel_rfl))⟩
  f63 := ⟨Tryd.f46.name, by decide, Tryd.func46.trans (congrArg some (by kernel_rfl))⟩
  f64 := Tryd.func47.trans (congrArg some (by kernel_rfl))
  f68 := ⟨Tryd.f85.name, by decide, Tryd.func85.trans (congrArg some (by kernel_rfl))⟩
  f70 := ⟨Tryd.f60.name, by decide, Tryd.func60.trans (congrArg some (by kernel_rfl))⟩
  f71 := ⟨Tryd.f61.name, by decide, Tryd.func61.trans (congrArg some (by kernel_rfl))⟩
  f72 := ⟨Tryd.f62.name, by decide, Tryd.func62.trans (congrArg some (by kernel_rfl))⟩
  f73 := ⟨Tryd.f63.name, by decide, Tryd.func63.trans (congrArg some (by kernel_rfl))⟩
  f74 := ⟨Tryd.f64.name, by decide, Tryd.func64.trans (congrArg some (by kernel_rfl))⟩
  f75 := ⟨Tryd.f65.name, by decide, Tryd.func65.trans (congrArg some (by kernel_rfl))⟩
  f76 := ⟨Tryd.f67.name, by decide, Tryd.func67.trans (congrArg some (by kernel_rfl))⟩
  f77 := ⟨Tryd.f68.name, by decide, Tryd.func68.trans (congrArg some (by kernel_rfl))⟩
  f78 := Tryd.func69.trans (congrArg some (by kernel_rfl))
  f79 := Tryd.func70.trans (congrArg some (by kernel_rfl))
  f88 := ⟨Tryd.f80.name, by decide, Tryd.func80.trans (congrArg some (by kernel_rfl))⟩
  f89 := Tryd.func81.trans (congrArg some (by kernel_rfl))
  f90 := Tryd.func82.trans (congrArg some (by kernel_rfl))
  f91 := ⟨Tryd.f83.name, by decide, Tryd.func83.trans (congrArg some (by kernel_rfl))⟩
  f92 := ⟨Tryd.f84.name, by decide, Tryd.func84.trans (congrArg some (by kernel_rfl))⟩
  f96 := ⟨Tryd.f89.name, by decide, Tryd.func89.trans (congrArg some (by kernel_rfl))⟩
  t0 := Tryd.underlying0
  a0 := Tryd.isAgg0
  z0 := Tryd.sizeOf0
  v0 := Tryd.zeroValue0
  t3 := Tryd.underlying3
  a3 := Tryd.isAgg3
  z3 := Tryd.sizeOf3
  v3 := Tryd.zeroValue3
  t4 := Tryd.underlying4
  a4 := Tryd.isAgg4
  z4 := Tryd.sizeOf4
  v4 := Tryd.zeroValue4
  t5 := Tryd.underlying5
  a5 := Tryd.isAgg5
  z5 := Tryd.sizeOf5
  v5 := Tryd.zeroValue5
  t9 := Tryd.underlying9
  a9 := Tryd.isAgg9
  z9 := Tryd.sizeOf9
  v9 := Tryd.zeroValue9
  t22 := Tryd.underlying30
  a22 := Tryd.isAgg30
  z22 := Tryd.sizeOf30
  v22 := Tryd.zeroValue30
  t23 := Tryd.underlying2
  a23 := Tryd.isAgg2
  z23 := Tryd.sizeOf2
  v23 := Tryd.zeroValue2
  t44 := Tryd.underlying78
  a44 := Tryd.isAgg78
  z44 := Tryd.sizeOf78
  v44 := Tryd.zeroValue78
  t51 := Tryd.underlying56
  a51 := Tryd.isAgg56
  z51 := Tryd.sizeOf56
  v51 := Tryd.zeroValue56
  t60 := Tryd.underlying72
  a60 := Tryd.isAgg72
  z60 := Tryd.sizeOf72
  v60 := Tryd.zeroValue72
  t61 := Tryd.underlying73
  a61 := Tryd.isAgg73
  z61 := Tryd.sizeOf73
  v61 := Tryd.zeroValue73
  t67 := Tryd.underlying81
  a67 := Tryd.isAgg81
  z67 := Tryd.sizeOf81
  v67 := Tryd.zeroValue81
  t69 := Tryd.underlying36
  a69 := Tryd.isAgg36
  z69 := Tryd.sizeOf36
  v69 := Tryd.zeroValue36
  t75 := Tryd.underlying93
  a75 := Tryd.isAgg93
  z75 := Tryd.sizeOf93
  v75 := Tryd.zeroValue93
  t79 := Tryd.underlying97
  a79 := Tryd.isAgg97
  z79 := Tryd.sizeOf97
  v79 := Tryd.zeroValue97
  t83 := Tryd.underlying104
  a83 := Tryd.isAgg104
  z83 := Tryd.sizeOf104
  v83 := Tryd.zeroValue104
  t84 := Tryd.underlying105
  a84 := Tryd.isAgg105
  z84 := Tryd.sizeOf105
  v84 := Tryd.zeroValue105 }
open Go.RowKit Go.Sort in
/-- slices.Sort at int64. -/
theorem Tryd.slices_Sort_i64 (blk off cap : Nat) (zs : List Int) (w : World) (hH : Holds (Value.int .i64) w blk off zs.toArray) (hblk : blk < w.heap.size) (hsz : zs.length < 4611686018427387904) :
    Calls Tryd.prog 36 #[.slice (some ⟨blk, off, none⟩) zs.length cap] w fun e w' => e = .returned (.tuple #[]) ∧ ∃ n os, w' = grow (putRow (Value.int .i64) (Sort.ahead w n) blk off (zs.mergeSort fun x y => decide (x ≤ y)).toArray) os := AnyG.slices_Sort_int Tryd.lays53g blk off cap zs w hH hblk hsz
open Go.RowKit Go.Sort in
/-- slices.Sort at int64. -/
theorem Tryd.slices_Sort_i64_none (p : Option Addr) (cap : Nat) (w : World) :
    Calls Tryd.prog 36 #[.slice p 0 cap] w fun e w' => e = .returned (.tuple #[]) ∧ w' = w := AnyG.slices_Sort_int_none Tryd.lays53g p cap w
end Go.Proofs
