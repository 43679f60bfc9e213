/-
  DERIVED: THE SHELF's CONTRACTS AT THIS DUMP, IN PLAIN WORDS (tools/lay-plain.mjs out of 'TrydShelf.lean', which tools/lay-shelf.mjs wrote): THE SAME DECLARATIONS UNDER THE SAME NAMES: 'import', 'namespace', 'open', 'def', 'theorem' AND NOTHING ELSE: no command of the shelf's: FOR A HAND-IN. Each laying: the table of numbers ('.._ren') and one theorem, a field a fact of the dump's own or the kernel's comparison; each contract: ONE APPLICATION.
-/
import Derived.Shelf.Strings.Builder1
import Derived.Shelf.LaysC
import Derived.Shelf.Strconv.ToError
import Derived.Shelf.Strconv.ToErrorRange
import Derived.Test.Qxb6600128aDoorProg
namespace Go.Proofs.Qxb6600128aDoor
open Go.Shelf
def Tryd.lays169_ren : Go.Shelf.Ren := ⟨fun | 169 => 29 | n => n, fun | 70 => 50 | 9 => 9 | 0 => 0 | 72 => 52 | 37 => 26 | 127 => 59 | 3 => 3 | 5 => 5 | n => n, fun | n => n⟩
theorem Tryd.lays169 : Go.Proofs.Lays.n169 Tryd.prog Tryd.lays169_ren := {
  mixed := by kernel_rfl
  f169 := Tryd.func29.trans (congrArg some (by kernel_rfl))
  t0 := Tryd.underlying0
  a0 := Tryd.isAgg0
  z0 := Tryd.sizeOf0
  v0 := Tryd.zeroValue0
  t3 := Tryd.underlying3
  a3 := Tryd.isAgg3
  z3 := Tryd.sizeOf3
  v3 := Tryd.zeroValue3
  t9 := Tryd.underlying9
  a9 := Tryd.isAgg9
  z9 := Tryd.sizeOf9
  v9 := Tryd.zeroValue9
  t37 := Tryd.underlying26
  a37 := Tryd.isAgg26
  z37 := Tryd.sizeOf26
  v37 := Tryd.zeroValue26
  t70 := Tryd.underlying50
  a70 := Tryd.isAgg50
  z70 := Tryd.sizeOf50
  v70 := Tryd.zeroValue50
  t72 := Tryd.underlying52
  a72 := Tryd.isAgg52
  z72 := Tryd.sizeOf52
  v72 := Tryd.zeroValue52
  t127 := Tryd.underlying59
  a127 := Tryd.isAgg59
  z127 := Tryd.sizeOf59
  v127 := Tryd.zeroValue59 }
theorem Tryd.Builder_Extra_169 : Builder.Extra Tryd.prog Tryd.lays169_ren := {
  sizeBuilder := by kernel_rfl
  liesBuilder := by kernel_rfl
  t5 := Tryd.underlying5
  a5 := Tryd.isAgg5
  z5 := Tryd.sizeOf5
  v5 := Tryd.zeroValue5
  infoByte := by kernel_rfl
  cellsByte := by kernel_rfl
  sizeByte := by kernel_rfl
  neB5 := by decide }
open Go.RowKit in
/-- (*strings.Builder).String: "String returns the accumulated string.": WHATEVER THE BUILDER HOLDS. (LAID: no walk: one application.) -/
theorem Tryd.Builder_String_any (B b : Nat) (l : List UInt8) (w : World) (h : Lib.IsBuilder 52 5 B b (Lib.byteCells l) w) (hBw : B ≤ w.heap.size) :
    Calls Tryd.prog 29 #[.pointer (some ⟨b, 0, none⟩)] w fun e w' => e = .returned (.string ⟨l.toArray⟩) ∧ Below B w w' := Any.Builder_String_any Tryd.lays169 Tryd.Builder_Extra_169 B b l w h hBw
def Tryd.laysC245_ren : Go.Shelf.Ren := ⟨fun | 245 => 33 | 279 => 38 | 280 => 39 | 281 => 40 | 282 => 41 | 316 => 45 | 171 => 47 | 205 => 46 | 243 => 48 | 246 => 49 | 283 => 50 | 284 => 51 | 285 => 52 | 286 => 53 | 129 => 55 | 317 => 54 | 318 => 56 | 319 => 57 | 320 => 58 | 337 => 59 | 338 => 60 | n => n, fun | 9 => 9 | 3 => 3 | 75 => 47 | 167 => 66 | 4 => 4 | 168 => 68 | 210 => 85 | 37 => 26 | 0 => 0 | 127 => 59 | 145 => 92 | 143 => 90 | 2 => 2 | 171 => 94 | 53 => 22 | 5 => 5 | 173 => 97 | 212 => 101 | 51 => 63 | 20 => 20 | 213 => 102 | 46 => 43 | 232 => 106 | 233 => 107 | 80 => 54 | n => n, fun | 15 => 2 | 16 => 3 | 17 => 4 | 18 => 5 | 19 => 6 | n => n⟩
theorem Tryd.laysC245 : Go.Proofs.LaysC.n245 Tryd.prog Tryd.laysC245_ren := {
  mixed := by kernel_rfl
  f129 := Tryd.func55.trans (congrArg some (by kernel_rfl))
  f171 := Tryd.func47.trans (congrArg some (by kernel_rfl))
  f205 := Tryd.func46.trans (congrArg some (by kernel_rfl))
  f243 := Tryd.func48.trans (congrArg some (by kernel_rfl))
  f245 := Tryd.func33.trans (congrArg some (by kernel_rfl))
  f246 := Tryd.func49.trans (congrArg some (by kernel_rfl))
  f279 := Tryd.func38.trans (congrArg some (by kernel_rfl))
  f280 := Tryd.func39.trans (congrArg some (by kernel_rfl))
  f281 := Tryd.func40.trans (congrArg some (by kernel_rfl))
  f282 := Tryd.func41.trans (congrArg some (by kernel_rfl))
  f283 := Tryd.func50.trans (congrArg some (by kernel_rfl))
  f284 := Tryd.func51.trans (congrArg some (by kernel_rfl))
  f285 := Tryd.func52.trans (congrArg some (by kernel_rfl))
  f286 := Tryd.func53.trans (congrArg some (by kernel_rfl))
  f316 := Tryd.func45.trans (congrArg some (by kernel_rfl))
  f317 := Tryd.func54.trans (congrArg some (by kernel_rfl))
  f318 := Tryd.func56.trans (congrArg some (by kernel_rfl))
  f319 := Tryd.func57.trans (congrArg some (by kernel_rfl))
  f320 := Tryd.func58.trans (congrArg some (by kernel_rfl))
  f337 := Tryd.func59.trans (congrArg some (by kernel_rfl))
  f338 := Tryd.func60.trans (congrArg some (by kernel_rfl))
  t0 := Tryd.underlying0
  a0 := Tryd.isAgg0
  z0 := Tryd.sizeOf0
  v0 := Tryd.zeroValue0
  t2 := Tryd.underlying2
  a2 := Tryd.isAgg2
  z2 := Tryd.sizeOf2
  v2 := Tryd.zeroValue2
  t3 := Tryd.underlying3
  a3 := Tryd.isAgg3
  z3 := Tryd.sizeOf3
  v3 := Tryd.zeroValue3
  t4 := Tryd.underlying4
  a4 := Tryd.isAgg4
  z4 := Tryd.sizeOf4
  v4 := Tryd.zeroValue4
  t5 := Tryd.underlying5
  a5 := Tryd.isAgg5
  z5 := Tryd.sizeOf5
  v5 := Tryd.zeroValue5
  t9 := Tryd.underlying9
  a9 := Tryd.isAgg9
  z9 := Tryd.sizeOf9
  v9 := Tryd.zeroValue9
  t20 := Tryd.underlying20
  a20 := Tryd.isAgg20
  z20 := Tryd.sizeOf20
  v20 := Tryd.zeroValue20
  t37 := Tryd.underlying26
  a37 := Tryd.isAgg26
  z37 := Tryd.sizeOf26
  v37 := Tryd.zeroValue26
  t46 := Tryd.underlying43
  a46 := Tryd.isAgg43
  z46 := Tryd.sizeOf43
  v46 := Tryd.zeroValue43
  t51 := Tryd.underlying63
  a51 := Tryd.isAgg63
  z51 := Tryd.sizeOf63
  v51 := Tryd.zeroValue63
  t53 := Tryd.underlying22
  a53 := Tryd.isAgg22
  z53 := Tryd.sizeOf22
  v53 := Tryd.zeroValue22
  t75 := Tryd.underlying47
  a75 := Tryd.isAgg47
  z75 := Tryd.sizeOf47
  v75 := Tryd.zeroValue47
  t127 := Tryd.underlying59
  a127 := Tryd.isAgg59
  z127 := Tryd.sizeOf59
  v127 := Tryd.zeroValue59
  t143 := Tryd.underlying90
  a143 := Tryd.isAgg90
  z143 := Tryd.sizeOf90
  v143 := Tryd.zeroValue90
  t145 := Tryd.underlying92
  a145 := Tryd.isAgg92
  z145 := Tryd.sizeOf92
  v145 := Tryd.zeroValue92
  t167 := Tryd.underlying66
  a167 := Tryd.isAgg66
  z167 := Tryd.sizeOf66
  v167 := Tryd.zeroValue66
  t168 := Tryd.underlying68
  a168 := Tryd.isAgg68
  z168 := Tryd.sizeOf68
  v168 := Tryd.zeroValue68
  t171 := Tryd.underlying94
  a171 := Tryd.isAgg94
  z171 := Tryd.sizeOf94
  v171 := Tryd.zeroValue94
  t173 := Tryd.underlying97
  a173 := Tryd.isAgg97
  z173 := Tryd.sizeOf97
  v173 := Tryd.zeroValue97
  t210 := Tryd.underlying85
  a210 := Tryd.isAgg85
  z210 := Tryd.sizeOf85
  v210 := Tryd.zeroValue85
  t212 := Tryd.underlying101
  a212 := Tryd.isAgg101
  z212 := Tryd.sizeOf101
  v212 := Tryd.zeroValue101
  t213 := Tryd.underlying102
  a213 := Tryd.isAgg102
  z213 := Tryd.sizeOf102
  t232 := Tryd.underlying106
  a232 := Tryd.isAgg106
  z232 := Tryd.sizeOf106
  v232 := Tryd.zeroValue106
  t233 := Tryd.underlying107
  a233 := Tryd.isAgg107
  z233 := Tryd.sizeOf107
  v233 := Tryd.zeroValue107
  g15 := by kernel_rfl
  g16 := by kernel_rfl
  g17 := by kernel_rfl
  g18 := by kernel_rfl
  g19 := by kernel_rfl
  t80 := Tryd.underlying54
  a80 := Tryd.isAgg54
  z80 := Tryd.sizeOf54
  v80 := Tryd.zeroValue54
  i0 := by kernel_rfl
  i2 := by kernel_rfl
  i3 := by kernel_rfl
  i4 := by kernel_rfl
  i5 := by kernel_rfl
  i9 := by kernel_rfl
  i20 := by kernel_rfl
  i37 := by kernel_rfl
  i46 := by kernel_rfl
  i51 := by kernel_rfl
  i53 := by kernel_rfl
  i75 := by kernel_rfl
  i80 := by kernel_rfl
  i127 := by kernel_rfl
  i143 := by kernel_rfl
  i145 := by kernel_rfl
  i167 := by kernel_rfl
  i168 := by kernel_rfl
  i171 := by kernel_rfl
  i173 := by kernel_rfl
  i210 := by kernel_rfl
  i212 := by kernel_rfl
  i232 := by kernel_rfl
  i233 := by kernel_rfl
  m15 := by kernel_rfl
  m16 := by kernel_rfl
  m17 := by kernel_rfl
  m18 := by kernel_rfl
  m19 := by kernel_rfl
  c0 := by kernel_rfl
  c2 := by kernel_rfl
  c3 := by kernel_rfl
  c4 := by kernel_rfl
  c5 := by kernel_rfl
  c9 := by kernel_rfl
  c20 := by kernel_rfl
  c37 := by kernel_rfl
  c46 := by kernel_rfl
  c51 := by kernel_rfl
  c53 := by kernel_rfl
  c75 := by kernel_rfl
  c80 := by kernel_rfl
  c127 := by kernel_rfl
  c143 := by kernel_rfl
  c145 := by kernel_rfl
  c167 := by kernel_rfl
  c168 := by kernel_rfl
  c171 := by kernel_rfl
  c173 := by kernel_rfl
  c210 := by kernel_rfl
  c212 := by kernel_rfl
  c213 := by kernel_rfl
  c232 := by kernel_rfl
  c233 := by kernel_rfl }
open Go.RowKit in
/-- strconv.toError, at the inner package's ErrSyntax: 'syntaxError(fn, s)' as an error: A *NumError IN A NEW BLOCK. (LAID: no walk: one application.) -/
theorem Tryd.strconv_toError_syntax (fn s : ByteArray) (base bits : Int) (ev : Value) (w : World) (hlim : s.size ≤ 281474976710656) (hv : w.cell? ⟨2, 0, none⟩ = some ev) (hev : ev = .nilIface ∨ ∃ te pe, ev = .iface te pe) :
    Calls Tryd.prog 33 #[.string fn, .string s, .int .i64 base, .int .i64 bits, .iface 66 (.int .i64 2)] w fun e w' => ∃ N, e = .returned (.iface 68 (.pointer (some ⟨N, 0, none⟩))) ∧ w.heap.size ≤ N ∧ w'.heap[N]? = some (.cells #[.string fn, .string s, ev] 85 (0, 0)) ∧ Below w.heap.size w w' := Any.strconv_toError_syntax Tryd.laysC245 fn s base bits ev w hlim hv hev
open Go.RowKit in
/-- strconv.toError, at the inner package's ErrRange: 'rangeError(fn, s)' as an error: A *NumError IN A NEW BLOCK. (LAID: no walk: one application.) -/
theorem Tryd.strconv_toError_range (fn s : ByteArray) (base bits : Int) (ev : Value) (w : World) (hlim : s.size ≤ 281474976710656) (hv : w.cell? ⟨3, 0, none⟩ = some ev) (hev : ev = .nilIface ∨ ∃ te pe, ev = .iface te pe) :
    Calls Tryd.prog 33 #[.string fn, .string s, .int .i64 base, .int .i64 bits, .iface 66 (.int .i64 1)] w fun e w' => ∃ N, e = .returned (.iface 68 (.pointer (some ⟨N, 0, none⟩))) ∧ w.heap.size ≤ N ∧ w'.heap[N]? = some (.cells #[.string fn, .string s, ev] 85 (0, 0)) ∧ Below w.heap.size w w' := Any.strconv_toError_range Tryd.laysC245 fn s base bits ev w hlim hv hev

end Go.Proofs.Qxb6600128aDoor
