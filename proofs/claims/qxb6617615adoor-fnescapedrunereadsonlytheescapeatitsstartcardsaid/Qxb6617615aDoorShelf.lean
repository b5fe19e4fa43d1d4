/-
  DERIVED: THE SHELF's CONTRACTS AT THIS DUMP, IN PLAIN WORDS (tools/lay-plain.mjs out of 'TrydShelf.lean', which tools/lay-shelf.mjs wrote): THE SAME DECLARATIONS UNDER THE SAME NAMES: 'import', 'namespace', 'open', 'def', 'theorem' AND NOTHING ELSE: no command of the shelf's: FOR A HAND-IN. Each laying: the table of numbers ('.._ren') and one theorem, a field a fact of the dump's own or the kernel's comparison; each contract: ONE APPLICATION.
-/
import Derived.Shelf.LaysM
import Derived.Shelf.Strconv.Clone
import Derived.Shelf.Strconv.SyntaxError
import Derived.Shelf.LaysC
import Derived.Shelf.Strconv.ToError
import Derived.Shelf.Strconv.Lower
import Derived.Test.Qxb6617615aDoorProg
namespace Go.Proofs
open Go.Shelf
def Tryd.laysM316_ren : Go.Shelf.Ren := ⟨fun | 316 => 19 | n => n, fun | 9 => 9 | 3 => 3 | 4 => 4 | 37 => 22 | 0 => 0 | 127 => 45 | 5 => 5 | n => n, fun | n => n⟩
theorem Tryd.laysM316 : Go.Proofs.LaysM.n316 Tryd.prog Tryd.laysM316_ren := {
  mixed := by kernel_rfl
  f316 := Tryd.func19.trans (congrArg some (by kernel_rfl))
  t0 := Tryd.underlying0
  a0 := Tryd.isAgg0
  z0 := Tryd.sizeOf0
  v0 := Tryd.zeroValue0
  t3 := Tryd.underlying3
  a3 := Tryd.isAgg3
  z3 := Tryd.sizeOf3
  v3 := Tryd.zeroValue3
  t4 := Tryd.underlying4
  a4 := Tryd.isAgg4
  z4 := Tryd.sizeOf4
  v4 := Tryd.zeroValue4
  t9 := Tryd.underlying9
  a9 := Tryd.isAgg9
  z9 := Tryd.sizeOf9
  v9 := Tryd.zeroValue9
  t37 := Tryd.underlying22
  a37 := Tryd.isAgg22
  z37 := Tryd.sizeOf22
  v37 := Tryd.zeroValue22
  t127 := Tryd.underlying45
  a127 := Tryd.isAgg45
  z127 := Tryd.sizeOf45
  v127 := Tryd.zeroValue45
  t5 := Tryd.underlying5
  a5 := Tryd.isAgg5
  z5 := Tryd.sizeOf5
  v5 := Tryd.zeroValue5
  i0 := by kernel_rfl
  i3 := by kernel_rfl
  i4 := by kernel_rfl
  i5 := by kernel_rfl
  i9 := by kernel_rfl
  i37 := by kernel_rfl
  i127 := by kernel_rfl }
open Go.RowKit in
/-- internal/stringslite.Clone (what strings.Clone calls): "Clone returns a fresh copy of s.": THE SAME BYTES. Of what was there nothing has turned (a new row is laid, and frozen, where s is not empty). (LAID: no walk: one application.) -/
theorem Tryd.stringslite_Clone (s : ByteArray) (w : World) (hlim : s.size ≤ 281474976710656) :
    Calls Tryd.prog 19 #[.string s] w fun e w' => e = .returned (.string s) ∧ Below w.heap.size w w' := Any.stringslite_Clone Tryd.laysM316 s w hlim
def Tryd.laysM279_ren : Go.Shelf.Ren := ⟨fun | 279 => 15 | 316 => 19 | n => n, fun | 9 => 9 | 168 => 37 | 75 => 29 | 210 => 42 | 3 => 3 | 4 => 4 | 37 => 22 | 0 => 0 | 127 => 45 | 80 => 67 | 5 => 5 | n => n, fun | 15 => 0 | n => n⟩
theorem Tryd.laysM279 : Go.Proofs.LaysM.n279 Tryd.prog Tryd.laysM279_ren := {
  mixed := by kernel_rfl
  f279 := Tryd.func15.trans (congrArg some (by kernel_rfl))
  f316 := Tryd.func19.trans (congrArg some (by kernel_rfl))
  t0 := Tryd.underlying0
  a0 := Tryd.isAgg0
  z0 := Tryd.sizeOf0
  v0 := Tryd.zeroValue0
  t3 := Tryd.underlying3
  a3 := Tryd.isAgg3
  z3 := Tryd.sizeOf3
  v3 := Tryd.zeroValue3
  t4 := Tryd.underlying4
  a4 := Tryd.isAgg4
  z4 := Tryd.sizeOf4
  v4 := Tryd.zeroValue4
  t9 := Tryd.underlying9
  a9 := Tryd.isAgg9
  z9 := Tryd.sizeOf9
  v9 := Tryd.zeroValue9
  t37 := Tryd.underlying22
  a37 := Tryd.isAgg22
  z37 := Tryd.sizeOf22
  v37 := Tryd.zeroValue22
  t75 := Tryd.underlying29
  a75 := Tryd.isAgg29
  z75 := Tryd.sizeOf29
  v75 := Tryd.zeroValue29
  t127 := Tryd.underlying45
  a127 := Tryd.isAgg45
  z127 := Tryd.sizeOf45
  v127 := Tryd.zeroValue45
  t168 := Tryd.underlying37
  a168 := Tryd.isAgg37
  z168 := Tryd.sizeOf37
  v168 := Tryd.zeroValue37
  t210 := Tryd.underlying42
  a210 := Tryd.isAgg42
  z210 := Tryd.sizeOf42
  v210 := Tryd.zeroValue42
  g15 := by kernel_rfl
  t5 := Tryd.underlying5
  a5 := Tryd.isAgg5
  z5 := Tryd.sizeOf5
  v5 := Tryd.zeroValue5
  t80 := Tryd.underlying67
  a80 := Tryd.isAgg67
  z80 := Tryd.sizeOf67
  v80 := Tryd.zeroValue67
  i0 := by kernel_rfl
  i3 := by kernel_rfl
  i4 := by kernel_rfl
  i5 := by kernel_rfl
  i9 := by kernel_rfl
  i37 := by kernel_rfl
  i75 := by kernel_rfl
  i80 := by kernel_rfl
  i127 := by kernel_rfl
  i168 := by kernel_rfl
  i210 := by kernel_rfl
  m15 := by kernel_rfl }
open Go.RowKit in
/-- strconv.syntaxError: '&NumError{fn, stringslite.Clone(str), ErrSyntax}': A POINTER TO A NEW BLOCK that holds fn, str's bytes, and what the variable ErrSyntax holds. Of what was there nothing has turned. (LAID: no walk: one application.) -/
theorem Tryd.strconv_syntaxError (fn s : ByteArray) (ev : Value) (w : World) (hlim : s.size ≤ 281474976710656) (hv : w.cell? ⟨0, 0, none⟩ = some ev) (hev : ev = .nilIface ∨ ∃ te pe, ev = .iface te pe) :
    Calls Tryd.prog 15 #[.string fn, .string s] w fun e w' => ∃ N, e = .returned (.pointer (some ⟨N, 0, none⟩)) ∧ w.heap.size ≤ N ∧ w'.heap[N]? = some (.cells #[.string fn, .string s, ev] 42 (0, 0)) ∧ Below w.heap.size w w' := Any.strconv_syntaxError Tryd.laysM279 fn s ev w hlim hv hev
def Tryd.laysC245_ren : Go.Shelf.Ren := ⟨fun | 245 => 12 | 279 => 15 | 280 => 16 | 281 => 17 | 282 => 18 | 316 => 19 | 171 => 21 | 205 => 20 | 243 => 22 | 246 => 23 | 283 => 24 | 284 => 25 | 285 => 26 | 286 => 27 | 129 => 29 | 317 => 28 | 318 => 30 | 319 => 31 | 320 => 32 | 337 => 33 | 338 => 34 | n => n, fun | 9 => 9 | 3 => 3 | 75 => 29 | 167 => 33 | 4 => 4 | 168 => 37 | 210 => 42 | 37 => 22 | 0 => 0 | 127 => 45 | 145 => 48 | 143 => 46 | 2 => 2 | 171 => 50 | 53 => 27 | 5 => 5 | 173 => 53 | 212 => 57 | 51 => 58 | 20 => 20 | 213 => 59 | 46 => 35 | 232 => 63 | 233 => 64 | 80 => 67 | n => n, fun | 15 => 0 | 16 => 1 | 17 => 2 | 18 => 3 | 19 => 4 | n => n⟩
theorem Tryd.laysC245 : Go.Proofs.LaysC.n245 Tryd.prog Tryd.laysC245_ren := {
  mixed := by kernel_rfl
  f129 := Tryd.func29.trans (congrArg some (by kernel_rfl))
  f171 := Tryd.func21.trans (congrArg some (by kernel_rfl))
  f205 := Tryd.func20.trans (congrArg some (by kernel_rfl))
  f243 := Tryd.func22.trans (congrArg some (by kernel_rfl))
  f245 := Tryd.func12.trans (congrArg some (by kernel_rfl))
  f246 := Tryd.func23.trans (congrArg some (by kernel_rfl))
  f279 := Tryd.func15.trans (congrArg some (by kernel_rfl))
  f280 := Tryd.func16.trans (congrArg some (by kernel_rfl))
  f281 := Tryd.func17.trans (congrArg some (by kernel_rfl))
  f282 := Tryd.func18.trans (congrArg some (by kernel_rfl))
  f283 := Tryd.func24.trans (congrArg some (by kernel_rfl))
  f284 := Tryd.func25.trans (congrArg some (by kernel_rfl))
  f285 := Tryd.func26.trans (congrArg some (by kernel_rfl))
  f286 := Tryd.func27.trans (congrArg some (by kernel_rfl))
  f316 := Tryd.func19.trans (congrArg some (by kernel_rfl))
  f317 := Tryd.func28.trans (congrArg some (by kernel_rfl))
  f318 := Tryd.func30.trans (congrArg some (by kernel_rfl))
  f319 := Tryd.func31.trans (congrArg some (by kernel_rfl))
  f320 := Tryd.func32.trans (congrArg some (by kernel_rfl))
  f337 := Tryd.func33.trans (congrArg some (by kernel_rfl))
  f338 := Tryd.func34.trans (congrArg some (by kernel_rfl))
  t0 := Tryd.underlying0
  a0 := Tryd.isAgg0
  z0 := Tryd.sizeOf0
  v0 := Tryd.zeroValue0
  t2 := Tryd.underlying2
  a2 := Tryd.isAgg2
  z2 := Tryd.sizeOf2
  v2 := Tryd.zeroValue2
  t3 := Tryd.underlying3
  a3 := Tryd.isAgg3
  z3 := Tryd.sizeOf3
  v3 := Tryd.zeroValue3
  t4 := Tryd.underlying4
  a4 := Tryd.isAgg4
  z4 := Tryd.sizeOf4
  v4 := Tryd.zeroValue4
  t5 := Tryd.underlying5
  a5 := Tryd.isAgg5
  z5 := Tryd.sizeOf5
  v5 := Tryd.zeroValue5
  t9 := Tryd.underlying9
  a9 := Tryd.isAgg9
  z9 := Tryd.sizeOf9
  v9 := Tryd.zeroValue9
  t20 := Tryd.underlying20
  a20 := Tryd.isAgg20
  z20 := Tryd.sizeOf20
  v20 := Tryd.zeroValue20
  t37 := Tryd.underlying22
  a37 := Tryd.isAgg22
  z37 := Tryd.sizeOf22
  v37 := Tryd.zeroValue22
  t46 := Tryd.underlying35
  a46 := Tryd.isAgg35
  z46 := Tryd.sizeOf35
  v46 := Tryd.zeroValue35
  t51 := Tryd.underlying58
  a51 := Tryd.isAgg58
  z51 := Tryd.sizeOf58
  v51 := Tryd.zeroValue58
  t53 := Tryd.underlying27
  a53 := Tryd.isAgg27
  z53 := Tryd.sizeOf27
  v53 := Tryd.zeroValue27
  t75 := Tryd.underlying29
  a75 := Tryd.isAgg29
  z75 := Tryd.sizeOf29
  v75 := Tryd.zeroValue29
  t127 := Tryd.underlying45
  a127 := Tryd.isAgg45
  z127 := Tryd.sizeOf45
  v127 := Tryd.zeroValue45
  t143 := Tryd.underlying46
  a143 := Tryd.isAgg46
  z143 := Tryd.sizeOf46
  v143 := Tryd.zeroValue46
  t145 := Tryd.underlying48
  a145 := Tryd.isAgg48
  z145 := Tryd.sizeOf48
  v145 := Tryd.zeroValue48
  t167 := Tryd.underlying33
  a167 := Tryd.isAgg33
  z167 := Tryd.sizeOf33
  v167 := Tryd.zeroValue33
  t168 := Tryd.underlying37
  a168 := Tryd.isAgg37
  z168 := Tryd.sizeOf37
  v168 := Tryd.zeroValue37
  t171 := Tryd.underlying50
  a171 := Tryd.isAgg50
  z171 := Tryd.sizeOf50
  v171 := Tryd.zeroValue50
  t173 := Tryd.underlying53
  a173 := Tryd.isAgg53
  z173 := Tryd.sizeOf53
  v173 := Tryd.zeroValue53
  t210 := Tryd.underlying42
  a210 := Tryd.isAgg42
  z210 := Tryd.sizeOf42
  v210 := Tryd.zeroValue42
  t212 := Tryd.underlying57
  a212 := Tryd.isAgg57
  z212 := Tryd.sizeOf57
  v212 := Tryd.zeroValue57
  t213 := Tryd.underlying59
  a213 := Tryd.isAgg59
  z213 := Tryd.sizeOf59
  t232 := Tryd.underlying63
  a232 := Tryd.isAgg63
  z232 := Tryd.sizeOf63
  v232 := Tryd.zeroValue63
  t233 := Tryd.underlying64
  a233 := Tryd.isAgg64
  z233 := Tryd.sizeOf64
  v233 := Tryd.zeroValue64
  g15 := by kernel_rfl
  g16 := by kernel_rfl
  g17 := by kernel_rfl
  g18 := by kernel_rfl
  g19 := by kernel_rfl
  t80 := Tryd.underlying67
  a80 := Tryd.isAgg67
  z80 := Tryd.sizeOf67
  v80 := Tryd.zeroValue67
  i0 := by kernel_rfl
  i2 := by kernel_rfl
  i3 := by kernel_rfl
  i4 := by kernel_rfl
  i5 := by kernel_rfl
  i9 := by kernel_rfl
  i20 := by kernel_rfl
  i37 := by kernel_rfl
  i46 := by kernel_rfl
  i51 := by kernel_rfl
  i53 := by kernel_rfl
  i75 := by kernel_rfl
  i80 := by kernel_rfl
  i127 := by kernel_rfl
  i143 := by kernel_rfl
  i145 := by kernel_rfl
  i167 := by kernel_rfl
  i168 := by kernel_rfl
  i171 := by kernel_rfl
  i173 := by kernel_rfl
  i210 := by kernel_rfl
  i212 := by kernel_rfl
  i232 := by kernel_rfl
  i233 := by kernel_rfl
  m15 := by kernel_rfl
  m16 := by kernel_rfl
  m17 := by kernel_rfl
  m18 := by kernel_rfl
  m19 := by kernel_rfl
  c0 := by kernel_rfl
  c2 := by kernel_rfl
  c3 := by kernel_rfl
  c4 := by kernel_rfl
  c5 := by kernel_rfl
  c9 := by kernel_rfl
  c20 := by kernel_rfl
  c37 := by kernel_rfl
  c46 := by kernel_rfl
  c51 := by kernel_rfl
  c53 := by kernel_rfl
  c75 := by kernel_rfl
  c80 := by kernel_rfl
  c127 := by kernel_rfl
  c143 := by kernel_rfl
  c145 := by kernel_rfl
  c167 := by kernel_rfl
  c168 := by kernel_rfl
  c171 := by kernel_rfl
  c173 := by kernel_rfl
  c210 := by kernel_rfl
  c212 := by kernel_rfl
  c213 := by kernel_rfl
  c232 := by kernel_rfl
  c233 := by kernel_rfl }
open Go.RowKit in
/-- strconv.toError, at the inner package's ErrSyntax: 'syntaxError(fn, s)' as an error: A *NumError IN A NEW BLOCK. (LAID: no walk: one application.) -/
theorem Tryd.strconv_toError_syntax (fn s : ByteArray) (base bits : Int) (ev : Value) (w : World) (hlim : s.size ≤ 281474976710656) (hv : w.cell? ⟨0, 0, none⟩ = some ev) (hev : ev = .nilIface ∨ ∃ te pe, ev = .iface te pe) :
    Calls Tryd.prog 12 #[.string fn, .string s, .int .i64 base, .int .i64 bits, .iface 33 (.int .i64 2)] w fun e w' => ∃ N, e = .returned (.iface 37 (.pointer (some ⟨N, 0, none⟩))) ∧ w.heap.size ≤ N ∧ w'.heap[N]? = some (.cells #[.string fn, .string s, ev] 42 (0, 0)) ∧ Below w.heap.size w w' := Any.strconv_toError_syntax Tryd.laysC245 fn s base bits ev w hlim hv hev
def Tryd.lays321_ren : Go.Shelf.Ren := ⟨fun | 321 => 13 | n => n, fun | 5 => 5 | n => n, fun | n => n⟩
theorem Tryd.lays321 : Go.Proofs.Lays.n321 Tryd.prog Tryd.lays321_ren := {
  mixed := by kernel_rfl
  f321 := Tryd.func13.trans (congrArg some (by kernel_rfl))
  t5 := Tryd.underlying5
  a5 := Tryd.isAgg5
  z5 := Tryd.sizeOf5
  v5 := Tryd.zeroValue5 }
open Go.RowKit in
/-- internal/strconv.lower: 'c | ('x' - 'X')': the bit 32 set. The world is as it was. (LAID: no walk: one application.) -/
theorem Tryd.internal_strconv_lower (c : Int) (w : World) :
    Calls Tryd.prog 13 #[.int .u8 c] w fun e w' => e = .returned (.int .u8 (bits .or .u8 c 32)) ∧ w' = w := Any.internal_strconv_lower Tryd.lays321 c w
end Go.Proofs
