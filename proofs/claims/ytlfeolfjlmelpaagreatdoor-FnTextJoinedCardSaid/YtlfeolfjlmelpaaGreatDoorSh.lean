/-
  DERIVED: THE SHELF's CONTRACTS AT THIS DUMP, IN PLAIN WORDS (tools/lay-plain.mjs out of 'TryzSel.lean', which tools/lay-shelf.mjs wrote): THE SAME DECLARATIONS UNDER THE SAME NAMES: 'import', 'namespace', 'open', 'def', 'theorem' AND NOTHING ELSE: no command of the shelf's: FOR A HAND-IN. Each laying: the table of numbers ('.._ren') and one theorem, a field a fact of the dump's own or the kernel's comparison; each contract: ONE APPLICATION.
-/
import Derived.Shelf.LaysM
import Derived.Shelf.LaysC
import Derived.Shelf.Strconv.Itoa0
import Derived.Shelf.Strconv.Itoa1
import Derived.Shelf.Strconv.SyntaxError
import Derived.Shelf.Strconv.ToError
import Derived.Shelf.Strconv.RangeError
import Derived.Shelf.Strconv.ToErrorRange
import Derived.Shelf.Bits.Mul64
import Derived.Test.YtlfeolfjlmelpaaGreatDoorProg
namespace Go.Proofs
open Go.Shelf
def Tryz.lays129_ren : Go.Shelf.Ren := ⟨fun | 129 => 222 | n => n, fun | 53 => 22 | 3 => 3 | 4 => 4 | 46 => 126 | 5 => 5 | 9 => 9 | n => n, fun | n => n⟩
theorem Tryz.lays129 : Go.Proofs.Lays.n129 Tryz.prog Tryz.lays129_ren := {
  mixed := by kernel_rfl
  f129 := Tryz.func222.trans (congrArg some (by kernel_rfl))
  t3 := Tryz.underlying3
  a3 := Tryz.isAgg3
  z3 := Tryz.sizeOf3
  v3 := Tryz.zeroValue3
  t4 := Tryz.underlying4
  a4 := Tryz.isAgg4
  z4 := Tryz.sizeOf4
  v4 := Tryz.zeroValue4
  t5 := Tryz.underlying5
  a5 := Tryz.isAgg5
  z5 := Tryz.sizeOf5
  v5 := Tryz.zeroValue5
  t9 := Tryz.underlying9
  a9 := Tryz.isAgg9
  z9 := Tryz.sizeOf9
  v9 := Tryz.zeroValue9
  t46 := Tryz.underlying126
  a46 := Tryz.isAgg126
  z46 := Tryz.sizeOf126
  v46 := Tryz.zeroValue126
  t53 := Tryz.underlying22
  a53 := Tryz.isAgg22
  z53 := Tryz.sizeOf22
  v53 := Tryz.zeroValue22 }
/-- bits.Len64: "Len64 returns the minimum number of bits required to represent x; the result is 0 for x == 0.": IT RETURNS 'Lib.bitLen x'; the world is as it was. ('h0', 'h1': x is a uint64.) (LAID: no walk: one application.) -/
theorem Tryz.bits_Len64 (x : Int) (w : World) (h0 : 0 ≤ x) (h1 : x ≤ 18446744073709551615) :
    Calls Tryz.prog 222 #[.int .u64 x] w fun e w' => e = .returned (.int .i64 (Lib.bitLen x.toNat)) ∧ w' = w := Any.bits_Len64 Tryz.lays129 x w h0 h1
def Tryz.lays318_ren : Go.Shelf.Ren := ⟨fun | 318 => 223 | n => n, fun | 3 => 3 | 4 => 4 | n => n, fun | n => n⟩
theorem Tryz.lays318 : Go.Proofs.Lays.n318 Tryz.prog Tryz.lays318_ren := {
  mixed := by kernel_rfl
  f318 := Tryz.func223.trans (congrArg some (by kernel_rfl))
  t3 := Tryz.underlying3
  a3 := Tryz.isAgg3
  z3 := Tryz.sizeOf3
  v3 := Tryz.zeroValue3
  t4 := Tryz.underlying4
  a4 := Tryz.isAgg4
  z4 := Tryz.sizeOf4
  v4 := Tryz.zeroValue4 }
open Go.Lib in
/-- internal/strconv.bool2: "bool2 converts b to an integer: 1 for true, 0 for false." The world is as it was. (LAID: no walk: one application.) -/
theorem Tryz.internal_strconv_bool2_int (b : Bool) (w : World) :
    Calls Tryz.prog 223 #[.bool b] w fun e w' => e = .returned (.int .i64 (if b then 1 else 0)) ∧ w' = w := Any.internal_strconv_bool2_int Tryz.lays318 b w
def Tryz.laysC245_ren : Go.Shelf.Ren := ⟨fun | 245 => 138 | 279 => 184 | 280 => 185 | 281 => 186 | 282 => 187 | 316 => 212 | 171 => 214 | 205 => 213 | 243 => 237 | 246 => 271 | 283 => 195 | 284 => 196 | 285 => 197 | 286 => 198 | 129 => 222 | 317 => 221 | 318 => 223 | 319 => 224 | 320 => 225 | 337 => 254 | 338 => 255 | n => n, fun | 9 => 9 | 3 => 3 | 75 => 74 | 167 => 245 | 4 => 4 | 168 => 176 | 210 => 178 | 37 => 28 | 0 => 0 | 127 => 249 | 145 => 291 | 143 => 289 | 2 => 2 | 171 => 260 | 53 => 22 | 5 => 5 | 173 => 263 | 212 => 276 | 51 => 23 | 20 => 20 | 213 => 277 | 46 => 126 | 232 => 319 | 233 => 346 | 80 => 79 | n => n, fun | 15 => 7 | 16 => 1 | 17 => 9 | 18 => 17 | 19 => 18 | n => n⟩
theorem Tryz.laysC245 : Go.Proofs.LaysC.n245 Tryz.prog Tryz.laysC245_ren := {
  mixed := by kernel_rfl
  f129 := Tryz.func222.trans (congrArg some (by kernel_rfl))
  f171 := Tryz.func214.trans (congrArg some (by kernel_rfl))
  f205 := Tryz.func213.trans (congrArg some (by kernel_rfl))
  f243 := Tryz.func237.trans (congrArg some (by kernel_rfl))
  f245 := Tryz.func138.trans (congrArg some (by kernel_rfl))
  f246 := Tryz.func271.trans (congrArg some (by kernel_rfl))
  f279 := Tryz.func184.trans (congrArg some (by kernel_rfl))
  f280 := Tryz.func185.trans (congrArg some (by kernel_rfl))
  f281 := Tryz.func186.trans (congrArg some (by kernel_rfl))
  f282 := Tryz.func187.trans (congrArg some (by kernel_rfl))
  f283 := Tryz.func195.trans (congrArg some (by kernel_rfl))
  f284 := Tryz.func196.trans (congrArg some (by kernel_rfl))
  f285 := Tryz.func197.trans (congrArg some (by kernel_rfl))
  f286 := Tryz.func198.trans (congrArg some (by kernel_rfl))
  f316 := Tryz.func212.trans (congrArg some (by kernel_rfl))
  f317 := Tryz.func221.trans (congrArg some (by kernel_rfl))
  f318 := Tryz.func223.trans (congrArg some (by kernel_rfl))
  f319 := Tryz.func224.trans (congrArg some (by kernel_rfl))
  f320 := Tryz.func225.trans (congrArg some (by kernel_rfl))
  f337 := Tryz.func254.trans (congrArg some (by kernel_rfl))
  f338 := Tryz.func255.trans (congrArg some (by kernel_rfl))
  t0 := Tryz.underlying0
  a0 := Tryz.isAgg0
  z0 := Tryz.sizeOf0
  v0 := Tryz.zeroValue0
  t2 := Tryz.underlying2
  a2 := Tryz.isAgg2
  z2 := Tryz.sizeOf2
  v2 := Tryz.zeroValue2
  t3 := Tryz.underlying3
  a3 := Tryz.isAgg3
  z3 := Tryz.sizeOf3
  v3 := Tryz.zeroValue3
  t4 := Tryz.underlying4
  a4 := Tryz.isAgg4
  z4 := Tryz.sizeOf4
  v4 := Tryz.zeroValue4
  t5 := Tryz.underlying5
  a5 := Tryz.isAgg5
  z5 := Tryz.sizeOf5
  v5 := Tryz.zeroValue5
  t9 := Tryz.underlying9
  a9 := Tryz.isAgg9
  z9 := Tryz.sizeOf9
  v9 := Tryz.zeroValue9
  t20 := Tryz.underlying20
  a20 := Tryz.isAgg20
  z20 := Tryz.sizeOf20
  v20 := Tryz.zeroValue20
  t37 := Tryz.underlying28
  a37 := Tryz.isAgg28
  z37 := Tryz.sizeOf28
  v37 := Tryz.zeroValue28
  t46 := Tryz.underlying126
  a46 := Tryz.isAgg126
  z46 := Tryz.sizeOf126
  v46 := Tryz.zeroValue126
  t51 := Tryz.underlying23
  a51 := Tryz.isAgg23
  z51 := Tryz.sizeOf23
  v51 := Tryz.zeroValue23
  t53 := Tryz.underlying22
  a53 := Tryz.isAgg22
  z53 := Tryz.sizeOf22
  v53 := Tryz.zeroValue22
  t75 := Tryz.underlying74
  a75 := Tryz.isAgg74
  z75 := Tryz.sizeOf74
  v75 := Tryz.zeroValue74
  t127 := Tryz.underlying249
  a127 := Tryz.isAgg249
  z127 := Tryz.sizeOf249
  v127 := Tryz.zeroValue249
  t143 := Tryz.underlying289
  a143 := Tryz.isAgg289
  z143 := Tryz.sizeOf289
  v143 := Tryz.zeroValue289
  t145 := Tryz.underlying291
  a145 := Tryz.isAgg291
  z145 := Tryz.sizeOf291
  v145 := Tryz.zeroValue291
  t167 := Tryz.underlying245
  a167 := Tryz.isAgg245
  z167 := Tryz.sizeOf245
  v167 := Tryz.zeroValue245
  t168 := Tryz.underlying176
  a168 := Tryz.isAgg176
  z168 := Tryz.sizeOf176
  v168 := Tryz.zeroValue176
  t171 := Tryz.underlying260
  a171 := Tryz.isAgg260
  z171 := Tryz.sizeOf260
  v171 := Tryz.zeroValue260
  t173 := Tryz.underlying263
  a173 := Tryz.isAgg263
  z173 := Tryz.sizeOf263
  v173 := Tryz.zeroValue263
  t210 := Tryz.underlying178
  a210 := Tryz.isAgg178
  z210 := Tryz.sizeOf178
  v210 := Tryz.zeroValue178
  t212 := Tryz.underlying276
  a212 := Tryz.isAgg276
  z212 := Tryz.sizeOf276
  v212 := Tryz.zeroValue276
  t213 := Tryz.underlying277
  a213 := Tryz.isAgg277
  z213 := Tryz.sizeOf277
  t232 := Tryz.underlying319
  a232 := Tryz.isAgg319
  z232 := Tryz.sizeOf319
  v232 := Tryz.zeroValue319
  t233 := Tryz.underlying346
  a233 := Tryz.isAgg346
  z233 := Tryz.sizeOf346
  v233 := Tryz.zeroValue346
  g15 := by kernel_rfl
  g16 := by kernel_rfl
  g17 := by kernel_rfl
  g18 := by kernel_rfl
  g19 := by kernel_rfl
  t80 := Tryz.underlying79
  a80 := Tryz.isAgg79
  z80 := Tryz.sizeOf79
  v80 := Tryz.zeroValue79
  i0 := by kernel_rfl
  i2 := by kernel_rfl
  i3 := by kernel_rfl
  i4 := by kernel_rfl
  i5 := by kernel_rfl
  i9 := by kernel_rfl
  i20 := by kernel_rfl
  i37 := by kernel_rfl
  i46 := by kernel_rfl
  i51 := by kernel_rfl
  i53 := by kernel_rfl
  i75 := by kernel_rfl
  i80 := by kernel_rfl
  i127 := by kernel_rfl
  i143 := by kernel_rfl
  i145 := by kernel_rfl
  i167 := by kernel_rfl
  i168 := by kernel_rfl
  i171 := by kernel_rfl
  i173 := by kernel_rfl
  i210 := by kernel_rfl
  i212 := by kernel_rfl
  i232 := by kernel_rfl
  i233 := by kernel_rfl
  m15 := by kernel_rfl
  m16 := by kernel_rfl
  m17 := by kernel_rfl
  m18 := by kernel_rfl
  m19 := by kernel_rfl
  c0 := by kernel_rfl
  c2 := by kernel_rfl
  c3 := by kernel_rfl
  c4 := by kernel_rfl
  c5 := by kernel_rfl
  c9 := by kernel_rfl
  c20 := by kernel_rfl
  c37 := by kernel_rfl
  c46 := by kernel_rfl
  c51 := by kernel_rfl
  c53 := by kernel_rfl
  c75 := by kernel_rfl
  c80 := by kernel_rfl
  c127 := by kernel_rfl
  c143 := by kernel_rfl
  c145 := by kernel_rfl
  c167 := by kernel_rfl
  c168 := by kernel_rfl
  c171 := by kernel_rfl
  c173 := by kernel_rfl
  c210 := by kernel_rfl
  c212 := by kernel_rfl
  c213 := by kernel_rfl
  c232 := by kernel_rfl
  c233 := by kernel_rfl }
open Go.RowKit in
/-- strconv.toError, at the inner package's ErrSyntax: 'syntaxError(fn, s)' as an error: A *NumError IN A NEW BLOCK. (LAID: no walk: one application.) -/
theorem Tryz.strconv_toError_syntax (fn s : ByteArray) (base bits : Int) (ev : Value) (w : World) (hlim : s.size ≤ 281474976710656) (hv : w.cell? ⟨7, 0, none⟩ = some ev) (hev : ev = .nilIface ∨ ∃ te pe, ev = .iface te pe) :
    Calls Tryz.prog 138 #[.string fn, .string s, .int .i64 base, .int .i64 bits, .iface 245 (.int .i64 2)] w fun e w' => ∃ N, e = .returned (.iface 176 (.pointer (some ⟨N, 0, none⟩))) ∧ w.heap.size ≤ N ∧ w'.heap[N]? = some (.cells #[.string fn, .string s, ev] 178 (0, 0)) ∧ Below w.heap.size w w' := Any.strconv_toError_syntax Tryz.laysC245 fn s base bits ev w hlim hv hev
open Go.RowKit in
/-- strconv.toError, at the inner package's ErrRange: 'rangeError(fn, s)' as an error: A *NumError IN A NEW BLOCK. (LAID: no walk: one application.) -/
theorem Tryz.strconv_toError_range (fn s : ByteArray) (base bits : Int) (ev : Value) (w : World) (hlim : s.size ≤ 281474976710656) (hv : w.cell? ⟨1, 0, none⟩ = some ev) (hev : ev = .nilIface ∨ ∃ te pe, ev = .iface te pe) :
    Calls Tryz.prog 138 #[.string fn, .string s, .int .i64 base, .int .i64 bits, .iface 245 (.int .i64 1)] w fun e w' => ∃ N, e = .returned (.iface 176 (.pointer (some ⟨N, 0, none⟩))) ∧ w.heap.size ≤ N ∧ w'.heap[N]? = some (.cells #[.string fn, .string s, ev] 178 (0, 0)) ∧ Below w.heap.size w w' := Any.strconv_toError_range Tryz.laysC245 fn s base bits ev w hlim hv hev
def Tryz.lays264_ren : Go.Shelf.Ren := ⟨fun | 264 => 295 | n => n, fun | 53 => 22 | 46 => 126 | n => n, fun | n => n⟩
theorem Tryz.lays264 : Go.Proofs.Lays.n264 Tryz.prog Tryz.lays264_ren := {
  mixed := by kernel_rfl
  f264 := Tryz.func295.trans (congrArg some (by kernel_rfl))
  t46 := Tryz.underlying126
  a46 := Tryz.isAgg126
  z46 := Tryz.sizeOf126
  v46 := Tryz.zeroValue126
  t53 := Tryz.underlying22
  a53 := Tryz.isAgg22
  z53 := Tryz.sizeOf22
  v53 := Tryz.zeroValue22 }
open Go.RowKit Go.Lib in
theorem Tryz.bits_Mul64 (x y : Nat) (hx : x < 18446744073709551616) (hy : y < 18446744073709551616) (w : World) :
    Calls Tryz.prog 295 #[.int .u64 x, .int .u64 y] w fun e w' => e = .returned (.tuple #[.int .u64 ((x * y / 18446744073709551616 : Nat) : Int), .int .u64 ((x * y % 18446744073709551616 : Nat) : Int)]) ∧ w' = w := Any.bits_Mul64 Tryz.lays264 x y hx hy w
end Go.Proofs
