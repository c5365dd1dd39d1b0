/-
  DERIVED: THE SHELF's CONTRACTS AT THIS DUMP, IN PLAIN WORDS (tools/lay-plain.mjs out of 'TryzSel.lean', which tools/lay-shelf.mjs wrote): THE SAME DECLARATIONS UNDER THE SAME NAMES: 'import', 'namespace', 'open', 'def', 'theorem' AND NOTHING ELSE: no command of the shelf's: FOR A HAND-IN. Each laying: the table of numbers ('.._ren') and one theorem, a field a fact of the dump's own or the kernel's comparison; each contract: ONE APPLICATION.
-/
import Derived.Shelf.LaysM
import Derived.Shelf.Small.Bits
import Derived.Shelf.Unicode.Decode
import Derived.Shelf.Unicode.DecodeSlow
import Derived.Shelf.Unicode.DecodeAny
import Derived.Shelf.Strings.Builder1
import Derived.Shelf.Strings.Builder2
import Derived.Shelf.Strings.OnBuilder
import Derived.Shelf.Spec.DecodeRune
import Derived.Shelf.Bytes.SlTrim
import Derived.Test.YtlfeolfjlmelpaaGreatDoorProg
namespace Go.Proofs
open Go.Shelf
def Tryz.lays156_ren : Go.Shelf.Ren := ⟨fun | 156 => 181 | 165 => 142 | 166 => 143 | 169 => 145 | 240 => 188 | 241 => 189 | 276 => 215 | 277 => 216 | n => n, fun | 31 => 34 | 9 => 9 | 3 => 3 | 4 => 4 | 0 => 0 | 20 => 20 | 72 => 211 | 76 => 212 | 70 => 209 | 37 => 28 | 75 => 74 | 127 => 249 | 164 => 267 | 5 => 5 | 80 => 79 | n => n, fun | n => n⟩
theorem Tryz.lays156 : Go.Proofs.Lays.n156 Tryz.prog Tryz.lays156_ren := {
  mixed := by kernel_rfl
  f156 := Tryz.func181.trans (congrArg some (by kernel_rfl))
  f165 := Tryz.func142.trans (congrArg some (by kernel_rfl))
  f166 := Tryz.func143.trans (congrArg some (by kernel_rfl))
  f169 := Tryz.func145.trans (congrArg some (by kernel_rfl))
  f240 := Tryz.func188.trans (congrArg some (by kernel_rfl))
  f241 := Tryz.func189.trans (congrArg some (by kernel_rfl))
  f276 := Tryz.func215.trans (congrArg some (by kernel_rfl))
  f277 := Tryz.func216.trans (congrArg some (by kernel_rfl))
  t0 := Tryz.underlying0
  a0 := Tryz.isAgg0
  z0 := Tryz.sizeOf0
  v0 := Tryz.zeroValue0
  t3 := Tryz.underlying3
  a3 := Tryz.isAgg3
  z3 := Tryz.sizeOf3
  v3 := Tryz.zeroValue3
  t4 := Tryz.underlying4
  a4 := Tryz.isAgg4
  z4 := Tryz.sizeOf4
  v4 := Tryz.zeroValue4
  t9 := Tryz.underlying9
  a9 := Tryz.isAgg9
  z9 := Tryz.sizeOf9
  v9 := Tryz.zeroValue9
  t20 := Tryz.underlying20
  a20 := Tryz.isAgg20
  z20 := Tryz.sizeOf20
  v20 := Tryz.zeroValue20
  t31 := Tryz.underlying34
  a31 := Tryz.isAgg34
  z31 := Tryz.sizeOf34
  v31 := Tryz.zeroValue34
  t37 := Tryz.underlying28
  a37 := Tryz.isAgg28
  z37 := Tryz.sizeOf28
  v37 := Tryz.zeroValue28
  t70 := Tryz.underlying209
  a70 := Tryz.isAgg209
  z70 := Tryz.sizeOf209
  v70 := Tryz.zeroValue209
  t72 := Tryz.underlying211
  a72 := Tryz.isAgg211
  z72 := Tryz.sizeOf211
  v72 := Tryz.zeroValue211
  t75 := Tryz.underlying74
  a75 := Tryz.isAgg74
  z75 := Tryz.sizeOf74
  v75 := Tryz.zeroValue74
  t76 := Tryz.underlying212
  a76 := Tryz.isAgg212
  z76 := Tryz.sizeOf212
  v76 := Tryz.zeroValue212
  t127 := Tryz.underlying249
  a127 := Tryz.isAgg249
  z127 := Tryz.sizeOf249
  v127 := Tryz.zeroValue249
  t164 := Tryz.underlying267
  a164 := Tryz.isAgg267
  z164 := Tryz.sizeOf267
  v164 := Tryz.zeroValue267 }
theorem Tryz.Builder_Extra_156 : Builder.Extra Tryz.prog Tryz.lays156_ren := {
  sizeBuilder := by kernel_rfl
  liesBuilder := by kernel_rfl
  t5 := Tryz.underlying5
  a5 := Tryz.isAgg5
  z5 := Tryz.sizeOf5
  v5 := Tryz.zeroValue5
  infoByte := by kernel_rfl
  cellsByte := by kernel_rfl
  sizeByte := by kernel_rfl
  neB5 := by decide }
open Go.RowKit in
/-- strings.Join: "Join concatenates the elements of its first argument to create a single string. The separator string sep is placed between elements in the resulting string.": HOWEVER MANY ELEMENTS. Below the heap's end the world is as it was. (LAID: no walk: one application.) -/
theorem Tryz.strings_Join (bk o c : Nat) (xs : List ByteArray) (sep : ByteArray) (w : World) (hcells : ∀ (j : Nat) x, xs[j]? = some x → w.cell? ⟨bk, o + j, none⟩ = some (.string x)) (hbk : bk < w.heap.size) (hN : xs.length ≤ 140737488355328) (hcap : xs.length ≤ c) (hlen : (Lib.join (xs.map (·.data.toList)) sep.data.toList).length ≤ 140737488355328) :
    Calls Tryz.prog 181 #[.slice (some ⟨bk, o, none⟩) xs.length c, .string sep] w fun e w' => e = .returned (.string ⟨(Lib.join (xs.map (·.data.toList)) sep.data.toList).toArray⟩) ∧ Below w.heap.size w w' := Any.strings_Join Tryz.lays156 Tryz.Builder_Extra_156 bk o c xs sep w hcells hbk hN hcap hlen
def Tryz.lays128_ren : Go.Shelf.Ren := ⟨fun | 128 => 103 | n => n, fun | 51 => 23 | 3 => 3 | 4 => 4 | 46 => 126 | 5 => 5 | 9 => 9 | n => n, fun | n => n⟩
theorem Tryz.lays128 : Go.Proofs.Lays.n128 Tryz.prog Tryz.lays128_ren := {
  mixed := by kernel_rfl
  f128 := Tryz.func103.trans (congrArg some (by kernel_rfl))
  t3 := Tryz.underlying3
  a3 := Tryz.isAgg3
  z3 := Tryz.sizeOf3
  v3 := Tryz.zeroValue3
  t4 := Tryz.underlying4
  a4 := Tryz.isAgg4
  z4 := Tryz.sizeOf4
  v4 := Tryz.zeroValue4
  t5 := Tryz.underlying5
  a5 := Tryz.isAgg5
  z5 := Tryz.sizeOf5
  v5 := Tryz.zeroValue5
  t9 := Tryz.underlying9
  a9 := Tryz.isAgg9
  z9 := Tryz.sizeOf9
  v9 := Tryz.zeroValue9
  t46 := Tryz.underlying126
  a46 := Tryz.isAgg126
  z46 := Tryz.sizeOf126
  v46 := Tryz.zeroValue126
  t51 := Tryz.underlying23
  a51 := Tryz.isAgg23
  z51 := Tryz.sizeOf23
  v51 := Tryz.zeroValue23 }
/-- bits.Len32: "Len32 returns the minimum number of bits required to represent x; the result is 0 for x == 0.": IT RETURNS 'Lib.bitLen x'; the world is as it was. ('h0', 'h1': x is a uint32.) (LAID: no walk: one application.) -/
theorem Tryz.bits_Len32 (x : Int) (w : World) (h0 : 0 ≤ x) (h1 : x ≤ 4294967295) :
    Calls Tryz.prog 103 #[.int .u32 x] w fun e w' => e = .returned (.int .i64 (Lib.bitLen x.toNat)) ∧ w' = w := Any.bits_Len32 Tryz.lays128 x w h0 h1
def Tryz.lays197_ren : Go.Shelf.Ren := ⟨fun | 197 => 102 | 260 => 149 | n => n, fun | 9 => 9 | 21 => 21 | 3 => 3 | 4 => 4 | 5 => 5 | 105 => 180 | 119 => 255 | 0 => 0 | 46 => 126 | 139 => 258 | 138 => 257 | n => n, fun | 3 => 5 | 4 => 6 | n => n⟩
theorem Tryz.lays197 : Go.Proofs.Lays.n197 Tryz.prog Tryz.lays197_ren := {
  mixed := by kernel_rfl
  f197 := Tryz.func102.trans (congrArg some (by kernel_rfl))
  f260 := Tryz.func149.trans (congrArg some (by kernel_rfl))
  t0 := Tryz.underlying0
  a0 := Tryz.isAgg0
  z0 := Tryz.sizeOf0
  v0 := Tryz.zeroValue0
  t3 := Tryz.underlying3
  a3 := Tryz.isAgg3
  z3 := Tryz.sizeOf3
  v3 := Tryz.zeroValue3
  t4 := Tryz.underlying4
  a4 := Tryz.isAgg4
  z4 := Tryz.sizeOf4
  v4 := Tryz.zeroValue4
  t5 := Tryz.underlying5
  a5 := Tryz.isAgg5
  z5 := Tryz.sizeOf5
  v5 := Tryz.zeroValue5
  t9 := Tryz.underlying9
  a9 := Tryz.isAgg9
  z9 := Tryz.sizeOf9
  v9 := Tryz.zeroValue9
  t21 := Tryz.underlying21
  a21 := Tryz.isAgg21
  z21 := Tryz.sizeOf21
  v21 := Tryz.zeroValue21
  t46 := Tryz.underlying126
  a46 := Tryz.isAgg126
  z46 := Tryz.sizeOf126
  v46 := Tryz.zeroValue126
  t105 := Tryz.underlying180
  a105 := Tryz.isAgg180
  z105 := Tryz.sizeOf180
  v105 := Tryz.zeroValue180
  t119 := Tryz.underlying255
  a119 := Tryz.isAgg255
  z119 := Tryz.sizeOf255
  t138 := Tryz.underlying257
  a138 := Tryz.isAgg257
  z138 := Tryz.sizeOf257
  v138 := Tryz.zeroValue257
  t139 := Tryz.underlying258
  a139 := Tryz.isAgg258
  z139 := Tryz.sizeOf258
  v139 := Tryz.zeroValue258
  g3 := by kernel_rfl
  g4 := by kernel_rfl }
open Go.RowKit Go.Lib in
/-- **unicode/utf8.DecodeRuneInString AT EVERY STRING.** (LAID: no walk: one application.) -/
theorem Tryz.utf8_DecodeRuneInString (s : ByteArray) (w : World) (hT : Lib.Utf8Tabs 5 6 w) :
    Calls Tryz.prog 102 #[.string s] w fun e w' => e = .returned (.tuple #[.int .i32 (Lib.decodeGo s).1, .int .i64 (Lib.decodeGo s).2]) ∧ Below w.heap.size w w' := Any.utf8_DecodeRuneInString Tryz.lays197 s w hT
def Tryz.lays7n32_ren : Go.Shelf.Ren := ⟨fun | 32 => 179 | 49 => 209 | n => n, fun | 30 => 28 | 21 => 21 | 3 => 3 | 0 => 0 | 5 => 5 | 4 => 4 | 33 => 180 | 66 => 255 | 25 => 126 | 69 => 258 | 68 => 257 | n => n, fun | 2 => 5 | 3 => 6 | n => n⟩
theorem Tryz.lays7n32 : Go.Proofs.Lays7.n32 Tryz.prog Tryz.lays7n32_ren := {
  mixed := by kernel_rfl
  f32 := Tryz.func179.trans (congrArg some (by kernel_rfl))
  f49 := Tryz.func209.trans (congrArg some (by kernel_rfl))
  t0 := Tryz.underlying0
  a0 := Tryz.isAgg0
  z0 := Tryz.sizeOf0
  v0 := Tryz.zeroValue0
  i0 := by kernel_rfl
  t3 := Tryz.underlying3
  a3 := Tryz.isAgg3
  z3 := Tryz.sizeOf3
  v3 := Tryz.zeroValue3
  i3 := by kernel_rfl
  t4 := Tryz.underlying4
  a4 := Tryz.isAgg4
  z4 := Tryz.sizeOf4
  v4 := Tryz.zeroValue4
  i4 := by kernel_rfl
  t5 := Tryz.underlying5
  a5 := Tryz.isAgg5
  z5 := Tryz.sizeOf5
  v5 := Tryz.zeroValue5
  i5 := by kernel_rfl
  t21 := Tryz.underlying21
  a21 := Tryz.isAgg21
  z21 := Tryz.sizeOf21
  v21 := Tryz.zeroValue21
  i21 := by kernel_rfl
  t25 := Tryz.underlying126
  a25 := Tryz.isAgg126
  z25 := Tryz.sizeOf126
  v25 := Tryz.zeroValue126
  i25 := by kernel_rfl
  t30 := Tryz.underlying28
  a30 := Tryz.isAgg28
  z30 := Tryz.sizeOf28
  v30 := Tryz.zeroValue28
  i30 := by kernel_rfl
  t33 := Tryz.underlying180
  a33 := Tryz.isAgg180
  z33 := Tryz.sizeOf180
  v33 := Tryz.zeroValue180
  i33 := by kernel_rfl
  t66 := Tryz.underlying255
  a66 := Tryz.isAgg255
  z66 := Tryz.sizeOf255
  t68 := Tryz.underlying257
  a68 := Tryz.isAgg257
  z68 := Tryz.sizeOf257
  v68 := Tryz.zeroValue257
  i68 := by kernel_rfl
  t69 := Tryz.underlying258
  a69 := Tryz.isAgg258
  z69 := Tryz.sizeOf258
  v69 := Tryz.zeroValue258
  i69 := by kernel_rfl
  g2 := by kernel_rfl
  g3 := by kernel_rfl }
theorem Tryz.utf8_DecodeRune (s : ByteArray) (b off cap : Nat) (w : World) (hT : Lib.Utf8Tabs 5 6 w)
    (hp : ∀ j, j < s.size → w.cell? ⟨b, off + j, none⟩ = some (.int .u8 (s.get! j).toNat)) :
    Calls Tryz.prog 179 #[.slice (some ⟨b, off, none⟩) s.size cap] w fun e w' => e = .returned (.tuple #[.int .i32 (Lib.decodeGo s).1, .int .i64 (Lib.decodeGo s).2]) ∧ Go.RowKit.Below w.heap.size w w' := Any7.utf8_DecodeRune Tryz.lays7n32 s b off cap w hT hp
def Tryz.slv8_ren : Go.Shelf.Ren := ⟨fun | 8 => 211 | 9 => 234 | 11 => 231 | 12 => 235 | 14 => 236 | 16 => 268 | 17 => 179 | 18 => 270 | 20 => 209 | n => n, fun | 22 => 28 | 9 => 9 | 3 => 3 | 4 => 4 | 5 => 5 | 28 => 285 | 27 => 284 | 0 => 0 | 31 => 288 | 33 => 180 | 21 => 21 | 36 => 255 | 37 => 126 | 40 => 258 | 39 => 257 | n => n, fun | 0 => 5 | 1 => 6 | n => n⟩
theorem Tryz.slv8 : Go.Proofs.SlLaysV.n8 Tryz.prog Tryz.slv8_ren := {
  mixed := by kernel_rfl
  f8 := Tryz.func211.trans (congrArg some (by kernel_rfl))
  f9 := Tryz.func234.trans (congrArg some (by kernel_rfl))
  f11 := Tryz.func231.trans (congrArg some (by kernel_rfl))
  f12 := Tryz.func235.trans (congrArg some (by kernel_rfl))
  f14 := Tryz.func236.trans (congrArg some (by kernel_rfl))
  f16 := Tryz.func268.trans (congrArg some (by kernel_rfl))
  f17 := Tryz.func179.trans (congrArg some (by kernel_rfl))
  f18 := Tryz.func270.trans (congrArg some (by kernel_rfl))
  f20 := Tryz.func209.trans (congrArg some (by kernel_rfl))
  t0 := Tryz.underlying0
  a0 := Tryz.isAgg0
  z0 := Tryz.sizeOf0
  v0 := Tryz.zeroValue0
  t3 := Tryz.underlying3
  a3 := Tryz.isAgg3
  z3 := Tryz.sizeOf3
  v3 := Tryz.zeroValue3
  t4 := Tryz.underlying4
  a4 := Tryz.isAgg4
  z4 := Tryz.sizeOf4
  v4 := Tryz.zeroValue4
  t5 := Tryz.underlying5
  a5 := Tryz.isAgg5
  z5 := Tryz.sizeOf5
  v5 := Tryz.zeroValue5
  t9 := Tryz.underlying9
  a9 := Tryz.isAgg9
  z9 := Tryz.sizeOf9
  v9 := Tryz.zeroValue9
  t21 := Tryz.underlying21
  a21 := Tryz.isAgg21
  z21 := Tryz.sizeOf21
  v21 := Tryz.zeroValue21
  t22 := Tryz.underlying28
  a22 := Tryz.isAgg28
  z22 := Tryz.sizeOf28
  v22 := Tryz.zeroValue28
  t27 := Tryz.underlying284
  a27 := Tryz.isAgg284
  z27 := Tryz.sizeOf284
  t28 := Tryz.underlying285
  a28 := Tryz.isAgg285
  z28 := Tryz.sizeOf285
  v28 := Tryz.zeroValue285
  t31 := Tryz.underlying288
  a31 := Tryz.isAgg288
  z31 := Tryz.sizeOf288
  v31 := Tryz.zeroValue288
  t33 := Tryz.underlying180
  a33 := Tryz.isAgg180
  z33 := Tryz.sizeOf180
  v33 := Tryz.zeroValue180
  t36 := Tryz.underlying255
  a36 := Tryz.isAgg255
  z36 := Tryz.sizeOf255
  t37 := Tryz.underlying126
  a37 := Tryz.isAgg126
  z37 := Tryz.sizeOf126
  v37 := Tryz.zeroValue126
  t39 := Tryz.underlying257
  a39 := Tryz.isAgg257
  z39 := Tryz.sizeOf257
  v39 := Tryz.zeroValue257
  t40 := Tryz.underlying258
  a40 := Tryz.isAgg258
  z40 := Tryz.sizeOf258
  v40 := Tryz.zeroValue258 }
theorem Tryz.info27 : (Tryz.prog.info? (Tryz.slv8_ren.t 27)).map (fun i => (i.zero, i.size)) = some (some (.agg (Array.replicate 256 (.bool false))), 256) := by kernel_rfl
theorem Tryz.bytes_TrimLeft (p : Option Addr) (n c : Nat) (bs : List UInt8) (cutset : ByteArray) (w : World)
    (hb : bs.length = n) (hnc : n ≤ c) (hbig : c ≤ 9223372036854775807) (h1 : Lib.BytesAt w p n bs) (hcs : cutset.size < 4294967281) (hascii : ∀ (j : Nat) b, cutset.data.toList[j]? = some b → b.toNat < 128) :
    Calls Tryz.prog 211 #[.slice p n c, .string cutset] w fun e w' => e = .returned (Lib.leftV p n c (n - (Lib.trimLeftS bs cutset.data.toList).length)) ∧ Go.RowKit.Below w.heap.size w w' := Any.bytes_TrimLeft_ascii Tryz.slv8 (zero_of_info Tryz.info27).1 (zero_of_info Tryz.info27).2 p n c bs cutset w hb hnc hbig h1 hcs hascii
end Go.Proofs
