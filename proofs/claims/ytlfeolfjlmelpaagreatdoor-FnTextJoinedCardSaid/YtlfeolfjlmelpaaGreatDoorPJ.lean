/- text.Decoder.parseString at a written string: the walk up to its five arms. -/
import Derived.Test.YtlfeolfjlmelpaaGreatDoorPI
import Derived.Test.YtlfeolfjlmelpaaGreatDoorKC
import Derived.Deep.RegionHeld3
namespace Go.Proofs.YtlfeolfjlmelpaaGreatDoor
open Go.RowKit

/-- s[i:]. -/
theorem IsB.cutI {w : World} {A : Option Addr} {c : Nat} {xs : List UInt8} (h : IsB w A c xs) (m N : Nat) (i : Int) (hi : i = m) (hN : N = xs.length) (hm : m ≤ xs.length) :
    ∃ A' c', IsB w A' c' (xs.drop m) ∧ ∀ (W : World) (k : IntKind), (Instr.slice 28 (.slice A N c) (some (.int k i)) none none).run Tryz.prog W = .ok (.slice A' (xs.drop m).length c') W := by
  subst hi hN
  exact h.cut m hm
/-- s[:i]. -/
theorem IsB.upto {w : World} {b o c : Nat} {xs : List UInt8} (h : IsB w (some ⟨b, o, none⟩) c xs) (m N : Nat) (i : Int) (hi : i = m) (hN : N = xs.length) (hm : m ≤ xs.length) :
    ∀ (W : World) (k : IntKind), (Instr.slice 28 (.slice (some ⟨b, o, none⟩) N c) none (some (.int k i)) none).run Tryz.prog W = .ok (.slice (some ⟨b, o, none⟩) m c) W := by
  subst hi hN
  intro W k
  have h1 := h.le
  obtain ⟨i0, hi, hz0, hz1, hz2⟩ := info_parts info5
  rw [run_slice_h W 28 (some ⟨b, o, none⟩) xs.length c und28 k (m : Int) (Int.natCast_nonneg _) (by omega), elem28]
  simp [sizeOf, typeInfo, hi, hz1, sliced, Result.andThen]
  intro _
  rw [addr_addn, Nat.add_zero]

theorem EncR.len {x y : List UInt8} (h : EncR x y) : x.length ≤ y.length := by
  induction h with
  | nil => exact Nat.le_refl _
  | plain c hc h ih => simp only [List.length_cons]; omega
  | rune c t R hc hd hR h0 h1 h2 h3 h ih => simp only [List.length_cons, List.length_append]; omega
  | esc q c hq h ih => simp only [List.length_cons]; omega
  | hex c h ih => simp only [List.length_cons]; omega
  | uni c hc h ih => simp only [List.length_cons]; omega
theorem step_appN {ops : Array Oper} {o : Oper} {a : Act} {w : World} {K : Act → World → Prop} {Q : Exit → Act → World → Prop} {E : Prop} (hgd : o.guard = none) (s x : Operand)
    (ho : o.op = .call { callee := .builtin .append, args := #[s, x], argTypes := #[28, 28] }) {B : Nat} {v : Value} {l : List UInt8} {W0 : World} (hb : Out B v l W0 w) (hs : a.eval s = v)
    (bs : List UInt8) (m : Nat) (hm : m = bs.length) (ad : Addr) (c : Nat) (hx : a.eval x = .slice (some ad) m c) (hne : bs ≠ []) (hcells : ∀ j u, (bs.map by8)[j]? = some u → w.cell? (ad.add j) = some u) (hlen : l.length + bs.length ≤ 1000000000)
    (h : ∀ v' w', Buf B v' (l ++ bs) W0 w' → K (a.put o.dst v') w') : if Region.wanted o (yielded ops a.tmps) = true then Oper.wp Tryz.prog o a w K Q else E := by
  subst hm
  exact step_app hgd s x ho hb hs bs ad c hx hne hcells hlen h

theorem EncR.five {x y : List UInt8} (h : EncR x y) : (x = [] ∧ y = []) ∨
    (∃ (P : List UInt8) (R : Nat) (xx yy : List UInt8), x = P ++ xx ∧ y = P ++ yy ∧ 1 ≤ P.length ∧ (∀ s, Lib.decodeL (P ++ s) = (R, P.length)) ∧ ¬ (R = 65533 ∧ P.length = 1) ∧ R ≠ 0 ∧ R ≠ 10 ∧ R ≠ 34 ∧ R ≠ 92 ∧ EncR xx yy) ∨
    (∃ (q c : UInt8) (xx yy : List UInt8), x = c :: xx ∧ y = 92 :: q :: yy ∧ ((q = 34 ∧ c = 34) ∨ (q = 92 ∧ c = 92) ∨ (q = 110 ∧ c = 10) ∨ (q = 114 ∧ c = 13) ∨ (q = 116 ∧ c = 9)) ∧ EncR xx yy) ∨
    (∃ (c : UInt8) (xx yy : List UInt8), x = c :: xx ∧ y = 92 :: 120 :: hx (c.toNat / 16) :: hx (c.toNat % 16) :: yy ∧ EncR xx yy) ∨
    (∃ (c : UInt8) (xx yy : List UInt8), x = 194 :: c :: xx ∧ y = 92 :: 117 :: 48 :: 48 :: hx (c.toNat / 16) :: hx (c.toNat % 16) :: yy ∧ (128 ≤ c.toNat ∧ c.toNat ≤ 159) ∧ EncR xx yy) := by
  cases h with
  | nil => exact .inl ⟨rfl, rfl⟩
  | plain c hc h =>
    refine .inr (.inl ⟨[c], c.toNat, _, _, rfl, rfl, by simp, fun s => dec_ascii c s (by unfold isPl at hc; omega), ?_, ?_, ?_, ?_, ?_, h⟩)
    all_goals (unfold isPl at hc; omega)
  | rune c t R hc hd hR h0 h1 h2 h3 h => exact .inr (.inl ⟨c :: t, R, _, _, rfl, rfl, by simp, hd, hR, h0, h1, h2, h3, h⟩)
  | esc q c hq h =>
    refine .inr (.inr (.inl ⟨q, c, _, _, rfl, rfl, ?_, h⟩))
    rcases hq with ⟨h1, h2⟩ | ⟨h1, h2⟩ | ⟨h1, h2⟩ | ⟨h1, h2⟩ | ⟨h1, h2⟩
    · exact .inl ⟨u8_of_nat h1, u8_of_nat h2⟩
    · exact .inr (.inl ⟨u8_of_nat h1, u8_of_nat h2⟩)
    · exact .inr (.inr (.inl ⟨u8_of_nat h1, u8_of_nat h2⟩))
    · exact .inr (.inr (.inr (.inl ⟨u8_of_nat h1, u8_of_nat h2⟩)))
    · exact .inr (.inr (.inr (.inr ⟨u8_of_nat h1, u8_of_nat h2⟩)))
  | hex c h => exact .inr (.inr (.inr (.inl ⟨c, _, _, rfl, rfl, h⟩)))
  | uni c hc h => exact .inr (.inr (.inr (.inr ⟨c, _, _, rfl, rfl, hc, h⟩)))

theorem IsB.midI {w : World} {b o c : Nat} {xs : List UInt8} (h : IsB w (some ⟨b, o, none⟩) c xs) (lo n N : Nat) (i j : Int) (hi : i = lo) (hj : j = (lo + n : Nat)) (hN : N = xs.length) (hn : lo + n ≤ xs.length) :
    ∃ A' c', IsB w A' c' ((xs.drop lo).take n) ∧ ∀ (W : World) (k1 k2 : IntKind), (Instr.slice 28 (.slice (some ⟨b, o, none⟩) N c) (some (.int k1 i)) (some (.int k2 j)) none).run Tryz.prog W = .ok (.slice A' ((xs.drop lo).take n).length c') W := by
  subst hi hj hN
  exact h.mid lo n hn
def hexSet : ByteArray := ⟨#[48, 49, 50, 51, 52, 53, 54, 55, 56, 57, 97, 98, 99, 100, 101, 102, 65, 66, 67, 68, 69, 70]⟩
theorem hx_in {d : Nat} (h : d < 16) : hexSet.data.toList.contains (hx d) = true := by
  have h : d = 0 ∨ d = 1 ∨ d = 2 ∨ d = 3 ∨ d = 4 ∨ d = 5 ∨ d = 6 ∨ d = 7 ∨ d = 8 ∨ d = 9 ∨ d = 10 ∨ d = 11 ∨ d = 12 ∨ d = 13 ∨ d = 14 ∨ d = 15 := by omega
  rcases h with rfl | rfl | rfl | rfl | rfl | rfl | rfl | rfl | rfl | rfl | rfl | rfl | rfl | rfl | rfl | rfl <;> decide
theorem hexSet_asc : ∀ (j : Nat) (b : UInt8), hexSet.data.toList[j]? = some b → b.toNat < 128 := fun j b h =>
  (by decide : ∀ x ∈ ([48, 49, 50, 51, 52, 53, 54, 55, 56, 57, 97, 98, 99, 100, 101, 102, 65, 66, 67, 68, 69, 70] : List UInt8), x.toNat < 128) b (List.mem_of_getElem? h)
theorem enc_two (c : UInt8) (h1 : 128 ≤ c.toNat) (h2 : c.toNat ≤ 159) : Utf8.encode (c.toNat : Int) = ⟨#[194, c]⟩ := by
  have h : c.toNat = 128 ∨ c.toNat = 129 ∨ c.toNat = 130 ∨ c.toNat = 131 ∨ c.toNat = 132 ∨ c.toNat = 133 ∨ c.toNat = 134 ∨ c.toNat = 135 ∨ c.toNat = 136 ∨ c.toNat = 137 ∨ c.toNat = 138 ∨ c.toNat = 139 ∨ c.toNat = 140 ∨ c.toNat = 141 ∨ c.toNat = 142 ∨ c.toNat = 143 ∨ c.toNat = 144 ∨ c.toNat = 145 ∨ c.toNat = 146 ∨ c.toNat = 147 ∨ c.toNat = 148 ∨ c.toNat = 149 ∨ c.toNat = 150 ∨ c.toNat = 151 ∨ c.toNat = 152 ∨ c.toNat = 153 ∨ c.toNat = 154 ∨ c.toNat = 155 ∨ c.toNat = 156 ∨ c.toNat = 157 ∨ c.toNat = 158 ∨ c.toNat = 159 := by omega
  rcases h with h | h | h | h | h | h | h | h | h | h | h | h | h | h | h | h | h | h | h | h | h | h | h | h | h | h | h | h | h | h | h | h <;> (obtain rfl := u8_of_nat h; decide)
theorem trim_hex (a d : Nat) (ha : a < 16) (hd : d < 16) (t : List UInt8) : (Lib.trimLeftS (hx a :: hx d :: t) hexSet.data.toList).length ≤ t.length := by
  unfold Lib.trimLeftS
  rw [List.dropWhile_cons_of_pos (hx_in ha), List.dropWhile_cons_of_pos (hx_in hd)]
  exact (List.dropWhile_sublist _).length_le
set_option maxRecDepth 1000000 in
theorem isSur_no {w : World} (r : Int) (h1 : r < 55296) : Calls Tryz.prog 203 #[.int .i32 r] w fun e w' => e = .returned (.bool false) ∧ w' = w := by
  have h : ¬ (55296 ≤ r) := by omega
  go_enter Tryz.func203, Tryz.ntmps203
  go_wp2
  go_ret
  exact ⟨rfl, rfl⟩
theorem IsB.addr {w : World} {A : Option Addr} {c : Nat} {xs : List UInt8} (h : IsB w A c xs) (hne : xs ≠ []) : ∃ b o, A = some ⟨b, o, none⟩ := by
  obtain ⟨b, o, e, -⟩ := h.get hne
  exact ⟨b, o, e⟩
theorem IsB.cells {w : World} {b o c : Nat} {xs : List UInt8} (h : IsB w (some ⟨b, o, none⟩) c xs) (m : Nat) (W : World) (hW : ∀ a v, w.cell? a = some v → W.cell? a = some v) :
    ∀ j u, ((xs.take m).map by8)[j]? = some u → W.cell? ((⟨b, o, none⟩ : Addr).add j) = some u := by
  intro j u hj
  rw [List.getElem?_map] at hj
  cases hq : (xs.take m)[j]? with
  | none => rw [hq] at hj; simp at hj
  | some y =>
    rw [hq] at hj
    obtain ⟨h1, h2⟩ := List.getElem?_eq_some_iff.1 hq
    simp only [List.length_take] at h1
    obtain ⟨b', o', e, hk⟩ := h.get (by rintro rfl; simp at h1)
    cases e
    rw [addr_addn]
    have := hk j (by omega)
    rw [hW _ _ this]
    simp only [List.getElem_take] at h2
    rw [h2]; simpa using hj

set_option maxHeartbeats 40000000 in
set_option maxRecDepth 1000000 in
noncomputable def pjA {w2 : World} {g : Nat} {lc tk ta tn tp tr ts le os og : Value} {c b0 o0 K N2 : Nat} {u x2 y2 rest : List UInt8} : Σ' (A1 A2 A3 A4 A5 : Prop), (Hid A1 → Hid A2 → Hid A3 → Hid A4 → Hid A5 →
    (hcell0 : w2.cell? ⟨b0, o0, none⟩ = some (.int .u8 34)) → (d10 : w2.cell? ⟨g, 10, none⟩ = some (.slice (some ⟨b0, o0, none⟩) (K + N2 + 1) c)) → (hle0 : K + N2 + 1 ≤ c) → (hl : K + N2 + 1 ≤ 1000000) → (hcap0 : c ≤ 9223372036854775807) → (HXL : Hid ((u ++ x2).length ≤ 1000000)) → (HO : Hid (Out w2.heap.size (.slice (some ⟨b0, o0 + 1, none⟩) K K) u w2 w2)) → (HI : Hid (Calls Tryz.prog 210 #[.slice (some ⟨b0, o0 + 1, none⟩) (K + N2) (c - 1)] w2 fun e w' => e = .returned (.int .i64 (K : Nat)) ∧ w2 = w')) → (hNp : 0 < N2) → (HNr : Hid (N2 = y2.length + rest.length + 1)) → (H : Hid (IsB w2 (some ⟨b0, o0, none⟩) c (34 :: ((u ++ y2) ++ 34 :: rest)))) → (HD : Hid (HasDec w2 g lc tk ta tn tp tr ts le os og (.slice (some ⟨b0, o0, none⟩) (34 :: ((u ++ y2) ++ 34 :: rest)).length c))) → (HU : Hid (HasU w2)) → (HB : Hid (IsB w2 (some ⟨b0, o0 + 1 + K, none⟩) (c - 1 - K) (y2 ++ 34 :: rest))) → (HE : Hid (EncR x2 y2)) → (HNN2 : Hid ((y2 ++ 34 :: rest).length = N2)) → (HUL : Hid (u.length = K)) → (HL0 : Hid ((34 :: ((u ++ y2) ++ 34 :: rest)).length ≤ 1000001)) → (hKi : (0 : Int) ≤ (K : Int)) → (hKj : (K : Int) ≤ (K : Int) + (N2 : Int)) →
    Calls Tryz.prog 180 #[.pointer (some ⟨g, 0, none⟩)] w2 fun e w' => e = .returned (.tuple #[.string ⟨(u ++ x2).toArray⟩, .nilIface]) ∧ ∃ A' c', IsB w' A' c' (skip rest) ∧
      HasDec w' g lc tk ta tn tp tr ts le os og (.slice A' (skip rest).length c') ∧ w2.grownBy w' (some g)) := by
  refine ⟨?A1, ?A2, ?A3, ?A4, ?A5, fun k1 k2 k3 k4 k5 => ?M⟩
  case M =>
    intro hcell0 d10 hle0 hl hcap0 HXL HO HI hNp HNr H HD HU HB HE HNN2 HUL HL0 hKi hKj
    go_enter Tryz.func180, Tryz.ntmps180
    go_wp2_with fail
    refine HI.out.mono ?_
    clear HI
    rintro e w2x ⟨rfl, rfl⟩
    go_upto_region 7 with fail
    go_quiet (fail)
    rename_i nq
    have HO1 := Lib.hid (HO.out.kept (gr_drewN (gr_refl w2 none) nq))
    have HB1 := HB
    clear HO HB hcell0 d10
    generalize w2.drewN nq = w3 at HO1 ⊢
    go_wp2_with fail
    go_loopg [4, 7] (N2 + 1) (fun gk i o wr => ∃ (v : Value) (x0 x1 y1 : List UInt8) (b p cc N : Nat), i = .slice (some ⟨b, p, none⟩) N cc ∧ o = v ∧ N < gk ∧ 0 < N ∧ N ≤ cc ∧ cc ≤ 9223372036854775807 ∧ N ≤ 1000000 ∧ Hid (N = (y1 ++ 34 :: rest).length) ∧ Hid (IsB w2 (some ⟨b, p, none⟩) cc (y1 ++ 34 :: rest)) ∧ Hid (Out w2.heap.size v x0 w2 wr) ∧ Hid (u ++ x2 = x0 ++ x1) ∧ Hid (EncR x1 y1))
    case atStart =>
      have h1 := HB1.out.le
      have h2 := HB1.out.cap
      rw [HNN2.out] at h1
      refine ⟨_, u, x2, y2, b0, _, _, N2, rfl, rfl, by omega, by omega, h1, h2, by omega, Lib.hid HNN2.out.symm, HB1, HO1, Lib.hid rfl, HE⟩
    case round =>
      obtain ⟨v, x0, x1, y1, b, p, cc, N, rfl, rfl, hgk, hN0, hNc, hcc, hNm, HN, HB0, HO, HX, HE1⟩ := hrel
      have HB := Lib.hid (HB0.out.kept0 HO.out.gr)
      clear HB1 HO1 HE HNN2 HUL HNr
      rcases HE1.out.five with ⟨rfl, rfl⟩ | ⟨P, R, xx, yy, rfl, rfl, hP1, hdd, hRR, hq0, hq10, hq34, hq92, hh⟩ | ⟨q, ch, xx, yy, rfl, rfl, hq, hh⟩ | ⟨ch, xx, yy, rfl, rfl, hh⟩ | ⟨ch, xx, yy, rfl, rfl, hc, hh⟩
      · 
        rename_i h0 Q1 K1 aa1 J1 K2 aa2 aa3
        revert hle0 hl hcap0 HXL hNp H HD HU HL0 hKi hKj h0 Q1 nq w3 K1 aa1 gk wr u2 u3 u7 u8 u9 u10 u11 u12 u13 u14 u15 u16 u17 u18 u19 u20 u21 u22 u23 u46 u47 u48 u49 u50 u51 u52 u53 u54 u55 u56 u57 u58 u59 u60 u61 u62 u63 u64 u65 u66 u67 u68 u69 u70 u71 u72 u73 u74 u75 u76 u77 u78 u79 u80 u81 u82 u83 u84 u85 u86 u87 u88 u89 u90 u91 u92 u93 u94 u95 u96 u97 u98 u99 u100 u101 u102 u103 u104 u105 u106 u107 u108 u109 u110 u111 u112 u113 u114 u115 u116 u117 u118 u119 u120 u121 u122 u123 u124 u125 u126 u127 u128 u129 u130 u131 u132 u133 u134 u135 u136 u137 u138 u139 u140 u141 u142 u143 u144 u145 u146 u147 u148 u149 u150 u151 u152 u153 u154 u155 u156 u157 u158 u159 u160 u161 u162 u163 u164 u165 u166 u167 u168 u169 u170 u171 u172 u173 u174 u175 u176 u177 u178 u179 u180 u181 u182 u183 u184 u185 u186 u187 u188 u189 u190 u191 u192 u193 u194 u195 u196 u197 u198 u199 u200 u201 u202 u203 u204 u205 u206 u207 u208 u209 u210 u211 u212 u213 u214 u215 u216 u217 u218 u219 u220 u221 u222 u223 u224 u225 u226 u227 u228 u229 u230 u231 u232 u233 u234 u235 u236 u237 u238 u239 u240 u241 u242 u243 u244 u245 u246 u247 u248 u249 u250 u251 u252 u253 u254 u255 u256 u257 u258 u259 u260 u261 u262 u263 u264 u265 u266 u267 u268 u269 u270 u271 u272 u273 u274 u275 u276 u277 u278 u279 u280 u281 u282 u283 u284 u285 u286 u287 u288 u289 u290 u291 u292 u293 u294 u295 u296 u297 u298 u299 u300 u301 u302 u303 u304 u305 u306 u307 u308 u309 u310 u311 u312 u313 u314 u315 u316 u317 u318 u319 u320 u321 u322 u323 u324 u325 u326 u327 u328 u329 u330 u331 u332 u333 u334 u335 u336 u337 u338 u339 u340 u341 u342 u343 u344 u345 u346 u347 u348 u349 u350 u351 u352 u353 u354 u355 u356 J1 K2 aa2 aa3 x0 b p cc N hgk hN0 hNc hcc hNm HO HX HN HB0 HB HE1
        exact k1.out
      · 
        rename_i h0 Q1 K1 aa1 J1 K2 aa2 aa3
        revert hle0 hl hcap0 HXL hNp H HD HU HL0 hKi hKj h0 Q1 nq w3 K1 aa1 gk wr u2 u3 u7 u8 u9 u10 u11 u12 u13 u14 u15 u16 u17 u18 u19 u20 u21 u22 u23 u46 u47 u48 u49 u50 u51 u52 u53 u54 u55 u56 u57 u58 u59 u60 u61 u62 u63 u64 u65 u66 u67 u68 u69 u70 u71 u72 u73 u74 u75 u76 u77 u78 u79 u80 u81 u82 u83 u84 u85 u86 u87 u88 u89 u90 u91 u92 u93 u94 u95 u96 u97 u98 u99 u100 u101 u102 u103 u104 u105 u106 u107 u108 u109 u110 u111 u112 u113 u114 u115 u116 u117 u118 u119 u120 u121 u122 u123 u124 u125 u126 u127 u128 u129 u130 u131 u132 u133 u134 u135 u136 u137 u138 u139 u140 u141 u142 u143 u144 u145 u146 u147 u148 u149 u150 u151 u152 u153 u154 u155 u156 u157 u158 u159 u160 u161 u162 u163 u164 u165 u166 u167 u168 u169 u170 u171 u172 u173 u174 u175 u176 u177 u178 u179 u180 u181 u182 u183 u184 u185 u186 u187 u188 u189 u190 u191 u192 u193 u194 u195 u196 u197 u198 u199 u200 u201 u202 u203 u204 u205 u206 u207 u208 u209 u210 u211 u212 u213 u214 u215 u216 u217 u218 u219 u220 u221 u222 u223 u224 u225 u226 u227 u228 u229 u230 u231 u232 u233 u234 u235 u236 u237 u238 u239 u240 u241 u242 u243 u244 u245 u246 u247 u248 u249 u250 u251 u252 u253 u254 u255 u256 u257 u258 u259 u260 u261 u262 u263 u264 u265 u266 u267 u268 u269 u270 u271 u272 u273 u274 u275 u276 u277 u278 u279 u280 u281 u282 u283 u284 u285 u286 u287 u288 u289 u290 u291 u292 u293 u294 u295 u296 u297 u298 u299 u300 u301 u302 u303 u304 u305 u306 u307 u308 u309 u310 u311 u312 u313 u314 u315 u316 u317 u318 u319 u320 u321 u322 u323 u324 u325 u326 u327 u328 u329 u330 u331 u332 u333 u334 u335 u336 u337 u338 u339 u340 u341 u342 u343 u344 u345 u346 u347 u348 u349 u350 u351 u352 u353 u354 u355 u356 J1 K2 aa2 aa3 x0 b p cc N hgk hN0 hNc hcc hNm HO P R xx yy HX HN HB0 HB HE1 hP1 hdd hRR hq0 hq10 hq34 hq92 hh
        exact k2.out
      · 
        rename_i h0 Q1 K1 aa1 J1 K2 aa2 aa3
        revert hle0 hl hcap0 HXL hNp H HD HU HL0 hKi hKj h0 Q1 nq w3 K1 aa1 gk wr u2 u3 u7 u8 u9 u10 u11 u12 u13 u14 u15 u16 u17 u18 u19 u20 u21 u22 u23 u46 u47 u48 u49 u50 u51 u52 u53 u54 u55 u56 u57 u58 u59 u60 u61 u62 u63 u64 u65 u66 u67 u68 u69 u70 u71 u72 u73 u74 u75 u76 u77 u78 u79 u80 u81 u82 u83 u84 u85 u86 u87 u88 u89 u90 u91 u92 u93 u94 u95 u96 u97 u98 u99 u100 u101 u102 u103 u104 u105 u106 u107 u108 u109 u110 u111 u112 u113 u114 u115 u116 u117 u118 u119 u120 u121 u122 u123 u124 u125 u126 u127 u128 u129 u130 u131 u132 u133 u134 u135 u136 u137 u138 u139 u140 u141 u142 u143 u144 u145 u146 u147 u148 u149 u150 u151 u152 u153 u154 u155 u156 u157 u158 u159 u160 u161 u162 u163 u164 u165 u166 u167 u168 u169 u170 u171 u172 u173 u174 u175 u176 u177 u178 u179 u180 u181 u182 u183 u184 u185 u186 u187 u188 u189 u190 u191 u192 u193 u194 u195 u196 u197 u198 u199 u200 u201 u202 u203 u204 u205 u206 u207 u208 u209 u210 u211 u212 u213 u214 u215 u216 u217 u218 u219 u220 u221 u222 u223 u224 u225 u226 u227 u228 u229 u230 u231 u232 u233 u234 u235 u236 u237 u238 u239 u240 u241 u242 u243 u244 u245 u246 u247 u248 u249 u250 u251 u252 u253 u254 u255 u256 u257 u258 u259 u260 u261 u262 u263 u264 u265 u266 u267 u268 u269 u270 u271 u272 u273 u274 u275 u276 u277 u278 u279 u280 u281 u282 u283 u284 u285 u286 u287 u288 u289 u290 u291 u292 u293 u294 u295 u296 u297 u298 u299 u300 u301 u302 u303 u304 u305 u306 u307 u308 u309 u310 u311 u312 u313 u314 u315 u316 u317 u318 u319 u320 u321 u322 u323 u324 u325 u326 u327 u328 u329 u330 u331 u332 u333 u334 u335 u336 u337 u338 u339 u340 u341 u342 u343 u344 u345 u346 u347 u348 u349 u350 u351 u352 u353 u354 u355 u356 J1 K2 aa2 aa3 x0 b p cc N hgk hN0 hNc hcc hNm HO q ch xx yy HX HN HB0 HB HE1 hq hh
        exact k3.out
      · 
        rename_i h0 Q1 K1 aa1 J1 K2 aa2 aa3
        revert hle0 hl hcap0 HXL hNp H HD HU HL0 hKi hKj h0 Q1 nq w3 K1 aa1 gk wr u2 u3 u7 u8 u9 u10 u11 u12 u13 u14 u15 u16 u17 u18 u19 u20 u21 u22 u23 u46 u47 u48 u49 u50 u51 u52 u53 u54 u55 u56 u57 u58 u59 u60 u61 u62 u63 u64 u65 u66 u67 u68 u69 u70 u71 u72 u73 u74 u75 u76 u77 u78 u79 u80 u81 u82 u83 u84 u85 u86 u87 u88 u89 u90 u91 u92 u93 u94 u95 u96 u97 u98 u99 u100 u101 u102 u103 u104 u105 u106 u107 u108 u109 u110 u111 u112 u113 u114 u115 u116 u117 u118 u119 u120 u121 u122 u123 u124 u125 u126 u127 u128 u129 u130 u131 u132 u133 u134 u135 u136 u137 u138 u139 u140 u141 u142 u143 u144 u145 u146 u147 u148 u149 u150 u151 u152 u153 u154 u155 u156 u157 u158 u159 u160 u161 u162 u163 u164 u165 u166 u167 u168 u169 u170 u171 u172 u173 u174 u175 u176 u177 u178 u179 u180 u181 u182 u183 u184 u185 u186 u187 u188 u189 u190 u191 u192 u193 u194 u195 u196 u197 u198 u199 u200 u201 u202 u203 u204 u205 u206 u207 u208 u209 u210 u211 u212 u213 u214 u215 u216 u217 u218 u219 u220 u221 u222 u223 u224 u225 u226 u227 u228 u229 u230 u231 u232 u233 u234 u235 u236 u237 u238 u239 u240 u241 u242 u243 u244 u245 u246 u247 u248 u249 u250 u251 u252 u253 u254 u255 u256 u257 u258 u259 u260 u261 u262 u263 u264 u265 u266 u267 u268 u269 u270 u271 u272 u273 u274 u275 u276 u277 u278 u279 u280 u281 u282 u283 u284 u285 u286 u287 u288 u289 u290 u291 u292 u293 u294 u295 u296 u297 u298 u299 u300 u301 u302 u303 u304 u305 u306 u307 u308 u309 u310 u311 u312 u313 u314 u315 u316 u317 u318 u319 u320 u321 u322 u323 u324 u325 u326 u327 u328 u329 u330 u331 u332 u333 u334 u335 u336 u337 u338 u339 u340 u341 u342 u343 u344 u345 u346 u347 u348 u349 u350 u351 u352 u353 u354 u355 u356 J1 K2 aa2 aa3 x0 b p cc N hgk hN0 hNc hcc hNm HO ch xx yy HX hh HN HB0 HB HE1
        exact k4.out
      · 
        rename_i h0 Q1 K1 aa1 J1 K2 aa2 aa3
        revert hle0 hl hcap0 HXL hNp H HD HU HL0 hKi hKj h0 Q1 nq w3 K1 aa1 gk wr u2 u3 u7 u8 u9 u10 u11 u12 u13 u14 u15 u16 u17 u18 u19 u20 u21 u22 u23 u46 u47 u48 u49 u50 u51 u52 u53 u54 u55 u56 u57 u58 u59 u60 u61 u62 u63 u64 u65 u66 u67 u68 u69 u70 u71 u72 u73 u74 u75 u76 u77 u78 u79 u80 u81 u82 u83 u84 u85 u86 u87 u88 u89 u90 u91 u92 u93 u94 u95 u96 u97 u98 u99 u100 u101 u102 u103 u104 u105 u106 u107 u108 u109 u110 u111 u112 u113 u114 u115 u116 u117 u118 u119 u120 u121 u122 u123 u124 u125 u126 u127 u128 u129 u130 u131 u132 u133 u134 u135 u136 u137 u138 u139 u140 u141 u142 u143 u144 u145 u146 u147 u148 u149 u150 u151 u152 u153 u154 u155 u156 u157 u158 u159 u160 u161 u162 u163 u164 u165 u166 u167 u168 u169 u170 u171 u172 u173 u174 u175 u176 u177 u178 u179 u180 u181 u182 u183 u184 u185 u186 u187 u188 u189 u190 u191 u192 u193 u194 u195 u196 u197 u198 u199 u200 u201 u202 u203 u204 u205 u206 u207 u208 u209 u210 u211 u212 u213 u214 u215 u216 u217 u218 u219 u220 u221 u222 u223 u224 u225 u226 u227 u228 u229 u230 u231 u232 u233 u234 u235 u236 u237 u238 u239 u240 u241 u242 u243 u244 u245 u246 u247 u248 u249 u250 u251 u252 u253 u254 u255 u256 u257 u258 u259 u260 u261 u262 u263 u264 u265 u266 u267 u268 u269 u270 u271 u272 u273 u274 u275 u276 u277 u278 u279 u280 u281 u282 u283 u284 u285 u286 u287 u288 u289 u290 u291 u292 u293 u294 u295 u296 u297 u298 u299 u300 u301 u302 u303 u304 u305 u306 u307 u308 u309 u310 u311 u312 u313 u314 u315 u316 u317 u318 u319 u320 u321 u322 u323 u324 u325 u326 u327 u328 u329 u330 u331 u332 u333 u334 u335 u336 u337 u338 u339 u340 u341 u342 u343 u344 u345 u346 u347 u348 u349 u350 u351 u352 u353 u354 u355 u356 J1 K2 aa2 aa3 x0 b p cc N hgk hN0 hNc hcc hNm HO ch xx yy HX HN HB0 HB HE1 hc hh
        exact k5.out
end Go.Proofs.YtlfeolfjlmelpaaGreatDoor
