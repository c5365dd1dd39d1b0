/- text.Decoder.parseString at a written string: the arm hex. -/
import Derived.Test.YtlfeolfjlmelpaaGreatDoorPJ
namespace Go.Proofs.YtlfeolfjlmelpaaGreatDoor
open Go.RowKit

set_option maxHeartbeats 40000000 in
set_option maxRecDepth 1000000 in
theorem pj_hex {w2 : World} {g : Nat} {lc tk ta tn tp tr ts le os og : Value} {c b0 o0 K N2 : Nat} {u x2 y2 rest : List UInt8} : (pjA (w2 := w2) (g := g) (lc := lc) (tk := tk) (ta := ta) (tn := tn) (tp := tp) (tr := tr) (ts := ts) (le := le) (os := os) (og := og) (c := c) (b0 := b0) (o0 := o0) (K := K) (N2 := N2) (u := u) (x2 := x2) (y2 := y2) (rest := rest)).2.2.2.1 := by
  intro hle0 hl hcap0 HXL hNp H HD HU HL0 hKi hKj h0 Q1 nq w3 K1 aa1 gk wr u2 u3 u7 u8 u9 u10 u11 u12 u13 u14 u15 u16 u17 u18 u19 u20 u21 u22 u23 u46 u47 u48 u49 u50 u51 u52 u53 u54 u55 u56 u57 u58 u59 u60 u61 u62 u63 u64 u65 u66 u67 u68 u69 u70 u71 u72 u73 u74 u75 u76 u77 u78 u79 u80 u81 u82 u83 u84 u85 u86 u87 u88 u89 u90 u91 u92 u93 u94 u95 u96 u97 u98 u99 u100 u101 u102 u103 u104 u105 u106 u107 u108 u109 u110 u111 u112 u113 u114 u115 u116 u117 u118 u119 u120 u121 u122 u123 u124 u125 u126 u127 u128 u129 u130 u131 u132 u133 u134 u135 u136 u137 u138 u139 u140 u141 u142 u143 u144 u145 u146 u147 u148 u149 u150 u151 u152 u153 u154 u155 u156 u157 u158 u159 u160 u161 u162 u163 u164 u165 u166 u167 u168 u169 u170 u171 u172 u173 u174 u175 u176 u177 u178 u179 u180 u181 u182 u183 u184 u185 u186 u187 u188 u189 u190 u191 u192 u193 u194 u195 u196 u197 u198 u199 u200 u201 u202 u203 u204 u205 u206 u207 u208 u209 u210 u211 u212 u213 u214 u215 u216 u217 u218 u219 u220 u221 u222 u223 u224 u225 u226 u227 u228 u229 u230 u231 u232 u233 u234 u235 u236 u237 u238 u239 u240 u241 u242 u243 u244 u245 u246 u247 u248 u249 u250 u251 u252 u253 u254 u255 u256 u257 u258 u259 u260 u261 u262 u263 u264 u265 u266 u267 u268 u269 u270 u271 u272 u273 u274 u275 u276 u277 u278 u279 u280 u281 u282 u283 u284 u285 u286 u287 u288 u289 u290 u291 u292 u293 u294 u295 u296 u297 u298 u299 u300 u301 u302 u303 u304 u305 u306 u307 u308 u309 u310 u311 u312 u313 u314 u315 u316 u317 u318 u319 u320 u321 u322 u323 u324 u325 u326 u327 u328 u329 u330 u331 u332 u333 u334 u335 u336 u337 u338 u339 u340 u341 u342 u343 u344 u345 u346 u347 u348 u349 u350 u351 u352 u353 u354 u355 u356 J1 K2 aa2 aa3 x0 b p cc N hgk hN0 hNc hcc hNm HO ch xx yy HX hh HN HB0 HB HE1
  have hZ : N = 4 + (yy ++ 34 :: rest).length := by rw [HN.out]; simp; omega
  have hBZ0 : IsB w2 (some ⟨b, p, none⟩) cc (([92, 120, hx (ch.toNat / 16), hx (ch.toNat % 16)] : List UInt8) ++ (yy ++ 34 :: rest)) := by have := HB0.out; simpa using this
  have hBZ := hBZ0.kept0 HO.out.gr
  have hZ2 : N = (([92, 120, hx (ch.toNat / 16), hx (ch.toNat % 16)] : List UInt8) ++ (yy ++ 34 :: rest)).length := by rw [hZ]; simp; try omega
  clear HB HN HB0
  have hdc := decB_of (w := wr) (([92, 120, hx (ch.toNat / 16), hx (ch.toNat % 16)] : List UInt8) ++ (yy ++ 34 :: rest)) (by simp) hBZ (HU.out.kept HO.out.gr)
  rw [show Lib.decodeL (([92, 120, hx (ch.toNat / 16), hx (ch.toNat % 16)] : List UInt8) ++ (yy ++ 34 :: rest)) = (92, 1) from dec_ascii 92 _ (by decide), ← hZ2] at hdc
  simp only at hdc
  obtain ⟨A5, c5, hBY, hcut5⟩ := hBZ0.cutI 4 N 4 rfl hZ2 (by simp; try omega)
  rw [show (([92, 120, hx (ch.toNat / 16), hx (ch.toNat % 16)] : List UInt8) ++ (yy ++ 34 :: rest)).drop 4 = yy ++ 34 :: rest by simp] at hBY hcut5
  obtain ⟨b5, p5, rfl⟩ := hBY.addr (by simp)
  obtain ⟨-, -, hcg⟩ : True ∧ True ∧ ∀ i (h : i < (([92, 120, hx (ch.toNat / 16), hx (ch.toNat % 16)] : List UInt8) ++ (yy ++ 34 :: rest)).length), wr.cell? ⟨b, p + i, none⟩ = some (by8 (([92, 120, hx (ch.toNat / 16), hx (ch.toNat % 16)] : List UInt8) ++ (yy ++ 34 :: rest))[i]) := by
    obtain ⟨b', p', e, hk⟩ := hBZ.get (by simp)
    cases e
    exact ⟨trivial, trivial, hk⟩
  have hYp : 0 < (yy ++ 34 :: rest).length := by simp; omega
  have hlen5 : x0.length + 10 ≤ 1000000000 := by
    have h1 := HXL.out
    rw [HX.out] at h1
    simp at h1; omega
  generalize hNN5 : (yy ++ 34 :: rest).length = N5 at hZ hYp hcut5
  have hch := ch.toNat_lt
  have hm2 := hBZ0.cutI 2 N 2 rfl hZ2 (by simp; try omega)
  rw [show (([92, 120, hx (ch.toNat / 16), hx (ch.toNat % 16)] : List UInt8) ++ (yy ++ 34 :: rest)).drop 2 = hx (ch.toNat / 16) :: hx (ch.toNat % 16) :: (yy ++ 34 :: rest) by simp] at hm2
  obtain ⟨A6, c6, hB6, hcut6⟩ := hm2
  obtain ⟨A8, c8, hB8, hmid8⟩ := hBZ0.midI 2 2 N 2 4 rfl rfl hZ2 (by simp; try omega)
  rw [show ((([92, 120, hx (ch.toNat / 16), hx (ch.toNat % 16)] : List UInt8) ++ (yy ++ 34 :: rest)).drop 2).take 2 = [hx (ch.toNat / 16), hx (ch.toNat % 16)] by simp] at hB8 hmid8
  have hTr := fun w1 (hg : w2.grownBy w1 none) => trim_of (w := w1) _ (hB6.kept0 hg) hexSet (by decide) hexSet_asc
  have hTl := trim_hex (ch.toNat / 16) (ch.toNat % 16) (by omega) (by omega) (yy ++ 34 :: rest)
  generalize (Lib.trimLeftS (hx (ch.toNat / 16) :: hx (ch.toNat % 16) :: (yy ++ 34 :: rest)) hexSet.data.toList).length = T at hTr hTl
  rw [List.length_cons, List.length_cons, hNN5] at hcut6 hTr
  rw [hNN5] at hTl
  have HTr := Lib.hid hTr
  have HB8 := Lib.hid hB8
  have HTl := Lib.hid hTl
  clear hTr hB6 hB8 hTl
  have HDc := Lib.hid hdc
  have HCG := Lib.hid hcg
  have HBY := Lib.hid hBY
  have HL5 := Lib.hid hlen5
  have HNN5 := Lib.hid hNN5
  have HHH := Lib.hid hh
  have HBZ0 := Lib.hid hBZ0
  have HZ := Lib.hid hZ
  have hkN : 4 < N := by omega
  have hsub : N - 4 = N5 := by omega
  have hkI : (4 : Int) ≤ (N : Int) := by omega
  clear hdc hcg hBY hlen5 hNN5 hh hBZ hBZ0 hZ2 hZ
  go_wp2_with fail
  refine HDc.out.mono ?_
  clear HDc
  rintro e w4 ⟨rfl, hg4⟩
  have HO4 := Lib.hid (HO.out.kept hg4)
  have HCG4 := Lib.hid (fun i h => gr_cell hg4 (HCG.out i h))
  clear HO HCG hg4
  have hc1 : w4.cell? ⟨b, p + 1, none⟩ = some (.int .u8 120) := HCG4.out 1 (by simp)
  have HT4 := Lib.hid (HTr.out w4.drew (gr_drew HO4.out.gr))
  have hwc : IntKind.u8.wrap (ch.toNat : Int) = (ch.toNat : Int) := IntWalk.u8_in _ ⟨by omega, by omega⟩
  have hTb : (T : Int) ≤ (N5 : Int) := by have := HTl.out; omega
  have hNb : (N5 : Int) ≤ 1000000 := by have := HZ.out; omega
  go_upto_region 61 with fail
  go_region_held3 (fun _ => True) (trivial) ((go_at_call 211; refine HT4.out.mono ?_; rintro e w5 ⟨⟨A7, c7, rfl⟩, hg5⟩))
  have HO5 := Lib.hid ((HO4.out.kept (gr_drew (gr_refl w4 none))).kept hg5)
  clear HO4 HT4 hg5 HCG4 hc1 hcut6
  have hwt : IntKind.i64.wrap ((N5 : Int) + 1 + 1 - (T : Int)) = (N5 : Int) + 1 + 1 - (T : Int) := IntWalk.i64_in _ (by omega)
  rw [hwt]
  clear hwt
  go_upto_if 245 with fail
  go_cut [14] from 246 to 246 (fun a w' => a = .int .i64 2 ∧ w' = w5)
  case first =>
    by_cases ht : (2 : Int) < (N5 : Int) + 1 + 1 - (T : Int)
    · go_wp2
      go_meet
      exact ⟨rfl, rfl⟩
    · go_wp2
      go_meet
      exact ⟨by refine congrArg (Value.int .i64) ?_; omega, rfl⟩
  case rest =>
  obtain ⟨rfl, rfl⟩ := hcut
  have hst := (HB8.out.kept0 HO5.out.gr).str
  rw [show ([hx (ch.toNat / 16), hx (ch.toNat % 16)] : List UInt8).length = 2 from rfl] at hst hmid8
  go_wp2_with fail
  refine (parse2 ch).mono ?_
  rintro e w6 ⟨rfl, hg6⟩
  have HOD := Lib.hid ((HO5.out.kept hg6).kept (gr_drew (gr_refl w6 none)))
  clear HO5 hg6 hst hmid8
  have hw4 : IntKind.i64.wrap 4 = 4 := by kernel_rfl
  have hk4 : (4 : Int) ≤ (N : Int) := hkI
  have hwv : IntKind.u8.wrap (ch.toNat : Int) = (ch.toNat : Int) := IntWalk.u8_in _ ⟨by omega, by omega⟩
  have hcut7 : ∀ (W : World) (k : IntKind), (Instr.slice 28 (.slice (some ⟨b, p, none⟩) N cc) (some (.int k (2 + 2))) none none).run Tryz.prog W = .ok (.slice (some ⟨b5, p5, none⟩) N5 c5) W := hcut5
  have hkJ : (2 : Int) + 2 ≤ (N : Int) := by omega
  go_upto_region 67 with fail
  go_region_held3 (fun _ => True) (trivial) ((refine step_byte (by rfl) _ _ (by rfl) HOD.out (by rfl) ch _ (by rfl) (by rfl) (by have := HL5.out; omega) ?_; intro v6 w7 hb))
  have HBF := Lib.hid hb
  clear hb HOD hcut5
  try clear hcut7 hw4 hkJ hk4 hwv
  go_wp2
  go_roundg N
  case measure => exact hgk
  case rel =>
    have h5 := HBY.out.le
    have h6 := HBY.out.cap
    rw [HNN5.out] at h5
    exact ⟨_, x0 ++ [ch], xx, yy, _, _, _, N5, rfl, rfl, by have := HZ.out; omega, hYp, h5, h6, by have := HZ.out; omega, Lib.hid HNN5.out.symm, HBY, Lib.hid (Buf.out HBF.out), Lib.hid (by rw [HX.out]; simp), HHH⟩
end Go.Proofs.YtlfeolfjlmelpaaGreatDoor
