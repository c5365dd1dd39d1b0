/- text.Decoder.parseString at a written string: the arm nil. -/
import Derived.Test.YtlfeolfjlmelpaaGreatDoorPJ
namespace Go.Proofs.YtlfeolfjlmelpaaGreatDoor
open Go.RowKit

set_option maxHeartbeats 40000000 in
set_option maxRecDepth 1000000 in
theorem pj_nil {w2 : World} {g : Nat} {lc tk ta tn tp tr ts le os og : Value} {c b0 o0 K N2 : Nat} {u x2 y2 rest : List UInt8} : (pjA (w2 := w2) (g := g) (lc := lc) (tk := tk) (ta := ta) (tn := tn) (tp := tp) (tr := tr) (ts := ts) (le := le) (os := os) (og := og) (c := c) (b0 := b0) (o0 := o0) (K := K) (N2 := N2) (u := u) (x2 := x2) (y2 := y2) (rest := rest)).1 := by
  intro hle0 hl hcap0 HXL hNp H HD HU HL0 hKi hKj h0 Q1 nq w3 K1 aa1 gk wr u2 u3 u7 u8 u9 u10 u11 u12 u13 u14 u15 u16 u17 u18 u19 u20 u21 u22 u23 u46 u47 u48 u49 u50 u51 u52 u53 u54 u55 u56 u57 u58 u59 u60 u61 u62 u63 u64 u65 u66 u67 u68 u69 u70 u71 u72 u73 u74 u75 u76 u77 u78 u79 u80 u81 u82 u83 u84 u85 u86 u87 u88 u89 u90 u91 u92 u93 u94 u95 u96 u97 u98 u99 u100 u101 u102 u103 u104 u105 u106 u107 u108 u109 u110 u111 u112 u113 u114 u115 u116 u117 u118 u119 u120 u121 u122 u123 u124 u125 u126 u127 u128 u129 u130 u131 u132 u133 u134 u135 u136 u137 u138 u139 u140 u141 u142 u143 u144 u145 u146 u147 u148 u149 u150 u151 u152 u153 u154 u155 u156 u157 u158 u159 u160 u161 u162 u163 u164 u165 u166 u167 u168 u169 u170 u171 u172 u173 u174 u175 u176 u177 u178 u179 u180 u181 u182 u183 u184 u185 u186 u187 u188 u189 u190 u191 u192 u193 u194 u195 u196 u197 u198 u199 u200 u201 u202 u203 u204 u205 u206 u207 u208 u209 u210 u211 u212 u213 u214 u215 u216 u217 u218 u219 u220 u221 u222 u223 u224 u225 u226 u227 u228 u229 u230 u231 u232 u233 u234 u235 u236 u237 u238 u239 u240 u241 u242 u243 u244 u245 u246 u247 u248 u249 u250 u251 u252 u253 u254 u255 u256 u257 u258 u259 u260 u261 u262 u263 u264 u265 u266 u267 u268 u269 u270 u271 u272 u273 u274 u275 u276 u277 u278 u279 u280 u281 u282 u283 u284 u285 u286 u287 u288 u289 u290 u291 u292 u293 u294 u295 u296 u297 u298 u299 u300 u301 u302 u303 u304 u305 u306 u307 u308 u309 u310 u311 u312 u313 u314 u315 u316 u317 u318 u319 u320 u321 u322 u323 u324 u325 u326 u327 u328 u329 u330 u331 u332 u333 u334 u335 u336 u337 u338 u339 u340 u341 u342 u343 u344 u345 u346 u347 u348 u349 u350 u351 u352 u353 u354 u355 u356 J1 K2 aa2 aa3 x0 b p cc N hgk hN0 hNc hcc hNm HO HX HN HB0 HB HE1
  simp only [List.nil_append] at HN HB
  clear HB0
  have hD := decB_of (w := wr) (34 :: rest) (by simp) HB.out (HU.out.kept HO.out.gr)
  rw [dec_ascii 34 rest (by decide), ← HN.out] at hD
  have HDc := Lib.hid hD
  clear hD
  have hNr : N = rest.length + 1 := HN.out
  subst hNr
  obtain ⟨Ao, co, rfl, -⟩ := HO.out.slice
  go_wp2_with fail
  refine HDc.out.mono ?_
  clear HDc
  rintro e w4 ⟨rfl, hg⟩
  have HB4 := Lib.hid (HB.out.kept0 hg)
  have HO4 := Lib.hid (HO.out.kept hg)
  clear HB HO hg
  have HB := HB4
  have HO := HO4
  clear HB4 HO4
  have hdw : HasDec w4 g lc tk ta tn tp tr ts le os og (.slice (some ⟨b0, o0, none⟩) (34 :: ((u ++ y2) ++ 34 :: rest)).length c) := gr_blk HO.out.gr HD.out (by simp)
  have hT := H.out.kept0 HO.out.gr
  have htot : (34 :: ((u ++ y2) ++ 34 :: rest)).length = (u.length + y2.length + 2) + rest.length := by simp; omega
  have hM := consumeM (((34 :: ((u ++ y2) ++ 34 :: rest)).length : Int) - (rest.length : Int)) hdw hT (by omega) (by omega)
  rw [show (((34 :: ((u ++ y2) ++ 34 :: rest)).length : Int) - (rest.length : Int)).toNat = u.length + y2.length + 2 by omega, show (34 :: ((u ++ y2) ++ 34 :: rest)).drop (u.length + y2.length + 2) = rest by
    rw [show 34 :: ((u ++ y2) ++ 34 :: rest) = (34 :: (u ++ y2 ++ [34])) ++ rest by simp]
    exact List.drop_left' (by simp; omega)] at hM
  obtain ⟨-, -, -, -, -, -, -, -, -, -, d10, df⟩ := hdw.cells
  have hBo := HO.out.slice
  clear hT
  have HDW := Lib.hid hdw
  clear hdw
  have hm1 : ((34 :: ((u ++ y2) ++ 34 :: rest)).length : Int) ≤ 1000000000000 := by have := HL0.out; omega
  have hm2 : (rest.length : Int) ≤ ((34 :: ((u ++ y2) ++ 34 :: rest)).length : Int) := by omega
  clear htot
  generalize (34 :: ((u ++ y2) ++ 34 :: rest)).length = N0 at d10 hM HDW hm1 hm2
  have HM := Lib.hid hM
  clear hM
  obtain ⟨A5, c5, -, hcut5⟩ := HB.out.cutI 1 (rest.length + 1) 1 rfl rfl (by simp)
  rw [List.drop_succ_cons, List.drop_zero] at hcut5
  go_wp2_with fail
  refine HM.out.mono ?_
  rintro e w5 ⟨rfl, A', c', hB5, hd5, hg5⟩
  obtain ⟨A3, c3, e3, hB3⟩ := hBo
  cases e3
  have hstr := (hB3.keptD hg5 HDW.out (by decide)).str
  have HB5 := Lib.hid hB5
  have HD5 := Lib.hid hd5
  have HG5 := Lib.hid (gr_trans (gr_weak HO.out.gr) hg5)
  clear hB5 hd5 hg5 hB3 HM d10 df
  go_wp2
  go_ret2
  refine ⟨?_, A', c', HB5.out, HD5.out, HG5.out⟩
  rw [HX.out, List.append_nil]; rfl
end Go.Proofs.YtlfeolfjlmelpaaGreatDoor
