/- text.Decoder.parseString at a written string: the arm chunk. -/
import Derived.Test.YtlfeolfjlmelpaaGreatDoorPJ
namespace Go.Proofs.YtlfeolfjlmelpaaGreatDoor
open Go.RowKit

set_option maxHeartbeats 40000000 in
set_option maxRecDepth 1000000 in
theorem pj_chunk {w2 : World} {g : Nat} {lc tk ta tn tp tr ts le os og : Value} {c b0 o0 K N2 : Nat} {u x2 y2 rest : List UInt8} : (pjA (w2 := w2) (g := g) (lc := lc) (tk := tk) (ta := ta) (tn := tn) (tp := tp) (tr := tr) (ts := ts) (le := le) (os := os) (og := og) (c := c) (b0 := b0) (o0 := o0) (K := K) (N2 := N2) (u := u) (x2 := x2) (y2 := y2) (rest := rest)).2.1 := by
  intro hle0 hl hcap0 HXL hNp H HD HU HL0 hKi hKj h0 Q1 nq w3 K1 aa1 gk wr u2 u3 u7 u8 u9 u10 u11 u12 u13 u14 u15 u16 u17 u18 u19 u20 u21 u22 u23 u46 u47 u48 u49 u50 u51 u52 u53 u54 u55 u56 u57 u58 u59 u60 u61 u62 u63 u64 u65 u66 u67 u68 u69 u70 u71 u72 u73 u74 u75 u76 u77 u78 u79 u80 u81 u82 u83 u84 u85 u86 u87 u88 u89 u90 u91 u92 u93 u94 u95 u96 u97 u98 u99 u100 u101 u102 u103 u104 u105 u106 u107 u108 u109 u110 u111 u112 u113 u114 u115 u116 u117 u118 u119 u120 u121 u122 u123 u124 u125 u126 u127 u128 u129 u130 u131 u132 u133 u134 u135 u136 u137 u138 u139 u140 u141 u142 u143 u144 u145 u146 u147 u148 u149 u150 u151 u152 u153 u154 u155 u156 u157 u158 u159 u160 u161 u162 u163 u164 u165 u166 u167 u168 u169 u170 u171 u172 u173 u174 u175 u176 u177 u178 u179 u180 u181 u182 u183 u184 u185 u186 u187 u188 u189 u190 u191 u192 u193 u194 u195 u196 u197 u198 u199 u200 u201 u202 u203 u204 u205 u206 u207 u208 u209 u210 u211 u212 u213 u214 u215 u216 u217 u218 u219 u220 u221 u222 u223 u224 u225 u226 u227 u228 u229 u230 u231 u232 u233 u234 u235 u236 u237 u238 u239 u240 u241 u242 u243 u244 u245 u246 u247 u248 u249 u250 u251 u252 u253 u254 u255 u256 u257 u258 u259 u260 u261 u262 u263 u264 u265 u266 u267 u268 u269 u270 u271 u272 u273 u274 u275 u276 u277 u278 u279 u280 u281 u282 u283 u284 u285 u286 u287 u288 u289 u290 u291 u292 u293 u294 u295 u296 u297 u298 u299 u300 u301 u302 u303 u304 u305 u306 u307 u308 u309 u310 u311 u312 u313 u314 u315 u316 u317 u318 u319 u320 u321 u322 u323 u324 u325 u326 u327 u328 u329 u330 u331 u332 u333 u334 u335 u336 u337 u338 u339 u340 u341 u342 u343 u344 u345 u346 u347 u348 u349 u350 u351 u352 u353 u354 u355 u356 J1 K2 aa2 aa3 x0 b p cc N hgk hN0 hNc hcc hNm HO P R xx yy HX HN HB0 HB HE1 hP1 hdd hRR hq0 hq10 hq34 hq92 hh
  obtain ⟨u5, x5, y5, rfl, rfl, he5, hrun5⟩ := hh.run rest
  have hZ : N = (P ++ ((u5 ++ y5) ++ 34 :: rest)).length := by rw [HN.out]; simp
  have hBZ0 : IsB w2 (some ⟨b, p, none⟩) cc (P ++ ((u5 ++ y5) ++ 34 :: rest)) := by have := HB0.out; simpa using this
  have hBZ := hBZ0.kept0 HO.out.gr
  clear HB0
  have hdd5 : Lib.decodeL (P ++ ((u5 ++ y5) ++ 34 :: rest)) = (R, (P).length) := hdd _
  clear HB HN
  have hdc := decB_of (w := wr) (P ++ ((u5 ++ y5) ++ 34 :: rest)) (by simp) hBZ (HU.out.kept HO.out.gr)
  rw [hdd5, ← hZ] at hdc
  simp only at hdc
  have hBY := hBZ.drop (P).length (by simp; omega)
  rw [show (P ++ ((u5 ++ y5) ++ 34 :: rest)).drop (P).length = (u5 ++ y5) ++ 34 :: rest by simp] at hBY
  have hYl : ((u5 ++ y5) ++ 34 :: rest).length = N - (P).length := by rw [hZ]; simp
  have hix := fun w1 hg => indexB_of (w := w1) ((u5 ++ y5) ++ 34 :: rest) (hBY.kept0 hg) (by rw [hYl]; omega)
  rw [hrun5, hYl] at hix
  have hn1 : 1 ≤ (P).length := hP1
  have hne5 : P ++ u5 ≠ [] := fun h => by
    have h1 := congrArg List.length h
    rw [List.length_append, List.length_nil] at h1; omega
  have hkN : (P).length + u5.length < N := by rw [hZ]; simp; omega
  obtain ⟨A5, c5, hB5, hcut5⟩ := hBZ0.cutI ((P).length + u5.length) N (((P).length : Int) + (u5.length : Int)) (by omega) hZ (by rw [← hZ]; omega)
  have hup5 := hBZ.upto ((P).length + u5.length) N (((P).length : Int) + (u5.length : Int)) (by omega) hZ (by rw [← hZ]; omega)
  have hcl := fun W (hW : ∀ a v, wr.cell? a = some v → W.cell? a = some v) => hBZ.cells ((P).length + u5.length) W hW
  rw [show (P ++ ((u5 ++ y5) ++ 34 :: rest)).take ((P).length + u5.length) = P ++ u5 by rw [List.take_length_add_append]; simp] at hcl
  rw [show (P ++ ((u5 ++ y5) ++ 34 :: rest)).drop ((P).length + u5.length) = y5 ++ 34 :: rest by rw [List.drop_length_add_append]; simp] at hB5 hcut5
  obtain ⟨b5, p5, rfl⟩ := hB5.addr (by simp)
  have hN5 : (y5 ++ 34 :: rest).length + ((P).length + u5.length) = N := by rw [hZ]; simp; omega
  have hlen5 : x0.length + (P ++ u5).length ≤ 1000000000 := by
    have h1 := HXL.out
    rw [HX.out] at h1
    simp at h1 ⊢; omega
  have hpl : (P ++ u5).length = (P).length + u5.length := by simp only [List.length_append]
  generalize hNN5 : (y5 ++ 34 :: rest).length = N5 at hcut5 hN5
  generalize hPn : (P).length = n at *
  generalize hUk : u5.length = k at *
  have HDc := Lib.hid hdc
  have HIX := Lib.hid hix
  have HB5 := Lib.hid hB5
  have HCL := Lib.hid hcl
  have HL5 := Lib.hid hlen5
  have HNN5 := Lib.hid hNN5
  have HPL := Lib.hid hpl
  have HE5 := Lib.hid he5
  have HRR := Lib.hid hRR
  clear hdc hix hB5 hcl hlen5 hNN5 hpl hPn hUk he5 hrun5 hdd5 hBZ hBZ0 hBY hYl hZ hh hRR hdd hP1
  have q0 : ((R : Int) == 0) = false := beq_eq_false_iff_ne.2 (by omega)
  have q10 : ((R : Int) == 10) = false := beq_eq_false_iff_ne.2 (by omega)
  have q34 : ((R : Int) == 34) = false := beq_eq_false_iff_ne.2 (by omega)
  have q92 : ((R : Int) == 92) = false := beq_eq_false_iff_ne.2 (by omega)
  go_wp2_with fail
  refine HDc.out.mono ?_
  clear HDc
  rintro e w4 ⟨rfl, hg4⟩
  have HO4 := Lib.hid (HO.out.kept hg4)
  have HCL4 := Lib.hid (HCL.out w4.drew (fun a v h => gr_cell hg4 h))
  have HIX4 := Lib.hid (HIX.out w4 hg4)
  clear HO HCL HIX hg4
  go_upto_region 12 with fail
  go_cut [70] from 71 to 76 (fun a w' => a = .bool false ∧ w' = w4)
  case first =>
    by_cases hR5 : R = 65533
    · have hq1 : ((R : Int) == 65533) = true := beq_iff_eq.2 (by omega)
      have hq2 : ((n : Int) == 1) = false := beq_eq_false_iff_ne.2 (by have := HRR.out; omega)
      go_wp2
      go_meet
      exact ⟨rfl, rfl⟩
    · have hq1 : ((R : Int) == 65533) = false := beq_eq_false_iff_ne.2 (by omega)
      go_wp2
      go_meet
      exact ⟨rfl, rfl⟩
  case rest =>
  obtain ⟨rfl, rfl⟩ := hcut
  have hnk : IntKind.i64.wrap ((n : Int) + (k : Int)) = (n : Int) + (k : Int) := IntWalk.i64_in _ (by omega)
  have hnk0 : (0 : Int) ≤ (n : Int) + (k : Int) := by omega
  have hnk1 : (n : Int) + (k : Int) ≤ (N : Int) := by omega
  go_wp2_with fail
  refine HIX4.out.mono ?_
  clear HIX4
  rintro e w5 ⟨rfl, rfl⟩
  have HOD := Lib.hid (HO4.out.kept (gr_drew (gr_refl w5 none)))
  clear HO4
  go_upto_region 11 with fail
  go_region_held3 (fun _ => True) (trivial) ((refine step_appN (by rfl) _ _ (by rfl) HOD.out (by rfl) (P ++ u5) (n + k) HPL.out.symm ⟨b, p, none⟩ cc (by rfl) hne5 HCL4.out HL5.out ?_; intro v6 w6 hb))
  have HBF := Lib.hid hb
  clear hb HOD HCL4 hcut5 hup5
  go_wp2
  go_roundg N
  case measure => exact hgk
  case rel =>
    have h5 := HB5.out.le
    have h6 := HB5.out.cap
    rw [HNN5.out] at h5
    exact ⟨_, x0 ++ (P ++ u5), x5, y5, _, _, _, N5, rfl, rfl, by omega, by have := HNN5.out; simp at this; omega, h5, h6, by omega, Lib.hid HNN5.out.symm, HB5, Lib.hid (Buf.out HBF.out), Lib.hid (by rw [HX.out]; simp), HE5⟩
end Go.Proofs.YtlfeolfjlmelpaaGreatDoor
