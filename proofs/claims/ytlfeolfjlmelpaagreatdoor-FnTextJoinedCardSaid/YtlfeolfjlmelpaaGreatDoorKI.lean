/- text.parseLiteralValue, parseScalar, parseNext at a whole number that ends the text. -/
import Derived.Test.YtlfeolfjlmelpaaGreatDoorKH
namespace Go.Proofs.YtlfeolfjlmelpaaGreatDoor
open Go.RowKit

abbrev tok0V : Value := .agg #[.int .u8 0, .int .u8 0, .int .u8 0, .int .i64 0, .slice none 0 0, .string ByteArray.empty]

set_option maxHeartbeats 2000000 in
set_option maxRecDepth 1000000 in
theorem parseLiteral_no {w : World} {g : Nat} {lc tk ta tn tp tr ts le os og : Value} {A : Option Addr} {c : Nat} {xs : List UInt8}
    (hd : HasDec w g lc tk ta tn tp tr ts le os og (.slice A xs.length c)) (h : IsB w A c xs)
    (hP : ∀ w1, IsB w1 A c xs → Calls Tryz.prog 130 #[.slice A xs.length c, .bool true] w1 fun e w' => e = .returned (.int .i64 0) ∧ w1 = w') :
    Calls Tryz.prog 135 #[.pointer (some ⟨g, 0, none⟩)] w fun e w' => e = .returned (.tuple #[tok0V, .bool false]) ∧ w.grownBy w' none := by
  have hg1 := gr_alloc (gr_refl w none) tok0
  obtain ⟨d0, d1, d2, d3, d4, d5, d6, d7, d8, d9, d10, df⟩ := hd.cells
  have e10 := gr_cell hg1 d10
  have HC := Lib.hid (hP _ (h.kept0 hg1))
  clear d0 d1 d2 d3 d4 d5 d6 d7 d8 d9 d10 df hd h hP hg1
  unfold tok0 at HC e10
  go_enter Tryz.func135, Tryz.ntmps135
  go_wp2_with fail
  refine HC.out.mono ?_
  rintro e w1 ⟨rfl, rfl⟩
  go_wp2
  refine bodyPost_ret (v := .tuple #[tok0V, .bool false]) (by simp [results, Tryz.results135, go_sem, tok0V]; rfl) rfl ?_
  exact ⟨rfl, World.grownBy_alloc w _ none⟩

set_option maxHeartbeats 2000000 in
set_option maxRecDepth 1000000 in
theorem parseScalar_of {w : World} {g : Nat} {lc tk ta tn tp tr ts le os og : Value} {A : Option Addr} {c : Nat} {x : UInt8} {r : List UInt8} {kd at_ na pos : Int} {raw rest : List UInt8} {str : ByteArray}
    (hd : HasDec w g lc tk ta tn tp tr ts le os og (.slice A (x :: r).length c)) (h : IsB w A c (x :: r)) (hx : x.toNat ≠ 34 ∧ x.toNat ≠ 39)
    (hL : ∀ w1, w.grownBy w1 none → Calls Tryz.prog 135 #[.pointer (some ⟨g, 0, none⟩)] w1 fun e w' => e = .returned (.tuple #[tok0V, .bool false]) ∧ w1.grownBy w' none)
    (hN : ∀ w1, w.grownBy w1 none → Calls Tryz.prog 136 #[.pointer (some ⟨g, 0, none⟩)] w1 fun e w' => ∃ A0 c0, e = .returned (.tuple #[.agg #[.int .u8 kd, .int .u8 at_, .int .u8 na, .int .i64 pos, .slice A0 raw.length c0, .string str], .bool true]) ∧ IsB w' A0 c0 raw ∧
      ∃ A' c', IsB w' A' c' rest ∧ HasDec w' g lc tk ta tn tp tr ts le os og (.slice A' rest.length c') ∧ w1.grownBy w' (some g)) :
    Calls Tryz.prog 90 #[.pointer (some ⟨g, 0, none⟩)] w (ReadEnds w g lc tk ta tn tp tr ts le os og kd at_ na pos raw str rest) := by
  have hlt := blk_lt hd
  have hcap := h.cap
  have hle := h.le
  have hg1 := gr_alloc (gr_refl w none) tok0
  have hb1 := blk_new w tok0
  obtain ⟨d0, d1, d2, d3, d4, d5, d6, d7, d8, d9, d10, df⟩ := hd.cells
  obtain ⟨b, o, rfl, hcell⟩ := h.head
  have e10 := gr_cell hg1 d10
  have eb := gr_cell hg1 hcell
  have f1 : ((x.toNat : Int) == 34) = false := beq_eq_false_iff_ne.2 (by omega)
  have f2 : ((x.toNat : Int) == 39) = false := beq_eq_false_iff_ne.2 (by omega)
  have HL := Lib.hid (hL _ hg1)
  have HN := Lib.hid hN
  have HG1 := Lib.hid hg1
  have HB1 := Lib.hid hb1
  clear d0 d1 d2 d3 d4 d5 d6 d7 d8 d9 d10 df hd h hL hN hg1 hb1 hcell
  unfold tok0 at HL e10 eb
  unfold ReadEnds
  go_enter Tryz.func90, Tryz.ntmps90
  go_wp2_with fail
  refine HL.out.mono ?_
  rintro e w1 ⟨rfl, hg2⟩
  have HG2 := Lib.hid hg2
  clear hg2 e10 eb
  unfold tok0V
  go_wp2_with fail
  have hgr := gr_alloc (gr_trans HG1.out HG2.out) tok0
  have HM := Lib.hid (HN.out _ hgr)
  have HBN := Lib.hid (blk_alloc (gr_blk HG2.out HB1.out (by simp)) tok0)
  have HGR := Lib.hid hgr
  clear hgr
  refine HM.out.mono ?_
  rintro e w2 ⟨A0, c0, rfl, hraw, A', c', hrest, hd2, hg3⟩
  have hb2 := gr_blk hg3 HBN.out (by simp; omega)
  obtain ⟨⟨q0, q1, q2, q3, q4, q5⟩, fz⟩ := tok0_cells hb2
  have HG3 := Lib.hid hg3
  have HRW := Lib.hid hraw
  have HRS := Lib.hid hrest
  have HD2 := Lib.hid hd2
  have HB2 := Lib.hid hb2
  have y1 : ¬ (w.heap.size = w2.heap.size) := by have := blk_lt hb2; omega
  clear hg3 hraw hrest hd2 hb2
  have q0' := fun o => gr_cell (gr_alloc (gr_refl w2 none) o) q0
  have q1' := fun o => gr_cell (gr_alloc (gr_refl w2 none) o) q1
  have q2' := fun o => gr_cell (gr_alloc (gr_refl w2 none) o) q2
  have q3' := fun o => gr_cell (gr_alloc (gr_refl w2 none) o) q3
  have q4' := fun o => gr_cell (gr_alloc (gr_refl w2 none) o) q4
  have q5' := fun o => gr_cell (gr_alloc (gr_refl w2 none) o) q5
  have fz' := fun o i => blk_frozen (i := i) (blk_alloc HB2.out o)
  go_wp2
  refine bodyPost_ret (v := .tuple #[.agg #[.int .u8 kd, .int .u8 at_, .int .u8 na, .int .i64 pos, .slice A0 raw.length c0, .string str], .nilIface]) (by simp [results, Tryz.results90, go_sem, q0', q1', q2', q3', q4', q5']) rfl ?_
  have k1 := gr_alloc (gr_refl w2 none) (.cells #[.int .u8 kd, .int .u8 at_, .int .u8 na, .int .i64 pos, .slice A0 raw.length c0, .string str] 72)
  have k2 := tok6_gr (w := w2.alloc (.cells #[.int .u8 kd, .int .u8 at_, .int .u8 na, .int .i64 pos, .slice A0 raw.length c0, .string str] 72)) (g := w.heap.size) (a := .int .u8 kd) (b := .int .u8 at_) (c := .int .u8 na) (d := .int .i64 pos) (e := .slice A0 raw.length c0) (f := .string str)
  have hb3 := gr_blk k1 HB2.out (by simp)
  exact ⟨A0, c0, rfl, (HRW.out.kept0 k1).keptD k2 hb3 (by decide), A', c', (HRS.out.kept0 k1).keptD k2 hb3 (by decide), gr_blk k2 (gr_blk k1 HD2.out (by simp)) (by simp; omega),
    gr_new (gr_alloc (gr_new (gr_weak HGR.out) HG3.out (fun _ e => .inr e)) _) k2 (fun g' e => by cases e; left; omega)⟩

set_option maxHeartbeats 2000000 in
set_option maxRecDepth 1000000 in
/-- Behind a name and its colon: a scalar. -/
theorem parseNext_name {w : World} {g : Nat} {lc tk ta tn tp tr ts le os og : Value} {A : Option Addr} {c : Nat} {x : UInt8} {r : List UInt8} {kd at_ na pos : Int} {raw rest : List UInt8} {str : ByteArray}
    (hd : HasDec w g lc tk ta tn tp tr ts le os og (.slice A (x :: r).length c)) (h : IsB w A c (x :: r)) (hx : Plain x ∧ x.toNat ≠ 123 ∧ x.toNat ≠ 60 ∧ x.toNat ≠ 91)
    (hS : ∀ w1 A1 c1, w.grownBy w1 (some g) → HasDec w1 g lc tk ta tn tp tr ts le os og (.slice A1 (x :: r).length c1) → IsB w1 A1 c1 (x :: r) → Calls Tryz.prog 90 #[.pointer (some ⟨g, 0, none⟩)] w1 (ReadEnds w1 g lc tk ta tn tp tr ts le os og kd at_ na pos raw str rest)) :
    Calls Tryz.prog 48 #[.pointer (some ⟨g, 0, none⟩), .int .u8 2] w (ReadEnds w g lc tk ta tn tp tr ts le os og kd at_ na pos raw str rest) := by
  have hlt := blk_lt hd
  obtain ⟨hx0, hx1, hx2, hx3⟩ := hx
  have f1 : ((x.toNat : Int) == 123) = false := beq_eq_false_iff_ne.2 (by omega)
  have f2 : ((x.toNat : Int) == 60) = false := beq_eq_false_iff_ne.2 (by omega)
  have f3 : ((x.toNat : Int) == 91) = false := beq_eq_false_iff_ne.2 (by omega)
  have hgr0 := gr_alloc (gr_refl w none) tok0
  have hb0 := blk_new w tok0
  have hd1 : HasDec _ _ _ _ _ _ _ _ _ _ _ _ _ := gr_blk hgr0 hd (by simp)
  have h1 := h.kept0 hgr0
  have hM := consumeM 0 hd1 h1 (by omega) (by omega)
  rw [show ((0 : Int)).toNat = 0 from rfl, List.drop_zero, skip_plain hx0] at hM
  have HM := Lib.hid hM
  have HB0 := Lib.hid hb0
  have HG0 := Lib.hid hgr0
  have HS := Lib.hid hS
  clear hM hb0 hgr0 hd1 h1 hd h hS
  unfold tok0 at HM
  unfold ReadEnds
  go_enter Tryz.func48, Tryz.ntmps48
  go_wp2_with fail
  refine HM.out.mono ?_
  rintro e w1 ⟨rfl, A1, c1, h1, hd1, hg1⟩
  have b1 := gr_blk hg1 HB0.out (by simp; omega)
  obtain ⟨d0, d1, d2, d3, d4, d5, d6, d7, d8, d9, d10, df⟩ := HasDec.cells hd1
  obtain ⟨bb, oo, rfl, hcell⟩ := h1.head
  have hle1 := h1.le
  have hcap1 := h1.cap
  have HF := Lib.hid (HS.out w1 _ c1 (gr_new (gr_weak HG0.out) hg1 (fun _ e => .inr e)) hd1 h1)
  have HB1 := Lib.hid b1
  have HG1 := Lib.hid hg1
  clear d0 d1 d2 d3 d4 d5 d6 d7 d8 d9 df h1 hd1 hg1 b1
  go_wp2_with fail
  refine HF.out.mono ?_
  rintro e w2 ⟨A0, c0, rfl, hr2, A2, c2, h2, hd2, hg2⟩
  have b2 := gr_blk hg2 HB1.out (by simp; omega)
  obtain ⟨⟨q0, q1, q2, q3, q4, q5⟩, fz⟩ := tok0_cells b2
  have H2 := Lib.hid h2
  have HR2 := Lib.hid hr2
  have HD2 := Lib.hid hd2
  have HG2 := Lib.hid hg2
  have HB2 := Lib.hid b2
  clear h2 hd2 hg2 b2 d10 hr2 hcell
  go_wp2
  refine bodyPost_ret (v := .tuple #[.agg #[.int .u8 kd, .int .u8 at_, .int .u8 na, .int .i64 pos, .slice A0 raw.length c0, .string str], .nilIface]) (by simp [results, Tryz.results48, go_sem, q0, q1, q2, q3, q4, q5]) rfl ?_
  exact ⟨A0, c0, rfl, HR2.out.keptD tok6_gr HB2.out (by decide), A2, c2, H2.out.keptD tok6_gr HB2.out (by decide), tok6_far HD2.out (by omega),
    gr_new (gr_new (gr_new (gr_weak HG0.out) HG1.out (fun _ e => .inr e)) HG2.out (fun _ e => .inr e)) tok6_gr (fun g' e => by cases e; left; omega)⟩
end Go.Proofs.YtlfeolfjlmelpaaGreatDoor
