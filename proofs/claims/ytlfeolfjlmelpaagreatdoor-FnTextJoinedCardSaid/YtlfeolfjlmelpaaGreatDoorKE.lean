/- text.Decoder.Read and parseNext at a one-field text: the name, and the end. -/
import Derived.Test.YtlfeolfjlmelpaaGreatDoorKD
import Derived.Deep.RegionHeld3
import Derived.Deep.RegionWith
namespace Go.Proofs.YtlfeolfjlmelpaaGreatDoor
open Go.RowKit

/-- The bytes do not begin with a blank or a remark. -/
def Plain (x : UInt8) : Prop := x.toNat ≠ 32 ∧ x.toNat ≠ 10 ∧ x.toNat ≠ 13 ∧ x.toNat ≠ 9 ∧ x.toNat ≠ 35
theorem skip_plain {x : UInt8} {r : List UInt8} (h : Plain x) : skip (x :: r) = x :: r := by
  obtain ⟨h1, h2, h3, h4, h5⟩ := h
  rw [skip, if_neg (by omega), if_neg h5]

/-- A zero token's block. -/
def tok0 : Obj := .cells #[.int .u8 0, .int .u8 0, .int .u8 0, .int .i64 0, .slice none 0 0, .string { data := #[] }] 72

theorem tok0_cells {w : World} {g : Nat} (h : w.heap[g]? = some tok0) :
    (w.cell? ⟨g, 0, none⟩ = some (.int .u8 0) ∧ w.cell? ⟨g, 1, none⟩ = some (.int .u8 0) ∧ w.cell? ⟨g, 2, none⟩ = some (.int .u8 0) ∧ w.cell? ⟨g, 3, none⟩ = some (.int .i64 0) ∧ w.cell? ⟨g, 4, none⟩ = some (.slice none 0 0) ∧ w.cell? ⟨g, 5, none⟩ = some (.string { data := #[] })) ∧ ∀ i, w.frozen? ⟨g, i, none⟩ = false :=
  ⟨HasTok.cells h, blk_frozen h⟩

set_option maxHeartbeats 1000000 in
set_option maxRecDepth 1000000 in
theorem parseNext_bof {w : World} {g : Nat} {lc tk ta tn tp tr ts le os : Value} {A B : Option Addr} {c nb cb : Nat} {r : List UInt8}
    (hd : HasDec w g lc tk ta tn tp tr ts le os (.slice B nb cb) (.slice A (97 :: 58 :: r).length c)) (h : IsB w A c (97 :: 58 :: r)) (hnb : (97 :: 58 :: r).length ≤ nb) (hb : nb ≤ 9223372036854775807) :
    Calls Tryz.prog 48 #[.pointer (some ⟨g, 0, none⟩), .int .u8 0] w fun e w' => ∃ A0 c0, e = .returned (.tuple #[.agg #[.int .u8 2, .int .u8 129, .int .u8 0, .int .i64 ((nb : Int) - (97 :: 58 :: r).length), .slice A0 [(97 : UInt8)].length c0, .string ByteArray.empty], .nilIface]) ∧
      IsB w' A0 c0 [97] ∧ ∃ A' c', IsB w' A' c' (skip r) ∧ HasDec w' g lc tk ta tn tp tr ts le os (.slice B nb cb) (.slice A' (skip r).length c') ∧ w.grownBy w' (some g) := by
  have hlt := blk_lt hd
  have hgr0 := gr_alloc (gr_refl w none) tok0
  have hb0 := blk_new w tok0
  have hd1 : HasDec _ _ _ _ _ _ _ _ _ _ _ _ _ := gr_blk hgr0 hd (by simp)
  have h1 := h.kept0 hgr0
  have hM := consumeM 0 hd1 h1 (by omega) (by omega)
  rw [show ((0 : Int)).toNat = 0 from rfl, List.drop_zero, skip_plain (x := 97) (by unfold Plain; decide)] at hM
  have HM := Lib.hid hM
  have HB0 := Lib.hid hb0
  have HG0 := Lib.hid hgr0
  clear hM hb0 hgr0 hd1 h1 hd h
  unfold tok0 at HM
  go_enter Tryz.func48, Tryz.ntmps48
  go_wp2_with fail
  refine HM.out.mono ?_
  rintro e w1 ⟨rfl, A1, c1, h1, hd1, hg1⟩
  have b1 := gr_blk hg1 HB0.out (by simp; omega)
  obtain ⟨d0, d1, d2, d3, d4, d5, d6, d7, d8, d9, d10, df⟩ := HasDec.cells hd1
  have HF := Lib.hid (parseFieldName_a hd1 h1 hnb hb)
  have HR := Lib.hid (And.intro (h1.take 1 (by simp)) hd1)
  have HB1 := Lib.hid b1
  have HG1 := Lib.hid hg1
  clear d0 d1 d2 d3 d4 d5 d6 d7 d8 d9 df h1 hd1 hg1 b1
  go_wp2_with fail
  refine HF.out.mono ?_
  rintro e w2 ⟨rfl, A2, c2, h2, hd2, hg2⟩
  have b2 := gr_blk hg2 HB1.out (by simp; omega)
  obtain ⟨⟨q0, q1, q2, q3, q4, q5⟩, fz⟩ := tok0_cells b2
  have H2 := Lib.hid h2
  have HD2 := Lib.hid hd2
  have HG2 := Lib.hid hg2
  have HB2 := Lib.hid b2
  have HR2 := Lib.hid (HR.out.1.keptD hg2 HR.out.2 (by decide))
  clear h2 hd2 hg2 b2 d10
  go_wp2
  refine bodyPost_ret (v := .tuple #[.agg #[.int .u8 2, .int .u8 129, .int .u8 0, .int .i64 ((nb : Int) - (97 :: 58 :: r).length), .slice A1 1 c1, .string ByteArray.empty], .nilIface]) (by simp [results, Tryz.results48, go_sem, q0, q1, q2, q3, q4, q5]) rfl ?_
  exact ⟨A1, c1, rfl, HR2.out.keptD tok6_gr HB2.out (by decide), A2, c2, H2.out.keptD tok6_gr HB2.out (by decide), tok6_far HD2.out (by omega),
    gr_new (gr_new (gr_new (gr_weak HG0.out) HG1.out (fun _ e => .inr e)) HG2.out (fun _ e => .inr e)) tok6_gr (fun g' e => by cases e; left; omega)⟩

set_option maxHeartbeats 1000000 in
set_option maxRecDepth 1000000 in
theorem currentOpenKind_top {w : World} {g : Nat} {lc tk ta tn tp tr ts le og ins : Value} (hd : HasDec w g lc tk ta tn tp tr ts le (.slice none 0 0) og ins) :
    Calls Tryz.prog 91 #[.pointer (some ⟨g, 0, none⟩)] w fun e w' => e = .returned (.tuple #[.int .u8 0, .int .u8 0]) ∧ w = w' := by
  obtain ⟨d0, d1, d2, d3, d4, d5, d6, d7, d8, d9, d10, df⟩ := hd.cells
  clear d0 d1 d2 d3 d4 d5 d6 d7 d9 d10 df hd
  go_enter Tryz.func91, Tryz.ntmps91
  go_wp2
  go_ret2
  exact ⟨rfl, rfl⟩

set_option maxHeartbeats 1000000 in
set_option maxRecDepth 1000000 in
theorem parseNext_eof {w : World} {g : Nat} {lc tk ta tn tp tr ts le : Value} {A B : Option Addr} {c nb cb : Nat}
    (hd : HasDec w g lc tk ta tn tp tr ts le (.slice none 0 0) (.slice B nb cb) (.slice A ([] : List UInt8).length c)) (h : IsB w A c []) (hb : nb ≤ 9223372036854775807) :
    Calls Tryz.prog 48 #[.pointer (some ⟨g, 0, none⟩), .int .u8 3] w fun e w' => ∃ A0 c0, e = .returned (.tuple #[.agg #[.int .u8 1, .int .u8 0, .int .u8 0, .int .i64 (nb : Int), .slice A0 ([] : List UInt8).length c0, .string ByteArray.empty], .nilIface]) ∧
      IsB w' A0 c0 [] ∧ ∃ A' c', IsB w' A' c' [] ∧ HasDec w' g lc tk ta tn tp tr ts le (.slice none 0 0) (.slice B nb cb) (.slice A' ([] : List UInt8).length c') ∧ w.grownBy w' (some g) := by
  have hlt := blk_lt hd
  have hgr0 := gr_alloc (gr_refl w none) tok0
  have hb0 := blk_new w tok0
  have hd1 : HasDec _ _ _ _ _ _ _ _ _ _ _ _ _ := gr_blk hgr0 hd (by simp)
  have h1 := h.kept0 hgr0
  have hM := consumeM 0 hd1 h1 (by omega) (by omega)
  have e0 : skip ([] : List UInt8) = [] := by rw [skip]
  rw [show ((0 : Int)).toNat = 0 from rfl, List.drop_zero, e0] at hM
  have HM := Lib.hid hM
  have HB0 := Lib.hid hb0
  have HG0 := Lib.hid hgr0
  clear hM hb0 hgr0 hd1 h1 hd h
  unfold tok0 at HM
  go_enter Tryz.func48, Tryz.ntmps48
  go_wp2_with fail
  refine HM.out.mono ?_
  rintro e w1 ⟨rfl, A1, c1, h1, hd1, hg1⟩
  have b1 := gr_blk hg1 HB0.out (by simp; omega)
  obtain ⟨d0, d1, d2, d3, d4, d5, d6, d7, d8, d9, d10, df⟩ := HasDec.cells hd1
  have HK := Lib.hid (currentOpenKind_top hd1)
  have hF := consumeToken_any 1 0 0 hd1 h1 (by simp) (by simp) hb
  rw [List.drop_zero, e0] at hF
  have HF := Lib.hid hF
  have HR := Lib.hid (And.intro h1 hd1)
  have HB1 := Lib.hid b1
  have HG1 := Lib.hid hg1
  clear d0 d1 d2 d3 d4 d5 d6 d7 d8 d9 df h1 hd1 hg1 b1 hF e0
  simp only [List.length_nil] at d10
  go_wp2_with fail
  refine HK.out.mono ?_
  rintro e w2 ⟨rfl, rfl⟩
  go_wp2_with fail
  refine HF.out.mono ?_
  rintro e w2 ⟨rfl, A2, c2, h2, hd2, hg2⟩
  have b2 := gr_blk hg2 HB1.out (by simp; omega)
  obtain ⟨⟨q0, q1, q2, q3, q4, q5⟩, fz⟩ := tok0_cells b2
  have H2 := Lib.hid h2
  have HD2 := Lib.hid hd2
  have HG2 := Lib.hid hg2
  have HB2 := Lib.hid b2
  have HR2 := Lib.hid (HR.out.1.keptD hg2 HR.out.2 (by decide))
  clear h2 hd2 hg2 b2 d10
  go_wp2
  refine bodyPost_ret (v := .tuple #[.agg #[.int .u8 1, .int .u8 0, .int .u8 0, .int .i64 (nb : Int), .slice A1 0 c1, .string ByteArray.empty], .nilIface]) (by simp [results, Tryz.results48, go_sem, q0, q1, q2, q3, q4, q5]) rfl ?_
  exact ⟨A1, c1, rfl, HR2.out.keptD tok6_gr HB2.out (by decide), A2, c2, H2.out.keptD tok6_gr HB2.out (by decide), tok6_far HD2.out (by omega),
    gr_new (gr_new (gr_new (gr_weak HG0.out) HG1.out (fun _ e => .inr e)) HG2.out (fun _ e => .inr e)) tok6_gr (fun g' e => by cases e; left; omega)⟩

/-- What a read leaves: a token, the rest of the text, the decoder's block turned. -/
def ReadEnds (w : World) (g : Nat) (lc tk ta tn tp tr ts le os og : Value) (kd at_ na pos : Int) (raw : List UInt8) (str : ByteArray) (rest : List UInt8) (e : Ending) (w' : World) : Prop :=
  ∃ A0 c0, e = .returned (.tuple #[.agg #[.int .u8 kd, .int .u8 at_, .int .u8 na, .int .i64 pos, .slice A0 raw.length c0, .string str], .nilIface]) ∧ IsB w' A0 c0 raw ∧
    ∃ A' c', IsB w' A' c' rest ∧ HasDec w' g lc tk ta tn tp tr ts le os og (.slice A' rest.length c') ∧ w.grownBy w' (some g)

theorem tok6_cell {w : World} {g k i : Nat} {v a b c d e f : Value} (h : w.cell? ⟨k, i, none⟩ = some v) (hk : ¬ (k = g)) : ((((((w.setCell ⟨g, 0, none⟩ a).setCell ⟨g, 1, none⟩ b).setCell ⟨g, 2, none⟩ c).setCell ⟨g, 3, none⟩ d).setCell ⟨g, 4, none⟩ e).setCell ⟨g, 5, none⟩ f).cell? ⟨k, i, none⟩ = some v := by
  rw [World.cell?_of_block (w := w) (by iterate 6 rw [Below.heap_setCell _ _ _ _ hk])]
  exact h
/-! A token stored into the decoder. -/
theorem dec6_gr {w : World} {g : Nat} {a b c d e f : Value} : w.grownBy ((((((w.setCell ⟨g, 1, none⟩ a).setCell ⟨g, 2, none⟩ b).setCell ⟨g, 3, none⟩ c).setCell ⟨g, 4, none⟩ d).setCell ⟨g, 5, none⟩ e).setCell ⟨g, 6, none⟩ f) (some g) := by
  iterate 6 refine gr_set ?_ (.inr rfl) _
  exact gr_refl _ _
theorem dec6_has {w : World} {g : Nat} {a b c d e f lc tk ta tn tp tr ts le os og ins : Value} (h : HasDec w g lc tk ta tn tp tr ts le os og ins) : HasDec ((((((w.setCell ⟨g, 1, none⟩ a).setCell ⟨g, 2, none⟩ b).setCell ⟨g, 3, none⟩ c).setCell ⟨g, 4, none⟩ d).setCell ⟨g, 5, none⟩ e).setCell ⟨g, 6, none⟩ f) g lc a b c d e f le os og ins := by
  have h0 := blk_set h 1 a; have h1 := blk_set h0 2 b; have h2 := blk_set h1 3 c; have h3 := blk_set h2 4 d; have h4 := blk_set h3 5 e; have h5 := blk_set h4 6 f
  exact h5
theorem blk_drew1 {w : World} {g : Nat} {o : Obj} (h : w.heap[g]? = some o) : w.drew.heap[g]? = some o := h

set_option maxRecDepth 1000000 in
theorem readDoor {w : World} {g D : Nat} {v : Value} (u : FrameMode) (hp : w.cell? ⟨D, 0, none⟩ = some (.pointer (some ⟨g, 0, none⟩))) (h0 : w.cell? ⟨g, 0, none⟩ = some v) (hf : w.frozen? ⟨g, 0, none⟩ = false) :
    CallsD Tryz.prog 47 #[.pointer (some ⟨D, 0, none⟩)] u w fun e u' w' => u' = u ∧ (e = .returned (.tuple #[]) ∧ w' = w.setCell ⟨g, 0, none⟩ (.int .u8 0)) := by
  go_enter_d Tryz.func47, Tryz.ntmps47
  go_wp2
  go_end0
  exact ⟨rfl, rfl⟩

set_option maxHeartbeats 2000000 in
set_option maxRecDepth 1000000 in
theorem Read_of {w : World} {g : Nat} {k : Int} {ta tn tp tr ts le os og ins : Value} {kd at_ na pos : Int} {raw rest : List UInt8} {str : ByteArray}
    (hd : HasDec w g (.int .u8 0) (.int .u8 k) ta tn tp tr ts le os og ins) (hk8 : kd ≠ 8) (hk9 : kd ≠ 9)
    (hP : ∀ w1, w.grownBy w1 none → Calls Tryz.prog 48 #[.pointer (some ⟨g, 0, none⟩), .int .u8 k] w1 (ReadEnds w1 g (.int .u8 0) (.int .u8 k) ta tn tp tr ts le os og kd at_ na pos raw str rest)) :
    Calls Tryz.prog 28 #[.pointer (some ⟨g, 0, none⟩)] w fun e w' => ∃ A0 c0, e = .returned (.tuple #[.agg #[.int .u8 kd, .int .u8 at_, .int .u8 na, .int .i64 pos, .slice A0 raw.length c0, .string str], .nilIface]) ∧ IsB w' A0 c0 raw ∧
      ∃ A' c', IsB w' A' c' rest ∧ HasDec w' g (.int .u8 0) (.int .u8 kd) (.int .u8 at_) (.int .u8 na) (.int .i64 pos) (.slice A0 raw.length c0) (.string str) le os og (.slice A' rest.length c') ∧ w.grownBy w' (some g) := by
  have hmf : ∀ (fn : Fn) (first cap : Array Value) (w : World), (Instr.makeFunc fn first cap).run Tryz.prog w = .ok (.func fn first cap) w := fun _ _ _ _ => rfl
  have HP := Lib.hid hP
  have HD := Lib.hid hd
  have hlt := blk_lt hd
  obtain ⟨d0, d1, d2, d3, d4, d5, d6, d7, d8, d9, d10, df⟩ := hd.cells
  have hg2 := fun o1 o2 => gr_alloc (gr_alloc (gr_refl w none) o1) o2
  have e0 := fun o1 o2 => gr_cell (hg2 o1 o2) d0
  have e1 := fun o1 o2 => gr_cell (hg2 o1 o2) d1
  have HG2 := Lib.hid hg2
  clear d0 d1 d2 d3 d4 d5 d6 d7 d8 d9 d10 df hd hP hg2
  go_enter_defers Tryz.func28, Tryz.ntmps28
  go_wp2_with fail
  obtain ⟨o1, ho1⟩ : ∃ o, o = Obj.cells #[.pointer (some ⟨g, 0, none⟩)] 68 := ⟨_, rfl⟩
  rw [← ho1]
  have hgr : w.grownBy ((w.alloc o1).alloc tok0) none := HG2.out o1 tok0
  have hb1 : ((w.alloc o1).alloc tok0).heap[w.heap.size]? = some o1 := blk_alloc (blk_new w o1) tok0
  have hb2 : ((w.alloc o1).alloc tok0).heap[w.heap.size + 1]? = some tok0 := by have := blk_new (w.alloc o1) tok0; simp only [World.size_alloc] at this; exact this
  have hsz : ((w.alloc o1).alloc tok0).heap.size = w.heap.size + 2 := by simp
  unfold tok0 at hgr hb1 hb2 hsz
  clear e0 e1 HG2
  obtain ⟨w2, hw2⟩ : ∃ w2, w2 = (w.alloc o1).alloc (.cells #[.int .u8 0, .int .u8 0, .int .u8 0, .int .i64 0, .slice none 0 0, .string { data := #[] }] 72) := ⟨_, rfl⟩
  rw [← hw2] at hgr hb1 hb2 hsz ⊢
  clear hw2
  subst ho1
  have hd2 := gr_blk hgr HD.out (by simp)
  obtain ⟨d0, d1, d2, d3, d4, d5, d6, d7, d8, d9, d10, df⟩ := HasDec.cells hd2
  have c1 : w2.cell? ⟨w.heap.size, 0, none⟩ = some (.pointer (some ⟨g, 0, none⟩)) := by rw [blk_cell hb1]; rfl
  clear d0 d2 d3 d4 d5 d6 d7 d8 d9 d10 df hd2
  have HB := Lib.hid (And.intro hb1 hb2)
  have hK : ∀ W w3 : World, w2.grownBy W none → W.grownBy w3 (some g) → w3.cell? ⟨w.heap.size, 0, none⟩ = some (.pointer (some ⟨g, 0, none⟩)) := fun W w3 h1 h2 => by
    rw [blk_cell (gr_blk h2 (gr_blk h1 HB.out.1 (by simp)) (by simp; omega))]; rfl
  have HK := Lib.hid hK
  clear hK
  have HGR := Lib.hid hgr
  have HSZ := Lib.hid hsz
  clear hb1 hb2 hgr hsz
  have hN : ∀ W w3 : World, W.heap[w2.heap.size]? = some tok0 → W.grownBy w3 (some g) → (w3.cell? ⟨w2.heap.size, 0, none⟩ = some (.int .u8 0) ∧ w3.cell? ⟨w2.heap.size, 1, none⟩ = some (.int .u8 0) ∧ w3.cell? ⟨w2.heap.size, 2, none⟩ = some (.int .u8 0) ∧ w3.cell? ⟨w2.heap.size, 3, none⟩ = some (.int .i64 0) ∧ w3.cell? ⟨w2.heap.size, 4, none⟩ = some (.slice none 0 0) ∧ w3.cell? ⟨w2.heap.size, 5, none⟩ = some (.string { data := #[] })) ∧ ∀ i, w3.frozen? ⟨w2.heap.size, i, none⟩ = false := fun W w3 h1 h2 =>
    tok0_cells (gr_blk h2 h1 (by have := HGR.out.size; simp; omega))
  have HN := Lib.hid hN
  have hZ : ∀ W w3 : World, w2.grownBy W none → W.grownBy w3 (some g) → ¬ (w.heap.size = w3.heap.size) ∧ ¬ (g = w3.heap.size) := fun W w3 h1 h2 => by
    have := h1.size; have := h2.size; have := HSZ.out; exact ⟨by omega, by omega⟩
  have HZ := Lib.hid hZ
  have y1 : ¬ (w.heap.size = w2.heap.size) := by have := HSZ.out; omega
  have y2 : ¬ (g = w2.heap.size) := by have := HSZ.out; omega
  clear hN hZ
  go_region_held3 (fun w' => (w'.cell? ⟨w.heap.size, 0, none⟩ = some (.pointer (some ⟨g, 0, none⟩)) ∧ w'.cell? ⟨g, 1, none⟩ = some (.int .u8 k))) (first | go_keep | exact ⟨tok6_cell k3 y1, tok6_cell k1 y2⟩)
    (first
      | (go_at_call 48; refine (HP.out w2.drew (gr_drew HGR.out)).mono ?_; rintro e w3 ⟨A0, c0, rfl, h0, A', c', h', hd', hg'⟩; have k1 := (HasDec.cells hd').2.1; have k3 := HK.out _ _ (gr_drew (gr_refl _ _)) hg'; obtain ⟨z1, z2⟩ := HZ.out _ w3 (gr_drew (gr_refl _ _)) hg')
      | (go_at_call 48; refine (HP.out (w2.alloc _).drew (gr_drew (gr_alloc HGR.out _))).mono ?_; rintro e w3 ⟨A0, c0, rfl, h0, A', c', h', hd', hg'⟩; have k1 := (HasDec.cells hd').2.1; have k3 := HK.out _ _ (gr_drew (gr_alloc (gr_refl _ _) _)) hg'; have hn := fun h => HN.out _ w3 h hg'; obtain ⟨⟨n0, n1, n2, n3, n4, n5⟩, nf⟩ := hn (blk_drew1 (blk_new w2 _)); clear hn))
  · have hb3 := blk_new w3 (.cells #[.int .u8 kd, .int .u8 at_, .int .u8 na, .int .i64 pos, .slice A0 raw.length c0, .string str] 72)
    have hW : w2.grownBy (w3.alloc (.cells #[.int .u8 kd, .int .u8 at_, .int .u8 na, .int .i64 pos, .slice A0 raw.length c0, .string str] 72)) (some g) := gr_alloc (gr_trans (gr_weak (gr_drew (gr_refl _ _))) hg') _
    have hTok : HasTok _ w3.heap.size (.int .u8 kd) (.int .u8 at_) (.int .u8 na) (.int .i64 pos) (.slice A0 raw.length c0) (.string str) := hb3
    have hDec : HasDec _ g _ _ _ _ _ _ _ _ _ _ _ := blk_alloc hd' (.cells #[.int .u8 kd, .int .u8 at_, .int .u8 na, .int .i64 pos, .slice A0 raw.length c0, .string str] 72)
    have hRaw := h0.kept0 (World.grownBy_alloc w3 (.cells #[.int .u8 kd, .int .u8 at_, .int .u8 na, .int .i64 pos, .slice A0 raw.length c0, .string str] 72) none)
    have hRest := h'.kept0 (World.grownBy_alloc w3 (.cells #[.int .u8 kd, .int .u8 at_, .int .u8 na, .int .i64 pos, .slice A0 raw.length c0, .string str] 72) none)
    have hT : w.heap.size + 2 ≤ w3.heap.size := by have := hg'.size; have := HSZ.out; simp only [World.drew] at *; omega
    clear k1 k3 z1 z2 hb3
    generalize hTe : w3.heap.size = T at hTok hT ⊢
    generalize w3.alloc (.cells #[.int .u8 kd, .int .u8 at_, .int .u8 na, .int .i64 pos, .slice A0 raw.length c0, .string str] 72) = W at hW hTok hDec hRaw hRest ⊢
    clear hTe hd' h' h0 hg'
    have hb1 := gr_blk hW HB.out.1 (by simp; omega)
    have hb2 := gr_blk hW HB.out.2 (by simp; omega)
    obtain ⟨x0, x1, x2, x3, x4, x5⟩ := HasTok.cells hTok
    obtain ⟨⟨y0, y3, y4, y5, y6, y7⟩, fy⟩ := tok0_cells hb2
    obtain ⟨d0, d1, d2, d3, d4, d5, d6, d7, d8, d9, d10, df⟩ := HasDec.cells hDec
    have cb : W.cell? ⟨w.heap.size, 0, none⟩ = some (.pointer (some ⟨g, 0, none⟩)) := by rw [blk_cell hb1]; rfl
    have n8 : (kd == 8) = false := beq_eq_false_iff_ne.2 hk8
    have n9 : (kd == 9) = false := beq_eq_false_iff_ne.2 hk9
    have z3 : ¬ (T = g) := by omega
    have z4 : ¬ (g = T) := by omega
    have z5 : ¬ (w.heap.size = g) := by omega
    have z6 : ¬ (g = w.heap.size) := by omega
    have HA := Lib.hid (And.intro hTok (And.intro hDec (And.intro hb1 hb2)))
    have HI := Lib.hid (And.intro hRaw hRest)
    have HW := Lib.hid hW
    have HT := Lib.hid hT
    clear hTok hDec hRaw hRest hW hb1 hb2 d7 d8 d9 d10 hT
    go_wp2
    have e1 := dec6_has (a := .int .u8 kd) (b := .int .u8 at_) (c := .int .u8 na) (d := .int .i64 pos) (e := .slice A0 raw.length c0) (f := .string str) HA.out.2.1
    have e2 := dec6_gr (w := W) (g := g) (a := .int .u8 kd) (b := .int .u8 at_) (c := .int .u8 na) (d := .int .i64 pos) (e := .slice A0 raw.length c0) (f := .string str)
    generalize ((((((W.setCell ⟨g, 1, none⟩ (.int .u8 kd)).setCell ⟨g, 2, none⟩ (.int .u8 at_)).setCell ⟨g, 3, none⟩ (.int .u8 na)).setCell ⟨g, 4, none⟩ (.int .i64 pos)).setCell ⟨g, 5, none⟩ (.slice A0 raw.length c0)).setCell ⟨g, 6, none⟩ (.string str)) = W1 at e1 e2 ⊢
    have b1 := gr_blk e2 HA.out.2.2.1 (by simp; omega)
    have b2 := gr_blk e2 HA.out.2.2.2 (by simp; omega)
    have r1 := HI.out.1.keptD e2 HA.out.2.1 (by decide)
    have r2 := HI.out.2.keptD e2 HA.out.2.1 (by decide)
    have e3 := tok6_gr (w := W1) (g := w.heap.size + 1) (a := .int .u8 kd) (b := .int .u8 at_) (c := .int .u8 na) (d := .int .i64 pos) (e := .slice A0 raw.length c0) (f := .string str)
    have e4 := tok6_has (w := W1) (g := w.heap.size + 1) (a := .int .u8 kd) (b := .int .u8 at_) (c := .int .u8 na) (d := .int .i64 pos) (e := .slice A0 raw.length c0) (f := .string str) b2
    generalize ((((((W1.setCell ⟨w.heap.size + 1, 0, none⟩ (.int .u8 kd)).setCell ⟨w.heap.size + 1, 1, none⟩ (.int .u8 at_)).setCell ⟨w.heap.size + 1, 2, none⟩ (.int .u8 na)).setCell ⟨w.heap.size + 1, 3, none⟩ (.int .i64 pos)).setCell ⟨w.heap.size + 1, 4, none⟩ (.slice A0 raw.length c0)).setCell ⟨w.heap.size + 1, 5, none⟩ (.string str)) = W2 at e3 e4 ⊢
    have b1' := gr_blk e3 b1 (by simp)
    have e1' := gr_blk e3 e1 (by simp; omega)
    have r1' := r1.keptD e3 b2 (by decide)
    have r2' := r2.keptD e3 b2 (by decide)
    obtain ⟨v0, _, _, _, _, _, _, _, _, _, _, vf⟩ := HasDec.cells e1'
    refine leaves_cons (f := 47) (args := #[.pointer (some ⟨w.heap.size, 0, none⟩)]) (by simp) (by simp [go_sem]) ?_
    refine (readDoor .returning (by rw [blk_cell b1']; rfl) v0 (vf 0)).mono ?_
    rintro e u' w'' ⟨rfl, rfl, rfl⟩
    have e5 : HasDec (W2.setCell ⟨g, 0, none⟩ (.int .u8 0)) g _ _ _ _ _ _ _ _ _ _ _ := blk_set e1' 0 (.int .u8 0)
    have e6 : W2.grownBy (W2.setCell ⟨g, 0, none⟩ (.int .u8 0)) (some g) := gr_set (gr_refl _ _) (.inr rfl) _
    have e7 := gr_blk e6 e4 (by simp; omega)
    have r1'' := r1'.keptD e6 e1' (by decide)
    have r2'' := r2'.keptD e6 e1' (by decide)
    have gall : w.grownBy (W2.setCell ⟨g, 0, none⟩ (.int .u8 0)) (some g) :=
      gr_new (gr_new (gr_new (gr_new (gr_weak HGR.out) HW.out (fun _ e => .inr e)) e2 (fun _ e => .inr e)) e3 (fun g' e => by cases e; left; omega)) e6 (fun _ e => .inr e)
    generalize W2.setCell ⟨g, 0, none⟩ (.int .u8 0) = W3 at e5 e7 r1'' r2'' gall ⊢
    obtain ⟨s0, s1, s2, s3, s4, s5⟩ := HasTok.cells e7
    exact ⟨_, (by simp [results, Tryz.results28, go_sem, s0, s1, s2, s3, s4, s5]), A0, c0, rfl, r1'', A', c', r2'', e5, gall⟩
  · have hT : w.heap.size + 2 ≤ w2.heap.size := by have := HSZ.out; omega
    have hb3 : w3.heap[w2.heap.size]? = some tok0 := gr_blk hg' (blk_drew1 (blk_new w2 tok0)) (by simp; omega)
    have hW : w2.grownBy _ (some g) := gr_new (gr_trans (gr_weak (gr_drew (gr_alloc (gr_refl _ _) tok0))) hg') (tok6_gr (w := w3) (g := w2.heap.size) (a := .int .u8 kd) (b := .int .u8 at_) (c := .int .u8 na) (d := .int .i64 pos) (e := .slice A0 raw.length c0) (f := .string str)) (fun g' e => by cases e; left; omega)
    have hTok := tok6_has (w := w3) (g := w2.heap.size) (a := .int .u8 kd) (b := .int .u8 at_) (c := .int .u8 na) (d := .int .i64 pos) (e := .slice A0 raw.length c0) (f := .string str) hb3
    have hDec : HasDec _ g _ _ _ _ _ _ _ _ _ _ _ := tok6_far (w := w3) (g := w2.heap.size) (a := .int .u8 kd) (b := .int .u8 at_) (c := .int .u8 na) (d := .int .i64 pos) (e := .slice A0 raw.length c0) (f := .string str) hd' y2
    have hRaw := h0.keptD (tok6_gr (w := w3) (g := w2.heap.size) (a := .int .u8 kd) (b := .int .u8 at_) (c := .int .u8 na) (d := .int .i64 pos) (e := .slice A0 raw.length c0) (f := .string str)) hb3 (by decide)
    have hRest := h'.keptD (tok6_gr (w := w3) (g := w2.heap.size) (a := .int .u8 kd) (b := .int .u8 at_) (c := .int .u8 na) (d := .int .i64 pos) (e := .slice A0 raw.length c0) (f := .string str)) hb3 (by decide)
    clear k1 k3 y1 y2 hb3 n0 n1 n2 n3 n4 n5 nf hd' h' h0 hg' HN HZ HK HSZ
    generalize hTe : w2.heap.size = T at hTok hT hW hDec hRaw hRest ⊢
    generalize ((((((w3.setCell ⟨T, 0, none⟩ (.int .u8 kd)).setCell ⟨T, 1, none⟩ (.int .u8 at_)).setCell ⟨T, 2, none⟩ (.int .u8 na)).setCell ⟨T, 3, none⟩ (.int .i64 pos)).setCell ⟨T, 4, none⟩ (.slice A0 raw.length c0)).setCell ⟨T, 5, none⟩ (.string str)) = W at hW hTok hDec hRaw hRest ⊢
    clear hTe
    have hb1 := gr_blk hW HB.out.1 (by simp; omega)
    have hb2 := gr_blk hW HB.out.2 (by simp; omega)
    obtain ⟨x0, x1, x2, x3, x4, x5⟩ := HasTok.cells hTok
    obtain ⟨⟨y0, y3, y4, y5, y6, y7⟩, fy⟩ := tok0_cells hb2
    obtain ⟨d0, d1, d2, d3, d4, d5, d6, d7, d8, d9, d10, df⟩ := HasDec.cells hDec
    have cb : W.cell? ⟨w.heap.size, 0, none⟩ = some (.pointer (some ⟨g, 0, none⟩)) := by rw [blk_cell hb1]; rfl
    have n8 : (kd == 8) = false := beq_eq_false_iff_ne.2 hk8
    have n9 : (kd == 9) = false := beq_eq_false_iff_ne.2 hk9
    have z3 : ¬ (T = g) := by omega
    have z4 : ¬ (g = T) := by omega
    have z5 : ¬ (w.heap.size = g) := by omega
    have z6 : ¬ (g = w.heap.size) := by omega
    have HA := Lib.hid (And.intro hTok (And.intro hDec (And.intro hb1 hb2)))
    have HI := Lib.hid (And.intro hRaw hRest)
    have HW := Lib.hid hW
    have HT := Lib.hid hT
    clear hTok hDec hRaw hRest hW hb1 hb2 d7 d8 d9 d10 hT
    go_wp2
    have e1 := dec6_has (a := .int .u8 kd) (b := .int .u8 at_) (c := .int .u8 na) (d := .int .i64 pos) (e := .slice A0 raw.length c0) (f := .string str) HA.out.2.1
    have e2 := dec6_gr (w := W) (g := g) (a := .int .u8 kd) (b := .int .u8 at_) (c := .int .u8 na) (d := .int .i64 pos) (e := .slice A0 raw.length c0) (f := .string str)
    generalize ((((((W.setCell ⟨g, 1, none⟩ (.int .u8 kd)).setCell ⟨g, 2, none⟩ (.int .u8 at_)).setCell ⟨g, 3, none⟩ (.int .u8 na)).setCell ⟨g, 4, none⟩ (.int .i64 pos)).setCell ⟨g, 5, none⟩ (.slice A0 raw.length c0)).setCell ⟨g, 6, none⟩ (.string str)) = W1 at e1 e2 ⊢
    have b1 := gr_blk e2 HA.out.2.2.1 (by simp; omega)
    have b2 := gr_blk e2 HA.out.2.2.2 (by simp; omega)
    have r1 := HI.out.1.keptD e2 HA.out.2.1 (by decide)
    have r2 := HI.out.2.keptD e2 HA.out.2.1 (by decide)
    have e3 := tok6_gr (w := W1) (g := w.heap.size + 1) (a := .int .u8 kd) (b := .int .u8 at_) (c := .int .u8 na) (d := .int .i64 pos) (e := .slice A0 raw.length c0) (f := .string str)
    have e4 := tok6_has (w := W1) (g := w.heap.size + 1) (a := .int .u8 kd) (b := .int .u8 at_) (c := .int .u8 na) (d := .int .i64 pos) (e := .slice A0 raw.length c0) (f := .string str) b2
    generalize ((((((W1.setCell ⟨w.heap.size + 1, 0, none⟩ (.int .u8 kd)).setCell ⟨w.heap.size + 1, 1, none⟩ (.int .u8 at_)).setCell ⟨w.heap.size + 1, 2, none⟩ (.int .u8 na)).setCell ⟨w.heap.size + 1, 3, none⟩ (.int .i64 pos)).setCell ⟨w.heap.size + 1, 4, none⟩ (.slice A0 raw.length c0)).setCell ⟨w.heap.size + 1, 5, none⟩ (.string str)) = W2 at e3 e4 ⊢
    have b1' := gr_blk e3 b1 (by simp)
    have e1' := gr_blk e3 e1 (by simp; omega)
    have r1' := r1.keptD e3 b2 (by decide)
    have r2' := r2.keptD e3 b2 (by decide)
    obtain ⟨v0, _, _, _, _, _, _, _, _, _, _, vf⟩ := HasDec.cells e1'
    refine leaves_cons (f := 47) (args := #[.pointer (some ⟨w.heap.size, 0, none⟩)]) (by simp) (by simp [go_sem]) ?_
    refine (readDoor .returning (by rw [blk_cell b1']; rfl) v0 (vf 0)).mono ?_
    rintro e u' w'' ⟨rfl, rfl, rfl⟩
    have e5 : HasDec (W2.setCell ⟨g, 0, none⟩ (.int .u8 0)) g _ _ _ _ _ _ _ _ _ _ _ := blk_set e1' 0 (.int .u8 0)
    have e6 : W2.grownBy (W2.setCell ⟨g, 0, none⟩ (.int .u8 0)) (some g) := gr_set (gr_refl _ _) (.inr rfl) _
    have e7 := gr_blk e6 e4 (by simp; omega)
    have r1'' := r1'.keptD e6 e1' (by decide)
    have r2'' := r2'.keptD e6 e1' (by decide)
    have gall : w.grownBy (W2.setCell ⟨g, 0, none⟩ (.int .u8 0)) (some g) :=
      gr_new (gr_new (gr_new (gr_new (gr_weak HGR.out) HW.out (fun _ e => .inr e)) e2 (fun _ e => .inr e)) e3 (fun g' e => by cases e; left; omega)) e6 (fun _ e => .inr e)
    generalize W2.setCell ⟨g, 0, none⟩ (.int .u8 0) = W3 at e5 e7 r1'' r2'' gall ⊢
    obtain ⟨s0, s1, s2, s3, s4, s5⟩ := HasTok.cells e7
    exact ⟨_, (by simp [results, Tryz.results28, go_sem, s0, s1, s2, s3, s4, s5]), A0, c0, rfl, r1'', A', c', r2'', e5, gall⟩
end Go.Proofs.YtlfeolfjlmelpaaGreatDoor
