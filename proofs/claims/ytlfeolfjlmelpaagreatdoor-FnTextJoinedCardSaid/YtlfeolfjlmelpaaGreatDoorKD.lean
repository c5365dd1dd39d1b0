/- text.Decoder.parseFieldName at the name a. -/
import Derived.Test.YtlfeolfjlmelpaaGreatDoorKC
namespace Go.Proofs.YtlfeolfjlmelpaaGreatDoor
open Go.RowKit

set_option maxHeartbeats 1000000 in
set_option maxRecDepth 1000000 in
theorem fieldNameDoor {w : World} {g E D T : Nat} {lc tk ta tn tp tr ts le os og : Value} {A : Option Addr} {c : Nat} {r : List UInt8} {kd xn xp xr xs : Value} (u : FrameMode)
    (hd : HasDec w g lc tk ta tn tp tr ts le os og (.slice A (58 :: r).length c)) (h : IsB w A c (58 :: r))
    (he : w.cell? ⟨E, 0, none⟩ = some .nilIface) (hp : w.cell? ⟨D, 0, none⟩ = some (.pointer (some ⟨g, 0, none⟩))) (ht : HasTok w T kd (.int .u8 1) xn xp xr xs) (hT : T ≠ g) :
    CallsD Tryz.prog 127 #[.pointer (some ⟨E, 0, none⟩), .pointer (some ⟨D, 0, none⟩), .pointer (some ⟨T, 0, none⟩)] u w fun e u' w' => u' = u ∧ (e = .returned (.tuple #[]) ∧ ∃ w1 A' c', IsB w1 A' c' (skip r) ∧
      HasDec w1 g lc tk ta tn tp tr ts le os og (.slice A' (skip r).length c') ∧ w.grownBy w1 (some g) ∧ w' = w1.setCell ⟨T, 1, none⟩ (.int .u8 129)) := by
  have hM := tryConsume_yes hd h
  have HM := Lib.hid hM
  have HT := Lib.hid ht
  clear hM hd h ht
  go_enter_d Tryz.func127, Tryz.ntmps127
  go_wp2_with fail
  refine HM.out.mono ?_
  rintro e w' ⟨rfl, A', c', h', hd', hg'⟩
  have hb := gr_blk hg' HT.out (by simp; omega)
  have p1 := (HasTok.cells hb).2.1
  have f1 := blk_frozen hb 1
  have H' := Lib.hid h'
  have HD' := Lib.hid hd'
  have HG' := Lib.hid hg'
  clear h' hd' hg' hb
  go_wp2
  go_end0
  exact ⟨rfl, w', A', c', H'.out, HD'.out, HG'.out, rfl⟩

set_option maxHeartbeats 1000000 in
set_option maxRecDepth 1000000 in
theorem parseFieldName_a {w : World} {g : Nat} {lc tk ta tn tp tr ts le os : Value} {A B : Option Addr} {c nb cb : Nat} {r : List UInt8}
    (hd : HasDec w g lc tk ta tn tp tr ts le os (.slice B nb cb) (.slice A (97 :: 58 :: r).length c)) (h : IsB w A c (97 :: 58 :: r)) (hnb : (97 :: 58 :: r).length ≤ nb) (hb : nb ≤ 9223372036854775807) :
    Calls Tryz.prog 88 #[.pointer (some ⟨g, 0, none⟩)] w fun e w' => e = .returned (.tuple #[.agg #[.int .u8 2, .int .u8 129, .int .u8 0, .int .i64 ((nb : Int) - (97 :: 58 :: r).length), .slice A 1 c, .string ByteArray.empty], .nilIface]) ∧
      ∃ A' c', IsB w' A' c' (skip r) ∧ HasDec w' g lc tk ta tn tp tr ts le os (.slice B nb cb) (.slice A' (skip r).length c') ∧ w.grownBy w' (some g) := by
  have hmf : ∀ (fn : Fn) (first cap : Array Value) (w : World), (Instr.makeFunc fn first cap).run Tryz.prog w = .ok (.func fn first cap) w := fun _ _ _ _ => rfl
  have HD := Lib.hid hd
  have H := Lib.hid h
  obtain ⟨d0, d1, d2, d3, d4, d5, d6, d7, d8, d9, d10, df⟩ := hd.cells
  obtain ⟨b, o, rfl, hcell⟩ := h.head
  have hlt := blk_lt hd
  have hle := h.le
  have hcap := h.cap
  clear d0 d1 d2 d3 d4 d5 d6 d7 d8 d9 df hd h
  have hg3 := fun o1 o2 o3 => gr_alloc (gr_alloc (gr_alloc (gr_refl w none) o1) o2) o3
  have e10 := fun o1 o2 o3 => gr_cell (hg3 o1 o2 o3) d10
  have eb := fun o1 o2 o3 => gr_cell (hg3 o1 o2 o3) hcell
  have HG3 := Lib.hid hg3
  clear d10 hcell hg3
  go_enter_defers Tryz.func88, Tryz.ntmps88
  go_wp2_with fail
  obtain ⟨o1, ho1⟩ : ∃ o, o = Obj.cells #[.pointer (some ⟨g, 0, none⟩)] 68 := ⟨_, rfl⟩
  obtain ⟨o2, ho2⟩ : ∃ o, o = Obj.cells #[.int .u8 0, .int .u8 0, .int .u8 0, .int .i64 0, .slice none 0 0, .string { data := #[] }] 72 := ⟨_, rfl⟩
  obtain ⟨o3, ho3⟩ : ∃ o, o = Obj.cells #[.nilIface] 74 := ⟨_, rfl⟩
  rw [← ho1, ← ho2, ← ho3]
  have hgr := HG3.out o1 o2 o3
  have hb1 : (((w.alloc o1).alloc o2).alloc o3).heap[w.heap.size]? = some o1 := blk_alloc (blk_alloc (blk_new w o1) o2) o3
  have hb2 : (((w.alloc o1).alloc o2).alloc o3).heap[w.heap.size + 1]? = some o2 := blk_alloc (by have := blk_new (w.alloc o1) o2; simp only [World.size_alloc] at this; exact this) o3
  have hb3 : (((w.alloc o1).alloc o2).alloc o3).heap[w.heap.size + 1 + 1]? = some o3 := by have := blk_new ((w.alloc o1).alloc o2) o3; simp only [World.size_alloc] at this; exact this
  clear e10 eb HG3
  generalize ((w.alloc o1).alloc o2).alloc o3 = w2 at hgr hb1 hb2 hb3 ⊢
  subst ho1 ho2 ho3
  have hd2 := gr_blk hgr HD.out (by simp)
  have h2 := H.out.kept0 hgr
  have c1 : w2.cell? ⟨w.heap.size, 0, none⟩ = some (.pointer (some ⟨g, 0, none⟩)) := by rw [blk_cell hb1]; rfl
  have HI := Lib.hid (parseIdent_a h2)
  have HT := Lib.hid (consumeToken_any 2 1 1 hd2 h2 (by simp only [List.length_cons]; omega) hnb hb)
  have HB := Lib.hid (And.intro hb1 (And.intro hb2 hb3))
  have HGR := Lib.hid hgr
  clear hgr hb1 hb2 hb3 hd2 h2
  refine HI.out.mono ?_
  rintro e w' ⟨rfl, rfl⟩
  go_wp2_with fail
  refine HT.out.mono ?_
  rintro e w3 ⟨rfl, A', c', h3, hd3, hg3⟩
  have b1 := gr_blk hg3 HB.out.1 (by simp; omega)
  have b2 := gr_blk hg3 HB.out.2.1 (by simp; omega)
  have b3 := gr_blk hg3 HB.out.2.2 (by simp; omega)
  obtain ⟨q0, q1, q2, q3, q4, q5⟩ := HasTok.cells b2
  have fz := blk_frozen b2
  have fy := blk_frozen b3 0
  have ce : w3.cell? ⟨w.heap.size + 1 + 1, 0, none⟩ = some .nilIface := by rw [blk_cell b3]; rfl
  have H3 := Lib.hid h3
  have HD3 := Lib.hid hd3
  have HG3 := Lib.hid hg3
  have HB3 := Lib.hid (And.intro b1 (And.intro b2 b3))
  clear b1 b2 b3 h3 hd3 hg3 c1
  go_wp2
  have s0 : skip (58 :: r) = 58 :: r := by rw [skip, if_neg (by decide), if_neg (by decide)]
  have e0 : List.drop 1 (97 :: 58 :: r) = 58 :: r := rfl
  rw [e0, s0] at H3 HD3
  obtain ⟨W4, hW4⟩ : ∃ W4, W4 = ((((((w3.setCell ⟨w.heap.size + 1, 0, none⟩ (.int .u8 2)).setCell ⟨w.heap.size + 1, 1, none⟩ (.int .u8 1)).setCell ⟨w.heap.size + 1, 2, none⟩ (.int .u8 0)).setCell ⟨w.heap.size + 1, 3, none⟩ (.int .i64 ((nb : Int) - ((r.length : Int) + 1 + 1)))).setCell
      ⟨w.heap.size + 1, 4, none⟩ (.slice (some ⟨b, o, none⟩) 1 c)).setCell ⟨w.heap.size + 1, 5, none⟩ (.string ByteArray.empty)) := ⟨_, rfl⟩
  rw [← hW4]
  have t4 : HasTok W4 (w.heap.size + 1) (.int .u8 2) (.int .u8 1) (.int .u8 0) (.int .i64 ((nb : Int) - ((r.length : Int) + 1 + 1))) (.slice (some ⟨b, o, none⟩) 1 c) (.string ByteArray.empty) := by rw [hW4]; exact tok6_has HB3.out.2.1
  have g4 : w3.grownBy W4 (some (w.heap.size + 1)) := by rw [hW4]; exact tok6_gr
  clear hW4
  have b1 := gr_blk g4 HB3.out.1 (by simp)
  have b3 := gr_blk g4 HB3.out.2.2 (by simp)
  have d4 := gr_blk g4 HD3.out (by simp; omega)
  have i4 := H3.out.keptD g4 HB3.out.2.1 (by decide)
  have g5 : W4.grownBy (W4.setCell ⟨w.heap.size + 1 + 1, 0, none⟩ .nilIface) (some (w.heap.size + 1 + 1)) := gr_set (gr_refl _ _) (.inr rfl) _
  have b1' := gr_blk g5 b1 (by simp; omega)
  have b3' := blk_set b3 0 .nilIface
  have d5 := gr_blk g5 d4 (by simp; omega)
  have t5 := gr_blk g5 t4 (by simp)
  have i5 := i4.keptD g5 b3 (by decide)
  generalize W4.setCell ⟨w.heap.size + 1 + 1, 0, none⟩ .nilIface = W5 at g5 b1' b3' d5 t5 i5 ⊢
  refine leaves_cons (f := 127) (args := #[.pointer (some ⟨w.heap.size + 1 + 1, 0, none⟩), .pointer (some ⟨w.heap.size, 0, none⟩), .pointer (some ⟨w.heap.size + 1, 0, none⟩)]) (by simp) (by simp [go_sem]) ?_
  refine (fieldNameDoor .returning d5 i5 (by rw [blk_cell b3']; rfl) (by rw [blk_cell b1']; rfl) t5 (by omega)).mono ?_
  rintro e u' w'' ⟨rfl, rfl, w6, A6, c6, i6, d6, g6, rfl⟩
  have t6 := gr_blk g6 t5 (by simp; omega)
  have b6 := gr_blk g6 b3' (by simp; omega)
  have g7 : w6.grownBy (w6.setCell ⟨w.heap.size + 1, 1, none⟩ (.int .u8 129)) (some (w.heap.size + 1)) := gr_set (gr_refl _ _) (.inr rfl) _
  have t7 : HasTok (w6.setCell ⟨w.heap.size + 1, 1, none⟩ (.int .u8 129)) (w.heap.size + 1) (.int .u8 2) (.int .u8 129) (.int .u8 0) (.int .i64 ((nb : Int) - ((r.length : Int) + 1 + 1))) (.slice (some ⟨b, o, none⟩) 1 c) (.string ByteArray.empty) := blk_set t6 1 _
  have b7 := gr_blk g7 b6 (by simp)
  have d7 := gr_blk g7 d6 (by simp; omega)
  have i7 := i6.keptD g7 t6 (by decide)
  have gall : w.grownBy (w6.setCell ⟨w.heap.size + 1, 1, none⟩ (.int .u8 129)) (some g) :=
    gr_new (gr_new (gr_new (gr_new (gr_new (gr_weak HGR.out) HG3.out (fun _ e => .inr e)) g4 (fun g' e => by cases e; left; omega)) g5 (fun g' e => by cases e; left; omega)) g6 (fun _ e => .inr e)) g7 (fun g' e => by cases e; left; omega)
  generalize w6.setCell ⟨w.heap.size + 1, 1, none⟩ (.int .u8 129) = W7 at t7 b7 d7 i7 gall ⊢
  obtain ⟨q0, q1, q2, q3, q4, q5⟩ := HasTok.cells t7
  have qe : W7.cell? ⟨w.heap.size + 1 + 1, 0, none⟩ = some .nilIface := by rw [blk_cell b7]; rfl
  exact ⟨_, (by simp [results, Tryz.results88, go_sem, q0, q1, q2, q3, q4, q5, qe]; rfl), (by simp), A6, c6, i7, d7, gall⟩
end Go.Proofs.YtlfeolfjlmelpaaGreatDoor
