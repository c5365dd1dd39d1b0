/- text.parseNumber at whole numbers of base 10, 16, 8 that end the text. -/
import Derived.Test.YtlfeolfjlmelpaaGreatDoorKE
namespace Go.Proofs.YtlfeolfjlmelpaaGreatDoor
open Go.RowKit

/-- What is left of a slice's front is below what was there. -/
def isDig (x : UInt8) : Prop := 48 ≤ x.toNat ∧ x.toNat ≤ 57

set_option maxHeartbeats 2000000 in
set_option maxRecDepth 1000000 in
theorem parseNumber_dec {w : World} {A : Option Addr} {c : Nat} {x : UInt8} {r : List UInt8} (h : IsB w A c (x :: r)) (hx : 49 ≤ x.toNat ∧ x.toNat ≤ 57) (hr : ∀ y ∈ r, isDig y) :
    Calls Tryz.prog 131 #[.slice A (x :: r).length c] w fun e w' => e = .returned (.agg #[.int .u8 0, .bool false, .int .i64 ((x :: r).length : Nat), .int .i64 0]) ∧ w.grownBy w' none := by
  have hcap := h.cap
  have hle : r.length + 1 ≤ c := by have := h.le; simpa using this
  obtain ⟨A1, c1, h1, hcut⟩ := h.cut1
  have hgr := World.grownBy_alloc w (.cells #[.int .u8 0, .bool false, .int .i64 0, .int .i64 0] 201) none
  have H1 := Lib.hid (h1.kept0 hgr)
  obtain ⟨b, o, rfl, hcell⟩ := h.head
  have hcell' := gr_cell hgr hcell
  have f1 : ((x.toNat : Int) == 45) = false := beq_eq_false_iff_ne.2 (by omega)
  have f2 : ((x.toNat : Int) == 48) = false := beq_eq_false_iff_ne.2 (by omega)
  have HR := Lib.hid hr
  have HG := Lib.hid hgr
  clear h h1 hcell hgr hr
  go_enter Tryz.func131, Tryz.ntmps131
  go_wp2
  obtain ⟨W, hW⟩ : ∃ W, W = w.alloc (.cells #[.int .u8 0, .bool false, .int .i64 0, .int .i64 0] 201) := ⟨_, rfl⟩
  have hb := blk_new w (.cells #[.int .u8 0, .bool false, .int .i64 0, .int .i64 0] 201)
  rw [← hW] at H1 HG hb ⊢
  have HN := Lib.hid hb
  clear hW hb hcell'
  go_loop [6, 11] (fun v n => ∃ A' c' ys, v = .slice A' ys.length c' ∧ n = .int .i64 ((r.length : Int) + 1 - ys.length) ∧ Hid (IsB W A' c' ys) ∧ Hid (∀ y ∈ ys, isDig y) ∧ ys.length ≤ r.length) (fun v _ => lenV v)
  case atStart => exact ⟨A1, c1, r, rfl, by congr 1; omega, H1, HR, Nat.le_refl _⟩
  case round =>
    obtain ⟨A', c', ys, rfl, rfl, hB, hD, hl⟩ := hrel
    cases ys with
    | cons y s =>
      obtain ⟨b2, o2, rfl, hc2⟩ := hB.out.head
      obtain ⟨A2, c2, h2, hcut2⟩ := hB.out.cut1
      have hy := hD.out y (by simp)
      unfold isDig at hy
      have H2 := Lib.hid h2
      have HD2 := Lib.hid (fun z hz => hD.out z (List.mem_cons_of_mem _ hz))
      have hl2 : s.length + 1 ≤ r.length := by simpa using hl
      clear h2 hcut
      simp only [List.length_cons]
      go_wp2
      exact ⟨⟨A2, c2, s, by simp, by omega, H2, HD2, by omega⟩, by simp [lenV]⟩
    | nil =>
      clear hcut
      obtain ⟨n0, n1, n2, n3⟩ : W.cell? ⟨w.heap.size, 0, none⟩ = some (.int .u8 0) ∧ W.cell? ⟨w.heap.size, 1, none⟩ = some (.bool false) ∧ W.cell? ⟨w.heap.size, 2, none⟩ = some (.int .i64 0) ∧ W.cell? ⟨w.heap.size, 3, none⟩ = some (.int .i64 0) := by
        refine ⟨?_, ?_, ?_, ?_⟩ <;> (rw [blk_cell HN.out]; rfl)
      have nf := blk_frozen HN.out
      go_wp2
      refine bodyPost_ret (v := .agg #[.int .u8 0, .bool false, .int .i64 ((x :: r).length : Nat), .int .i64 0]) (by simp [results, Tryz.results131, go_sem, n0, n1, n2, n3]) rfl ?_
      refine ⟨rfl, gr_new HG.out (r' := some w.heap.size) ?_ (fun g' e => by cases e; left; omega)⟩
      iterate 4 refine gr_set ?_ (.inr rfl) _
      exact gr_refl _ _

theorem num_cells {W : World} {g : Nat} (h : W.heap[g]? = some (.cells #[.int .u8 0, .bool false, .int .i64 0, .int .i64 0] 201)) :
    W.cell? ⟨g, 0, none⟩ = some (.int .u8 0) ∧ W.cell? ⟨g, 1, none⟩ = some (.bool false) ∧ W.cell? ⟨g, 2, none⟩ = some (.int .i64 0) ∧ W.cell? ⟨g, 3, none⟩ = some (.int .i64 0) ∧ ∀ i, W.frozen? ⟨g, i, none⟩ = false := by
  refine ⟨?_, ?_, ?_, ?_, blk_frozen h⟩ <;> (rw [blk_cell h]; rfl)
theorem num4_gr {w W : World} {g : Nat} {a b c d : Value} (h : w.grownBy W none) (hg : w.heap.size ≤ g) : w.grownBy ((((W.setCell ⟨g, 0, none⟩ a).setCell ⟨g, 1, none⟩ b).setCell ⟨g, 2, none⟩ c).setCell ⟨g, 3, none⟩ d) none := by
  iterate 4 refine gr_set ?_ (.inl hg) _
  exact h

set_option maxHeartbeats 2000000 in
set_option maxRecDepth 1000000 in
theorem parseNumber_zero {w : World} {A : Option Addr} {c : Nat} (h : IsB w A c [48]) :
    Calls Tryz.prog 131 #[.slice A [(48 : UInt8)].length c] w fun e w' => e = .returned (.agg #[.int .u8 0, .bool false, .int .i64 1, .int .i64 0]) ∧ w.grownBy w' none := by
  have hcap := h.cap
  have hle : 1 ≤ c := by have := h.le; simpa using this
  obtain ⟨A1, c1, h1, hcut⟩ := h.cut1
  have hgr := World.grownBy_alloc w (.cells #[.int .u8 0, .bool false, .int .i64 0, .int .i64 0] 201) none
  have hb := blk_new w (.cells #[.int .u8 0, .bool false, .int .i64 0, .int .i64 0] 201)
  obtain ⟨b, o, rfl, hcell⟩ := h.head
  have hcell' := gr_cell hgr hcell
  have HG := Lib.hid hgr
  obtain ⟨n0, n1, n2, n3, nf⟩ := num_cells hb
  clear h h1 hcell hgr hb
  simp only [List.length_nil, Nat.zero_add] at hcut
  go_enter Tryz.func131, Tryz.ntmps131
  go_wp2
  refine bodyPost_ret (v := .agg #[.int .u8 0, .bool false, .int .i64 1, .int .i64 0]) (by simp [results, Tryz.results131, go_sem]) rfl ?_
  exact ⟨rfl, World.grownBy_alloc w _ none⟩

set_option maxHeartbeats 2000000 in
set_option maxRecDepth 1000000 in
theorem parseNumber_neg {w : World} {A : Option Addr} {c : Nat} {x : UInt8} {r : List UInt8} (h : IsB w A c (45 :: x :: r)) (hx : 49 ≤ x.toNat ∧ x.toNat ≤ 57) (hr : ∀ y ∈ r, isDig y) :
    Calls Tryz.prog 131 #[.slice A (45 :: x :: r).length c] w fun e w' => e = .returned (.agg #[.int .u8 0, .bool true, .int .i64 ((45 :: x :: r).length : Nat), .int .i64 0]) ∧ w.grownBy w' none := by
  have hcap := h.cap
  have hle : r.length + 1 + 1 ≤ c := by have := h.le; simpa using this
  obtain ⟨A1, c1, h1, hcut⟩ := h.cut1
  simp only [List.length_cons] at hcut
  have hgr := World.grownBy_alloc w (.cells #[.int .u8 0, .bool false, .int .i64 0, .int .i64 0] 201) none
  have hb := blk_new w (.cells #[.int .u8 0, .bool false, .int .i64 0, .int .i64 0] 201)
  obtain ⟨b, o, rfl, hcell⟩ := h.head
  have hcell' := gr_cell hgr hcell
  have hC := consume_any A1 c1 (x :: r) 0 _ (h1.kept0 hgr) (by omega)
  rw [List.drop_zero, skip_plain (by unfold Plain; omega)] at hC
  have HC := Lib.hid hC
  have f2 : ((x.toNat : Int) == 48) = false := beq_eq_false_iff_ne.2 (by omega)
  have HR := Lib.hid hr
  have HG := Lib.hid hgr
  have HN := Lib.hid hb
  clear h h1 hcell hgr hr hC hb
  go_enter Tryz.func131, Tryz.ntmps131
  go_wp2_with fail
  refine HC.out.mono ?_
  rintro e w' ⟨A2, c2, rfl, h2, rfl⟩
  obtain ⟨b2, o2, rfl, hcell2⟩ := h2.head
  obtain ⟨A3, c3, h3, hcut3⟩ := h2.cut1
  have H3 := Lib.hid h3
  clear hcell' h2 h3
  obtain ⟨W, hW⟩ : ∃ W, W = w.alloc (.cells #[.int .u8 0, .bool false, .int .i64 0, .int .i64 0] 201) := ⟨_, rfl⟩
  rw [← hW] at HN HG H3 hcell2 ⊢
  clear hW HC
  go_wp2
  go_loop [6, 11] (fun v n => ∃ A' c' ys, v = .slice A' ys.length c' ∧ n = .int .i64 ((r.length : Int) + 1 - ys.length) ∧ Hid (IsB W A' c' ys) ∧ Hid (∀ y ∈ ys, isDig y) ∧ ys.length ≤ r.length) (fun v _ => lenV v)
  case atStart => exact ⟨A3, c3, r, rfl, by congr 1; omega, H3, HR, Nat.le_refl _⟩
  case round =>
    obtain ⟨A', c', ys, rfl, rfl, hB, hD, hl⟩ := hrel
    clear hcut hcut3 hcell2
    cases ys with
    | cons y s =>
      obtain ⟨b2, o2, rfl, hc2⟩ := hB.out.head
      obtain ⟨A2, c2, h2, hcut2⟩ := hB.out.cut1
      have hy := hD.out y (by simp)
      unfold isDig at hy
      have H2 := Lib.hid h2
      have HD2 := Lib.hid (fun z hz => hD.out z (List.mem_cons_of_mem _ hz))
      have hl2 : s.length + 1 ≤ r.length := by simpa using hl
      clear h2
      simp only [List.length_cons]
      go_wp2
      exact ⟨⟨A2, c2, s, by simp, by omega, H2, HD2, by omega⟩, by simp [lenV]⟩
    | nil =>
      obtain ⟨n0, n1, n2, n3, nf⟩ := num_cells HN.out
      go_wp2
      refine bodyPost_ret (v := .agg #[.int .u8 0, .bool true, .int .i64 ((45 :: x :: r).length : Nat), .int .i64 0]) (by simp [results, Tryz.results131, go_sem, n0, n1, n2, n3]; omega) rfl ?_
      exact ⟨rfl, num4_gr HG.out (Nat.le_refl _)⟩
end Go.Proofs.YtlfeolfjlmelpaaGreatDoor
