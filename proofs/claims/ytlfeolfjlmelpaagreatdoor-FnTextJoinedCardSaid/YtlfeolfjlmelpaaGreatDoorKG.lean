/- text.parseNumber at whole numbers of base 16 and 8 that end the text. -/
import Derived.Test.YtlfeolfjlmelpaaGreatDoorKF
namespace Go.Proofs.YtlfeolfjlmelpaaGreatDoor
open Go.RowKit

def isHexD (y : UInt8) : Prop := (48 ≤ y.toNat ∧ y.toNat ≤ 57) ∨ (97 ≤ y.toNat ∧ y.toNat ≤ 102) ∨ (65 ≤ y.toNat ∧ y.toNat ≤ 70)
def isOctD (y : UInt8) : Prop := 48 ≤ y.toNat ∧ y.toNat ≤ 55

theorem IsB.cut2 {w : World} {A : Option Addr} {c : Nat} {x y : UInt8} {r : List UInt8} (h : IsB w A c (x :: y :: r)) :
    ∃ A' c', IsB w A' c' r ∧ ∀ (W : World) (k : IntKind), (Instr.slice 28 (.slice A (r.length + 1 + 1) c) (some (.int k 2)) none none).run Tryz.prog W = .ok (.slice A' r.length c') W := h.cut 2 (by simp)

set_option maxHeartbeats 2000000 in
set_option maxRecDepth 1000000 in
theorem parseNumber_hex {w : World} {A : Option Addr} {c : Nat} {z : UInt8} {r : List UInt8} (h : IsB w A c (48 :: 120 :: z :: r)) (hr : ∀ y ∈ (z :: r), isHexD y) :
    Calls Tryz.prog 131 #[.slice A (48 :: 120 :: z :: r).length c] w fun e w' => e = .returned (.agg #[.int .u8 1, .bool false, .int .i64 ((48 :: 120 :: z :: r).length : Nat), .int .i64 0]) ∧ w.grownBy w' none := by
  have hcap := h.cap
  have hle : r.length + 1 + 1 + 1 ≤ c := by have := h.le; simpa using this
  obtain ⟨A1, c1, h1, hcut⟩ := h.cut2
  simp only [List.length_cons] at hcut
  have hgr := World.grownBy_alloc w (.cells #[.int .u8 0, .bool false, .int .i64 0, .int .i64 0] 201) none
  have hb := blk_new w (.cells #[.int .u8 0, .bool false, .int .i64 0, .int .i64 0] 201)
  obtain ⟨b, o, rfl, hget⟩ := h.get (by simp)
  have hcell := gr_cell hgr (hget 0 (by simp))
  have hcell1 := gr_cell hgr (hget 1 (by simp))
  simp only [Nat.add_zero, List.getElem_cons_zero, List.getElem_cons_succ] at hcell hcell1
  have HR := Lib.hid hr
  have HG := Lib.hid hgr
  have HN := Lib.hid hb
  have H1 := Lib.hid (h1.kept0 hgr)
  clear h h1 hgr hr hb hget
  go_enter Tryz.func131, Tryz.ntmps131
  go_wp2
  obtain ⟨W, hW⟩ : ∃ W, W = w.alloc (.cells #[.int .u8 0, .bool false, .int .i64 0, .int .i64 0] 201) := ⟨_, rfl⟩
  rw [← hW] at HN HG H1 ⊢
  clear hW hcell hcell1
  go_loop [6, 9] (fun v n => ∃ A' c' ys, v = .slice A' ys.length c' ∧ n = .int .i64 ((r.length : Int) + 3 - ys.length) ∧ Hid (IsB W A' c' ys) ∧ Hid (∀ y ∈ ys, isHexD y) ∧ ys.length ≤ r.length + 1) (fun v _ => lenV v)
  case atStart => exact ⟨A1, c1, z :: r, by simp, by congr 1; simp only [List.length_cons]; omega, H1, HR, by simp⟩
  case round =>
    obtain ⟨A', c', ys, rfl, rfl, hB, hD, hl⟩ := hrel
    clear hcut
    cases ys with
    | cons y s =>
      obtain ⟨b2, o2, rfl, hc2⟩ := hB.out.head
      obtain ⟨A2, c2, h2, hcut2⟩ := hB.out.cut1
      have hy := hD.out y (by simp)
      have H2 := Lib.hid h2
      have HD2 := Lib.hid (fun z hz => hD.out z (List.mem_cons_of_mem _ hz))
      have hl2 : s.length + 1 ≤ r.length + 1 := by simpa using hl
      clear h2
      simp only [List.length_cons]
      unfold isHexD at hy
      rcases hy with hy | hy | hy
      all_goals
        go_wp2
        exact ⟨⟨A2, c2, s, by simp, by omega, H2, HD2, by omega⟩, by simp [lenV]⟩
    | nil =>
      have f2 : ((r.length : Int) + 3 - (([] : List UInt8).length : Nat) == 2) = false := beq_eq_false_iff_ne.2 (by simp; omega)
      obtain ⟨n0, n1, n2, n3, nf⟩ := num_cells HN.out
      go_wp2
      refine bodyPost_ret (v := .agg #[.int .u8 1, .bool false, .int .i64 ((48 :: 120 :: z :: r).length : Nat), .int .i64 0]) (by simp [results, Tryz.results131, go_sem, n0, n1, n2, n3]; try omega) rfl ?_
      exact ⟨rfl, num4_gr HG.out (Nat.le_refl _)⟩

set_option maxHeartbeats 2000000 in
set_option maxRecDepth 1000000 in
theorem parseNumber_oct {w : World} {A : Option Addr} {c : Nat} {z : UInt8} {r : List UInt8} (h : IsB w A c (48 :: z :: r)) (hr : ∀ y ∈ (z :: r), isOctD y) :
    Calls Tryz.prog 131 #[.slice A (48 :: z :: r).length c] w fun e w' => e = .returned (.agg #[.int .u8 2, .bool false, .int .i64 ((48 :: z :: r).length : Nat), .int .i64 0]) ∧ w.grownBy w' none := by
  have hcap := h.cap
  have hle : r.length + 1 + 1 ≤ c := by have := h.le; simpa using this
  obtain ⟨A1, c1, h1, hcut⟩ := h.cut2
  have hgr := World.grownBy_alloc w (.cells #[.int .u8 0, .bool false, .int .i64 0, .int .i64 0] 201) none
  have hb := blk_new w (.cells #[.int .u8 0, .bool false, .int .i64 0, .int .i64 0] 201)
  obtain ⟨b, o, rfl, hget⟩ := h.get (by simp)
  have hcell := gr_cell hgr (hget 0 (by simp))
  have hcell1 := gr_cell hgr (hget 1 (by simp))
  simp only [Nat.add_zero, List.getElem_cons_zero, List.getElem_cons_succ] at hcell hcell1
  have hz := hr z (by simp)
  unfold isOctD at hz
  have f1 : ((z.toNat : Int) == 120) = false := beq_eq_false_iff_ne.2 (by omega)
  have f2 : ((z.toNat : Int) == 88) = false := beq_eq_false_iff_ne.2 (by omega)
  have HR := Lib.hid (fun y hy => hr y (List.mem_cons_of_mem _ hy))
  have HG := Lib.hid hgr
  have HN := Lib.hid hb
  have H1 := Lib.hid (h1.kept0 hgr)
  clear h h1 hgr hr hb hget
  go_enter Tryz.func131, Tryz.ntmps131
  go_wp2
  obtain ⟨W, hW⟩ : ∃ W, W = w.alloc (.cells #[.int .u8 0, .bool false, .int .i64 0, .int .i64 0] 201) := ⟨_, rfl⟩
  rw [← hW] at HN HG H1 ⊢
  clear hW hcell hcell1
  go_loop [6, 10] (fun v n => ∃ A' c' ys, v = .slice A' ys.length c' ∧ n = .int .i64 ((r.length : Int) + 2 - ys.length) ∧ Hid (IsB W A' c' ys) ∧ Hid (∀ y ∈ ys, isOctD y) ∧ ys.length ≤ r.length) (fun v _ => lenV v)
  case atStart => exact ⟨A1, c1, r, rfl, by congr 1; omega, H1, HR, Nat.le_refl _⟩
  case round =>
    obtain ⟨A', c', ys, rfl, rfl, hB, hD, hl⟩ := hrel
    clear hcut
    cases ys with
    | cons y s =>
      obtain ⟨b2, o2, rfl, hc2⟩ := hB.out.head
      obtain ⟨A2, c2, h2, hcut2⟩ := hB.out.cut1
      have hy := hD.out y (by simp)
      have H2 := Lib.hid h2
      have HD2 := Lib.hid (fun z hz => hD.out z (List.mem_cons_of_mem _ hz))
      have hl2 : s.length + 1 ≤ r.length := by simpa using hl
      clear h2
      simp only [List.length_cons]
      unfold isOctD at hy
      go_wp2
      exact ⟨⟨A2, c2, s, by simp, by omega, H2, HD2, by omega⟩, by simp [lenV]⟩
    | nil =>
      obtain ⟨n0, n1, n2, n3, nf⟩ := num_cells HN.out
      go_wp2
      refine bodyPost_ret (v := .agg #[.int .u8 2, .bool false, .int .i64 ((48 :: z :: r).length : Nat), .int .i64 0]) (by simp [results, Tryz.results131, go_sem, n0, n1, n2, n3]; try omega) rfl ?_
      exact ⟨rfl, num4_gr HG.out (Nat.le_refl _)⟩
end Go.Proofs.YtlfeolfjlmelpaaGreatDoor
