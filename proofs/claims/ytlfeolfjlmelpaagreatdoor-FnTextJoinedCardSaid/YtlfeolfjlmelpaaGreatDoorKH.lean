/- text.number.string, parseNumberValue, parseLiteralValue, parseScalar at a whole number that ends the text. -/
import Derived.Test.YtlfeolfjlmelpaaGreatDoorKG
import Derived.Laws.IdiomStrings
import Derived.Laws.BytesArg
namespace Go.Proofs.YtlfeolfjlmelpaaGreatDoor
open Go.RowKit

theorem IsB.str {w : World} {A : Option Addr} {c : Nat} {xs : List UInt8} (h : IsB w A c xs) : (convert 28 9 (.slice A xs.length c)).run Tryz.prog w = .ok (.string ⟨xs.toArray⟩) w := by
  cases xs with
  | nil =>
    cases A with
    | none => exact run_convert_bytes_nil w 28 5 Tryz.underlying28 Tryz.underlying5 0 c 9 Tryz.underlying9
    | some a => exact run_convert_bytes_back w 28 9 5 a c [] Tryz.underlying28 Tryz.underlying5 Tryz.underlying9 (fun j hj => by simp at hj)
  | cons x r =>
    obtain ⟨b, o, rfl, hk⟩ := h.get (by simp)
    exact run_convert_bytes_back w 28 9 5 ⟨b, o, none⟩ c (x :: r) Tryz.underlying28 Tryz.underlying5 Tryz.underlying9 (fun j hj => by
      rw [show (⟨b, o, none⟩ : Addr).add j = ⟨b, o + j, none⟩ by unfold Addr.add; split <;> simp_all]
      exact hk j hj)

set_option maxHeartbeats 2000000 in
set_option maxRecDepth 1000000 in
theorem numberString {w : World} {A : Option Addr} {c : Nat} {xs : List UInt8} (h : IsB w A c xs) (hne : xs ≠ []) (k : Int) (hk : k ≠ 4) (neg : Bool) :
    Calls Tryz.prog 132 #[.agg #[.int .u8 k, .bool neg, .int .i64 (xs.length : Nat), .int .i64 0], .slice A xs.length c] w fun e w' => e = .returned (.string ⟨xs.toArray⟩) ∧ w.grownBy w' none := by
  have hcap := h.cap
  have hle := h.le
  have hgr := World.grownBy_alloc w (.cells #[.int .u8 k, .bool neg, .int .i64 (xs.length : Nat), .int .i64 0] 201) none
  have hs := (h.kept0 hgr).str
  have hk4 : (k == 4) = false := beq_eq_false_iff_ne.2 hk
  have hl : 0 < xs.length := List.length_pos_iff.2 hne
  have HG := Lib.hid hgr
  clear h hgr
  cases neg
  all_goals
    go_enter Tryz.func132, Tryz.ntmps132
    go_wp2
    go_ret
    exact ⟨rfl, HG.out⟩

/-- What parseNumber tells of a whole number that ends the text. -/
def NumEnds (w : World) (xs : List UInt8) (k : Int) (neg : Bool) (e : Ending) (w' : World) : Prop :=
  e = .returned (.agg #[.int .u8 k, .bool neg, .int .i64 (xs.length : Nat), .int .i64 0]) ∧ w.grownBy w' none

set_option maxHeartbeats 4000000 in
set_option maxRecDepth 1000000 in
theorem parseNumberValue_of {w : World} {g : Nat} {lc tk ta tn tp tr ts le os : Value} {A B : Option Addr} {c nb cb : Nat} {xs : List UInt8} {k : Int} {neg : Bool}
    (hd : HasDec w g lc tk ta tn tp tr ts le os (.slice B nb cb) (.slice A xs.length c)) (h : IsB w A c xs) (hne : xs ≠ []) (hnb : xs.length ≤ nb) (hb : nb ≤ 9223372036854775807) (hk : k ≠ 4)
    (hP : ∀ w1, w.grownBy w1 none → Calls Tryz.prog 131 #[.slice A xs.length c] w1 (NumEnds w1 xs k neg)) :
    Calls Tryz.prog 136 #[.pointer (some ⟨g, 0, none⟩)] w fun e w' => e = .returned (.tuple #[.agg #[.int .u8 3, .int .u8 1, .int .u8 (if neg then bits .or .u8 k 128 else k), .int .i64 ((nb : Int) - xs.length), .slice A xs.length c, .string ⟨xs.toArray⟩], .bool true]) ∧
      ∃ A' c', IsB w' A' c' [] ∧ HasDec w' g lc tk ta tn tp tr ts le os (.slice B nb cb) (.slice A' ([] : List UInt8).length c') ∧ w.grownBy w' (some g) := by
  have hlt := blk_lt hd
  have hcap := h.cap
  have hle := h.le
  have hl : 0 < xs.length := List.length_pos_iff.2 hne
  have hg1 := gr_alloc (gr_refl w none) tok0
  have hb1 := blk_new w tok0
  obtain ⟨d0, d1, d2, d3, d4, d5, d6, d7, d8, d9, d10, df⟩ := hd.cells
  have e10 := gr_cell hg1 d10
  have HC := Lib.hid (hP _ hg1)
  have HD := Lib.hid hd
  have H := Lib.hid h
  have HG1 := Lib.hid hg1
  have HB1 := Lib.hid hb1
  clear d0 d1 d2 d3 d4 d5 d6 d7 d8 d9 d10 df hd h hP hg1 hb1
  unfold tok0 at HC e10
  obtain ⟨na, hna⟩ : ∃ na, na = (if neg then bits .or .u8 k 128 else k) := ⟨_, rfl⟩
  rw [← hna]
  have HWR := Lib.hid (show IntKind.i64.wrap ((nb : Int) - xs.length) = (nb : Int) - xs.length from IntWalk.i64_in _ (by omega))
  cases neg
  · simp only [Bool.false_eq_true, if_false] at hna
    subst hna
    go_enter Tryz.func136, Tryz.ntmps136
    go_wp2_with fail
    refine HC.out.mono ?_
    rintro e w1 ⟨rfl, hg2⟩
    have HG2 := Lib.hid hg2
    have c10 := gr_cell hg2 e10
    clear hg2 e10
    go_wp2_with fail
    have hgr : w.grownBy (w1.alloc (.cells #[.int .u8 na, .bool false, .int .i64 (xs.length : Nat), .int .i64 0] 201)) none := gr_alloc (gr_trans HG1.out HG2.out) _
    have hbM := blk_new w1 (.cells #[.int .u8 na, .bool false, .int .i64 (xs.length : Nat), .int .i64 0] 201)
    have hbT : (w1.alloc (.cells #[.int .u8 na, .bool false, .int .i64 (xs.length : Nat), .int .i64 0] 201)).heap[w.heap.size]? = some tok0 := blk_alloc (gr_blk HG2.out HB1.out (by simp)) _
    obtain ⟨W2, hW2⟩ : ∃ W2, W2 = w1.alloc (.cells #[.int .u8 na, .bool false, .int .i64 (xs.length : Nat), .int .i64 0] 201) := ⟨_, rfl⟩
    have hsz : W2.heap.size = w1.heap.size + 1 := by rw [hW2]; simp
    have hs1 := HG2.out.size
    simp only [World.size_alloc] at hs1
    rw [← hW2] at hgr hbM hbT ⊢
    clear hW2 c10
    have hd2 := gr_blk hgr HD.out (by simp)
    have hi2 := H.out.kept0 hgr
    have hK : ∀ W, W2.grownBy W none → (W.cell? ⟨g, 9, none⟩ = some (.slice B nb cb) ∧ W.cell? ⟨g, 10, none⟩ = some (.slice A xs.length c) ∧ W.cell? ⟨w1.heap.size, 0, none⟩ = some (.int .u8 na) ∧ W.cell? ⟨w1.heap.size, 1, none⟩ = some (.bool false) ∧ W.cell? ⟨w1.heap.size, 2, none⟩ = some (.int .i64 (xs.length : Nat)) ∧ W.cell? ⟨w1.heap.size, 3, none⟩ = some (.int .i64 0)) := fun W hW => by
      have hd3 := gr_blk hW hd2 (by simp)
      have hb3 := gr_blk hW hbM (by simp)
      refine ⟨?_, ?_, ?_, ?_, ?_, ?_⟩ <;> first | (rw [blk_cell hd3]; rfl) | (rw [blk_cell hb3]; rfl)
    have hS : ∀ W, W2.grownBy W none → Calls Tryz.prog 132 #[.agg #[.int .u8 na, .bool false, .int .i64 (xs.length : Nat), .int .i64 0], .slice A xs.length c] W fun e w' => e = .returned (.string ⟨xs.toArray⟩) ∧ W.grownBy w' none := fun W hW => numberString (hi2.kept0 hW) hne na hk false
    have hN : ∀ W w3 : World, W.heap[W2.heap.size]? = some tok0 → W.grownBy w3 none → (w3.cell? ⟨W2.heap.size, 0, none⟩ = some (.int .u8 0) ∧ w3.cell? ⟨W2.heap.size, 1, none⟩ = some (.int .u8 0) ∧ w3.cell? ⟨W2.heap.size, 2, none⟩ = some (.int .u8 0) ∧ w3.cell? ⟨W2.heap.size, 3, none⟩ = some (.int .i64 0) ∧ w3.cell? ⟨W2.heap.size, 4, none⟩ = some (.slice none 0 0) ∧ w3.cell? ⟨W2.heap.size, 5, none⟩ = some (.string { data := #[] })) ∧ ∀ i, w3.frozen? ⟨W2.heap.size, i, none⟩ = false := fun W w3 h1 h2 => tok0_cells (gr_blk h2 h1 (by simp))
    have HK := Lib.hid hK
    have HS := Lib.hid hS
    have HN := Lib.hid hN
    obtain ⟨s1, s2, s3, s4, s5, s6⟩ := hK W2 (gr_refl _ _)
    have HGR := Lib.hid hgr
    have HB := Lib.hid (And.intro hbM hbT)
    have HSZ := Lib.hid hsz
    have HS1 := Lib.hid hs1
    have HD2 := Lib.hid hd2
    have HI2 := Lib.hid hi2
    have y1 : ¬ (g = W2.heap.size) := by omega
    have y2 : ¬ (w1.heap.size = W2.heap.size) := by omega
    clear hK hS hN hgr hbM hbT hsz hd2 hi2 hs1 HC
    go_region_held3 (fun W => (W.cell? ⟨g, 9, none⟩ = some (.slice B nb cb) ∧ W.cell? ⟨g, 10, none⟩ = some (.slice A xs.length c) ∧ W.cell? ⟨w1.heap.size, 0, none⟩ = some (.int .u8 na) ∧ W.cell? ⟨w1.heap.size, 1, none⟩ = some (.bool false) ∧ W.cell? ⟨w1.heap.size, 2, none⟩ = some (.int .i64 (xs.length : Nat)) ∧ W.cell? ⟨w1.heap.size, 3, none⟩ = some (.int .i64 0))) (first | go_keep | exact HK.out _ (gr_new (gr_trans (gr_drew (gr_alloc (gr_refl _ _) _)) hg3) tok6_gr (fun _ e => by cases e; exact Or.inl (Nat.le_refl _))))
      (first
        | (go_at_call 132; refine (HS.out W2.drew (gr_drew (gr_refl _ _))).mono ?_; rintro e w3 ⟨rfl, hg3⟩; obtain ⟨t1, t2, t3, t4, t5, t6⟩ := HK.out w3 (gr_trans (gr_drew (gr_refl _ _)) hg3))
        | (go_at_call 132; refine (HS.out (W2.alloc _).drew (gr_drew (gr_alloc (gr_refl _ _) _))).mono ?_; rintro e w3 ⟨rfl, hg3⟩; have hg4 := gr_trans (gr_drew (gr_alloc (gr_refl _ _) _)) hg3; obtain ⟨t1, t2, t3, t4, t5, t6⟩ := HK.out w3 hg4; have hn := fun h => HN.out _ w3 h hg3; obtain ⟨⟨n0, n1, n2, n3, n4, n5⟩, nf⟩ := hn (blk_drew1 (blk_new W2 _)); clear hn))
    · have hT : w.heap.size < w3.heap.size := by have := hg3.size; have := HSZ.out; have := HS1.out; simp only [World.drew] at *; omega
      have hbT := blk_new w3 (.cells #[.int .u8 3, .int .u8 1, .int .u8 na, .int .i64 ((nb : Int) - xs.length), .slice A xs.length c, .string ⟨xs.toArray⟩] 72)
      have hW : W2.grownBy (w3.alloc (.cells #[.int .u8 3, .int .u8 1, .int .u8 na, .int .i64 ((nb : Int) - xs.length), .slice A xs.length c, .string ⟨xs.toArray⟩] 72)) none := gr_alloc (gr_trans (gr_drew (gr_refl _ _)) hg3) _
      have hTok : HasTok _ w3.heap.size (.int .u8 3) (.int .u8 1) (.int .u8 na) (.int .i64 ((nb : Int) - xs.length)) (.slice A xs.length c) (.string ⟨xs.toArray⟩) := hbT
      clear t1 t2 t3 t4 t5 t6 hbT y1 y2 s1 s2 s3 s4 s5 s6
      simp only [HWR.out]
      generalize hTe : w3.heap.size = T at hTok hT ⊢
      generalize w3.alloc (.cells #[.int .u8 3, .int .u8 1, .int .u8 na, .int .i64 ((nb : Int) - xs.length), .slice A xs.length c, .string ⟨xs.toArray⟩] 72) = W at hW hTok ⊢
      clear hTe hg3 HN HK HS
      have hdW : HasDec W g _ _ _ _ _ _ _ _ _ _ _ := gr_blk hW HD2.out (by simp)
      have hiW := HI2.out.kept0 hW
      have hM := consumeM ((xs.length : Nat) : Int) hdW hiW (by omega) (Int.le_refl _)
      rw [Int.toNat_natCast, List.drop_length, show skip ([] : List UInt8) = [] by rw [skip]] at hM
      have HM := Lib.hid hM
      have hbm := gr_blk hW HB.out.1 (by simp)
      have hbt := gr_blk hW HB.out.2 (by simp)
      have m2 : W.cell? ⟨w1.heap.size, 2, none⟩ = some (.int .i64 (xs.length : Nat)) := by rw [blk_cell hbm]; rfl
      have HW := Lib.hid hW
      have HT := Lib.hid hTok
      have HTG := Lib.hid hT
      have HBT := Lib.hid hbt
      have HDW := Lib.hid hdW
      clear hdW hiW hM hbm hbt hW hTok hT
      go_wp2_with fail
      refine HM.out.mono ?_
      rintro e w4 ⟨rfl, A4, c4, hi4, hd4, hg4⟩
      have ht4 := gr_blk hg4 HT.out (by have := HTG.out; simp; omega)
      have hn4 := gr_blk hg4 HBT.out (by simp; omega)
      obtain ⟨x0, x1, x2, x3, x4, x5⟩ := HasTok.cells ht4
      obtain ⟨⟨q0, q1, q2, q3, q4, q5⟩, fz⟩ := tok0_cells hn4
      have HG4 := Lib.hid hg4
      have HI4 := Lib.hid hi4
      have HD4 := Lib.hid hd4
      have HN4 := Lib.hid hn4
      clear hg4 hi4 hd4 hn4 ht4 m2
      go_wp2
      refine bodyPost_ret (v := .tuple #[.agg #[.int .u8 3, .int .u8 1, .int .u8 na, .int .i64 ((nb : Int) - xs.length), .slice A xs.length c, .string ⟨xs.toArray⟩], .bool true]) (by simp [results, Tryz.results136, go_sem, q0, q1, q2, q3, q4, q5]) rfl ?_
      exact ⟨rfl, A4, c4, HI4.out.keptD tok6_gr HN4.out (by decide), tok6_far HD4.out (by omega), gr_new (gr_new (gr_weak (gr_trans HGR.out HW.out)) HG4.out (fun _ e => .inr e)) tok6_gr (fun g' e => by cases e; left; omega)⟩
    · have hT : w.heap.size < W2.heap.size := by have := HSZ.out; have := HS1.out; omega
      have hb3 := gr_blk hg3 (blk_drew1 (blk_new W2 tok0)) (by simp)
      have hW : W2.grownBy _ none := gr_new (gr_trans (gr_drew (gr_alloc (gr_refl _ _) tok0)) hg3) (tok6_gr (w := w3) (g := W2.heap.size) (a := .int .u8 3) (b := .int .u8 1) (c := .int .u8 na) (d := .int .i64 ((nb : Int) - xs.length)) (e := .slice A xs.length c) (f := .string ⟨xs.toArray⟩)) (fun g' e => by cases e; exact Or.inl (Nat.le_refl _))
      have hTok := tok6_has (w := w3) (g := W2.heap.size) (a := .int .u8 3) (b := .int .u8 1) (c := .int .u8 na) (d := .int .i64 ((nb : Int) - xs.length)) (e := .slice A xs.length c) (f := .string ⟨xs.toArray⟩) hb3
      clear t1 t2 t3 t4 t5 t6 hb3 y1 y2 s1 s2 s3 s4 s5 s6 n0 n1 n2 n3 n4 n5 nf hg4
      simp only [HWR.out]
      clear HSZ
      generalize hTe : W2.heap.size = T at hTok hT hW ⊢
      generalize ((((((w3.setCell ⟨T, 0, none⟩ (.int .u8 3)).setCell ⟨T, 1, none⟩ (.int .u8 1)).setCell ⟨T, 2, none⟩ (.int .u8 na)).setCell ⟨T, 3, none⟩ (.int .i64 ((nb : Int) - xs.length))).setCell ⟨T, 4, none⟩ (.slice A xs.length c)).setCell ⟨T, 5, none⟩ (.string ⟨xs.toArray⟩)) = W at hW hTok ⊢
      clear hTe hg3 HN HK HS
      have hdW : HasDec W g _ _ _ _ _ _ _ _ _ _ _ := gr_blk hW HD2.out (by simp)
      have hiW := HI2.out.kept0 hW
      have hM := consumeM ((xs.length : Nat) : Int) hdW hiW (by omega) (Int.le_refl _)
      rw [Int.toNat_natCast, List.drop_length, show skip ([] : List UInt8) = [] by rw [skip]] at hM
      have HM := Lib.hid hM
      have hbm := gr_blk hW HB.out.1 (by simp)
      have hbt := gr_blk hW HB.out.2 (by simp)
      have m2 : W.cell? ⟨w1.heap.size, 2, none⟩ = some (.int .i64 (xs.length : Nat)) := by rw [blk_cell hbm]; rfl
      have HW := Lib.hid hW
      have HT := Lib.hid hTok
      have HTG := Lib.hid hT
      have HBT := Lib.hid hbt
      have HDW := Lib.hid hdW
      clear hdW hiW hM hbm hbt hW hTok hT
      go_wp2_with fail
      refine HM.out.mono ?_
      rintro e w4 ⟨rfl, A4, c4, hi4, hd4, hg4⟩
      have ht4 := gr_blk hg4 HT.out (by have := HTG.out; simp; omega)
      have hn4 := gr_blk hg4 HBT.out (by simp; omega)
      obtain ⟨x0, x1, x2, x3, x4, x5⟩ := HasTok.cells ht4
      obtain ⟨⟨q0, q1, q2, q3, q4, q5⟩, fz⟩ := tok0_cells hn4
      have HG4 := Lib.hid hg4
      have HI4 := Lib.hid hi4
      have HD4 := Lib.hid hd4
      have HN4 := Lib.hid hn4
      clear hg4 hi4 hd4 hn4 ht4 m2
      go_wp2
      refine bodyPost_ret (v := .tuple #[.agg #[.int .u8 3, .int .u8 1, .int .u8 na, .int .i64 ((nb : Int) - xs.length), .slice A xs.length c, .string ⟨xs.toArray⟩], .bool true]) (by simp [results, Tryz.results136, go_sem, q0, q1, q2, q3, q4, q5]) rfl ?_
      exact ⟨rfl, A4, c4, HI4.out.keptD tok6_gr HN4.out (by decide), tok6_far HD4.out (by omega), gr_new (gr_new (gr_weak (gr_trans HGR.out HW.out)) HG4.out (fun _ e => .inr e)) tok6_gr (fun g' e => by cases e; left; omega)⟩
  · simp only [if_true] at hna
    have HNA := Lib.hid hna
    clear hna
    go_enter Tryz.func136, Tryz.ntmps136
    go_wp2_with fail
    refine HC.out.mono ?_
    rintro e w1 ⟨rfl, hg2⟩
    have HG2 := Lib.hid hg2
    have c10 := gr_cell hg2 e10
    clear hg2 e10
    go_wp2_with fail
    rw [← HNA.out]
    have hgr : w.grownBy (w1.alloc (.cells #[.int .u8 k, .bool true, .int .i64 (xs.length : Nat), .int .i64 0] 201)) none := gr_alloc (gr_trans HG1.out HG2.out) _
    have hbM := blk_new w1 (.cells #[.int .u8 k, .bool true, .int .i64 (xs.length : Nat), .int .i64 0] 201)
    have hbT : (w1.alloc (.cells #[.int .u8 k, .bool true, .int .i64 (xs.length : Nat), .int .i64 0] 201)).heap[w.heap.size]? = some tok0 := blk_alloc (gr_blk HG2.out HB1.out (by simp)) _
    obtain ⟨W2, hW2⟩ : ∃ W2, W2 = w1.alloc (.cells #[.int .u8 k, .bool true, .int .i64 (xs.length : Nat), .int .i64 0] 201) := ⟨_, rfl⟩
    have hsz : W2.heap.size = w1.heap.size + 1 := by rw [hW2]; simp
    have hs1 := HG2.out.size
    simp only [World.size_alloc] at hs1
    rw [← hW2] at hgr hbM hbT ⊢
    clear hW2 c10
    have hd2 := gr_blk hgr HD.out (by simp)
    have hi2 := H.out.kept0 hgr
    have hK : ∀ W, W2.grownBy W none → (W.cell? ⟨g, 9, none⟩ = some (.slice B nb cb) ∧ W.cell? ⟨g, 10, none⟩ = some (.slice A xs.length c) ∧ W.cell? ⟨w1.heap.size, 0, none⟩ = some (.int .u8 k) ∧ W.cell? ⟨w1.heap.size, 1, none⟩ = some (.bool true) ∧ W.cell? ⟨w1.heap.size, 2, none⟩ = some (.int .i64 (xs.length : Nat)) ∧ W.cell? ⟨w1.heap.size, 3, none⟩ = some (.int .i64 0)) := fun W hW => by
      have hd3 := gr_blk hW hd2 (by simp)
      have hb3 := gr_blk hW hbM (by simp)
      refine ⟨?_, ?_, ?_, ?_, ?_, ?_⟩ <;> first | (rw [blk_cell hd3]; rfl) | (rw [blk_cell hb3]; rfl)
    have hS : ∀ W, W2.grownBy W none → Calls Tryz.prog 132 #[.agg #[.int .u8 k, .bool true, .int .i64 (xs.length : Nat), .int .i64 0], .slice A xs.length c] W fun e w' => e = .returned (.string ⟨xs.toArray⟩) ∧ W.grownBy w' none := fun W hW => numberString (hi2.kept0 hW) hne k hk true
    have hN : ∀ W w3 : World, W.heap[W2.heap.size]? = some tok0 → W.grownBy w3 none → (w3.cell? ⟨W2.heap.size, 0, none⟩ = some (.int .u8 0) ∧ w3.cell? ⟨W2.heap.size, 1, none⟩ = some (.int .u8 0) ∧ w3.cell? ⟨W2.heap.size, 2, none⟩ = some (.int .u8 0) ∧ w3.cell? ⟨W2.heap.size, 3, none⟩ = some (.int .i64 0) ∧ w3.cell? ⟨W2.heap.size, 4, none⟩ = some (.slice none 0 0) ∧ w3.cell? ⟨W2.heap.size, 5, none⟩ = some (.string { data := #[] })) ∧ ∀ i, w3.frozen? ⟨W2.heap.size, i, none⟩ = false := fun W w3 h1 h2 => tok0_cells (gr_blk h2 h1 (by simp))
    have HK := Lib.hid hK
    have HS := Lib.hid hS
    have HN := Lib.hid hN
    obtain ⟨s1, s2, s3, s4, s5, s6⟩ := hK W2 (gr_refl _ _)
    have HGR := Lib.hid hgr
    have HB := Lib.hid (And.intro hbM hbT)
    have HSZ := Lib.hid hsz
    have HS1 := Lib.hid hs1
    have HD2 := Lib.hid hd2
    have HI2 := Lib.hid hi2
    have y1 : ¬ (g = W2.heap.size) := by omega
    have y2 : ¬ (w1.heap.size = W2.heap.size) := by omega
    clear hK hS hN hgr hbM hbT hsz hd2 hi2 hs1 HC
    go_region_held3 (fun W => (W.cell? ⟨g, 9, none⟩ = some (.slice B nb cb) ∧ W.cell? ⟨g, 10, none⟩ = some (.slice A xs.length c) ∧ W.cell? ⟨w1.heap.size, 0, none⟩ = some (.int .u8 k) ∧ W.cell? ⟨w1.heap.size, 1, none⟩ = some (.bool true) ∧ W.cell? ⟨w1.heap.size, 2, none⟩ = some (.int .i64 (xs.length : Nat)) ∧ W.cell? ⟨w1.heap.size, 3, none⟩ = some (.int .i64 0))) (first | go_keep | exact HK.out _ (gr_new (gr_trans (gr_drew (gr_alloc (gr_refl _ _) _)) hg3) tok6_gr (fun _ e => by cases e; exact Or.inl (Nat.le_refl _))))
      (first
        | (go_at_call 132; refine (HS.out W2.drew (gr_drew (gr_refl _ _))).mono ?_; rintro e w3 ⟨rfl, hg3⟩; obtain ⟨t1, t2, t3, t4, t5, t6⟩ := HK.out w3 (gr_trans (gr_drew (gr_refl _ _)) hg3))
        | (go_at_call 132; refine (HS.out (W2.alloc _).drew (gr_drew (gr_alloc (gr_refl _ _) _))).mono ?_; rintro e w3 ⟨rfl, hg3⟩; have hg4 := gr_trans (gr_drew (gr_alloc (gr_refl _ _) _)) hg3; obtain ⟨t1, t2, t3, t4, t5, t6⟩ := HK.out w3 hg4; have hn := fun h => HN.out _ w3 h hg3; obtain ⟨⟨n0, n1, n2, n3, n4, n5⟩, nf⟩ := hn (blk_drew1 (blk_new W2 _)); clear hn))
    · have hT : w.heap.size < w3.heap.size := by have := hg3.size; have := HSZ.out; have := HS1.out; simp only [World.drew] at *; omega
      have hbT := blk_new w3 (.cells #[.int .u8 3, .int .u8 1, .int .u8 na, .int .i64 ((nb : Int) - xs.length), .slice A xs.length c, .string ⟨xs.toArray⟩] 72)
      have hW : W2.grownBy (w3.alloc (.cells #[.int .u8 3, .int .u8 1, .int .u8 na, .int .i64 ((nb : Int) - xs.length), .slice A xs.length c, .string ⟨xs.toArray⟩] 72)) none := gr_alloc (gr_trans (gr_drew (gr_refl _ _)) hg3) _
      have hTok : HasTok _ w3.heap.size (.int .u8 3) (.int .u8 1) (.int .u8 na) (.int .i64 ((nb : Int) - xs.length)) (.slice A xs.length c) (.string ⟨xs.toArray⟩) := hbT
      clear t1 t2 t3 t4 t5 t6 hbT y1 y2 s1 s2 s3 s4 s5 s6
      simp only [HWR.out]
      generalize hTe : w3.heap.size = T at hTok hT ⊢
      generalize w3.alloc (.cells #[.int .u8 3, .int .u8 1, .int .u8 na, .int .i64 ((nb : Int) - xs.length), .slice A xs.length c, .string ⟨xs.toArray⟩] 72) = W at hW hTok ⊢
      clear hTe hg3 HN HK HS
      have hdW : HasDec W g _ _ _ _ _ _ _ _ _ _ _ := gr_blk hW HD2.out (by simp)
      have hiW := HI2.out.kept0 hW
      have hM := consumeM ((xs.length : Nat) : Int) hdW hiW (by omega) (Int.le_refl _)
      rw [Int.toNat_natCast, List.drop_length, show skip ([] : List UInt8) = [] by rw [skip]] at hM
      have HM := Lib.hid hM
      have hbm := gr_blk hW HB.out.1 (by simp)
      have hbt := gr_blk hW HB.out.2 (by simp)
      have m2 : W.cell? ⟨w1.heap.size, 2, none⟩ = some (.int .i64 (xs.length : Nat)) := by rw [blk_cell hbm]; rfl
      have HW := Lib.hid hW
      have HT := Lib.hid hTok
      have HTG := Lib.hid hT
      have HBT := Lib.hid hbt
      have HDW := Lib.hid hdW
      clear hdW hiW hM hbm hbt hW hTok hT
      go_wp2_with fail
      refine HM.out.mono ?_
      rintro e w4 ⟨rfl, A4, c4, hi4, hd4, hg4⟩
      have ht4 := gr_blk hg4 HT.out (by have := HTG.out; simp; omega)
      have hn4 := gr_blk hg4 HBT.out (by simp; omega)
      obtain ⟨x0, x1, x2, x3, x4, x5⟩ := HasTok.cells ht4
      obtain ⟨⟨q0, q1, q2, q3, q4, q5⟩, fz⟩ := tok0_cells hn4
      have HG4 := Lib.hid hg4
      have HI4 := Lib.hid hi4
      have HD4 := Lib.hid hd4
      have HN4 := Lib.hid hn4
      clear hg4 hi4 hd4 hn4 ht4 m2
      go_wp2
      refine bodyPost_ret (v := .tuple #[.agg #[.int .u8 3, .int .u8 1, .int .u8 na, .int .i64 ((nb : Int) - xs.length), .slice A xs.length c, .string ⟨xs.toArray⟩], .bool true]) (by simp [results, Tryz.results136, go_sem, q0, q1, q2, q3, q4, q5]) rfl ?_
      exact ⟨rfl, A4, c4, HI4.out.keptD tok6_gr HN4.out (by decide), tok6_far HD4.out (by omega), gr_new (gr_new (gr_weak (gr_trans HGR.out HW.out)) HG4.out (fun _ e => .inr e)) tok6_gr (fun g' e => by cases e; left; omega)⟩
    · have hT : w.heap.size < W2.heap.size := by have := HSZ.out; have := HS1.out; omega
      have hb3 := gr_blk hg3 (blk_drew1 (blk_new W2 tok0)) (by simp)
      have hW : W2.grownBy _ none := gr_new (gr_trans (gr_drew (gr_alloc (gr_refl _ _) tok0)) hg3) (tok6_gr (w := w3) (g := W2.heap.size) (a := .int .u8 3) (b := .int .u8 1) (c := .int .u8 na) (d := .int .i64 ((nb : Int) - xs.length)) (e := .slice A xs.length c) (f := .string ⟨xs.toArray⟩)) (fun g' e => by cases e; exact Or.inl (Nat.le_refl _))
      have hTok := tok6_has (w := w3) (g := W2.heap.size) (a := .int .u8 3) (b := .int .u8 1) (c := .int .u8 na) (d := .int .i64 ((nb : Int) - xs.length)) (e := .slice A xs.length c) (f := .string ⟨xs.toArray⟩) hb3
      clear t1 t2 t3 t4 t5 t6 hb3 y1 y2 s1 s2 s3 s4 s5 s6 n0 n1 n2 n3 n4 n5 nf hg4
      simp only [HWR.out]
      clear HSZ
      generalize hTe : W2.heap.size = T at hTok hT hW ⊢
      generalize ((((((w3.setCell ⟨T, 0, none⟩ (.int .u8 3)).setCell ⟨T, 1, none⟩ (.int .u8 1)).setCell ⟨T, 2, none⟩ (.int .u8 na)).setCell ⟨T, 3, none⟩ (.int .i64 ((nb : Int) - xs.length))).setCell ⟨T, 4, none⟩ (.slice A xs.length c)).setCell ⟨T, 5, none⟩ (.string ⟨xs.toArray⟩)) = W at hW hTok ⊢
      clear hTe hg3 HN HK HS
      have hdW : HasDec W g _ _ _ _ _ _ _ _ _ _ _ := gr_blk hW HD2.out (by simp)
      have hiW := HI2.out.kept0 hW
      have hM := consumeM ((xs.length : Nat) : Int) hdW hiW (by omega) (Int.le_refl _)
      rw [Int.toNat_natCast, List.drop_length, show skip ([] : List UInt8) = [] by rw [skip]] at hM
      have HM := Lib.hid hM
      have hbm := gr_blk hW HB.out.1 (by simp)
      have hbt := gr_blk hW HB.out.2 (by simp)
      have m2 : W.cell? ⟨w1.heap.size, 2, none⟩ = some (.int .i64 (xs.length : Nat)) := by rw [blk_cell hbm]; rfl
      have HW := Lib.hid hW
      have HT := Lib.hid hTok
      have HTG := Lib.hid hT
      have HBT := Lib.hid hbt
      have HDW := Lib.hid hdW
      clear hdW hiW hM hbm hbt hW hTok hT
      go_wp2_with fail
      refine HM.out.mono ?_
      rintro e w4 ⟨rfl, A4, c4, hi4, hd4, hg4⟩
      have ht4 := gr_blk hg4 HT.out (by have := HTG.out; simp; omega)
      have hn4 := gr_blk hg4 HBT.out (by simp; omega)
      obtain ⟨x0, x1, x2, x3, x4, x5⟩ := HasTok.cells ht4
      obtain ⟨⟨q0, q1, q2, q3, q4, q5⟩, fz⟩ := tok0_cells hn4
      have HG4 := Lib.hid hg4
      have HI4 := Lib.hid hi4
      have HD4 := Lib.hid hd4
      have HN4 := Lib.hid hn4
      clear hg4 hi4 hd4 hn4 ht4 m2
      go_wp2
      refine bodyPost_ret (v := .tuple #[.agg #[.int .u8 3, .int .u8 1, .int .u8 na, .int .i64 ((nb : Int) - xs.length), .slice A xs.length c, .string ⟨xs.toArray⟩], .bool true]) (by simp [results, Tryz.results136, go_sem, q0, q1, q2, q3, q4, q5]) rfl ?_
      exact ⟨rfl, A4, c4, HI4.out.keptD tok6_gr HN4.out (by decide), tok6_far HD4.out (by omega), gr_new (gr_new (gr_weak (gr_trans HGR.out HW.out)) HG4.out (fun _ e => .inr e)) tok6_gr (fun g' e => by cases e; left; omega)⟩
end Go.Proofs.YtlfeolfjlmelpaaGreatDoor
