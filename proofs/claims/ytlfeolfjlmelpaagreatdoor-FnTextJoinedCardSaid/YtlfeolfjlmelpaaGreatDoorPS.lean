/- PQ, PR, PS in one text. -/
import Derived.Test.YtlfeolfjlmelpaaGreatDoorPM
import Derived.Test.YtlfeolfjlmelpaaGreatDoorPI
import Derived.Test.YtlfeolfjlmelpaaGreatDoorKE
import Derived.Deep.RegionHeld3
import Derived.Test.YtlfeolfjlmelpaaGreatDoorPJz
import Derived.Test.YtlfeolfjlmelpaaGreatDoorPB
import Derived.Deep.MidRow
import Derived.Test.YtlfeolfjlmelpaaGreatDoorPO
namespace Go.Proofs.YtlfeolfjlmelpaaGreatDoor
open Go.RowKit

/-- A string's bytes as a value. -/
def strV (l : List UInt8) : Value := .string ⟨l.toArray⟩
theorem info9P : ∃ i, Tryz.prog.info? 9 = some i ∧ i.zero = some (.string ByteArray.empty) ∧ i.size = 1 ∧ i.bytes = 16 :=
  info_parts (show (Tryz.prog.info? 9).map (fun i => (i.zero, i.size, i.bytes)) = some (some (.string ByteArray.empty), 1, 16) by kernel_rfl)
theorem intercalate_nil : ∀ xs : List (List UInt8), ([] : List UInt8).intercalate xs = xs.flatten
  | [] => rfl
  | [x] => by simp [List.intercalate]
  | x :: y :: r => by
    have := intercalate_nil (y :: r)
    simp [List.intercalate, List.intersperse] at this ⊢
    exact this
theorem join_of {W : World} {base : Nat} {v : Value} (xs : List (List UInt8)) (hne : xs ≠ []) (hown : W.ownsRow base 9 1 v xs.length (xs.map strV)) (hl : xs.length ≤ 1000000) (hl2 : xs.flatten.length ≤ 1000000000) :
    Calls Tryz.prog 181 #[v, .string ⟨#[]⟩] W fun e w' => e = .returned (.string ⟨xs.flatten.toArray⟩) ∧ W.grownBy w' none := by
  have hpos : 0 < xs.length := List.length_pos_iff.2 hne
  rcases hown.2 with ⟨-, h0⟩ | ⟨g, cap, cur, rfl, hb, hgg, hle, hcm, hsz, htk⟩
  · omega
  · have hcells : ∀ (j : Nat) x, (xs.map fun l => (⟨l.toArray⟩ : ByteArray))[j]? = some x → W.cell? ⟨g, 0 + j, none⟩ = some (.string x) := by
      intro j x hj
      rw [List.getElem?_map] at hj
      obtain ⟨l, hl, rfl⟩ := Option.map_eq_some_iff.1 hj
      have h2 := hown.cells (g := g) rfl j (strV l) (by rw [List.getElem?_map, hl]; rfl)
      rw [addr_addn] at h2
      exact h2
    have hj : Lib.join ((xs.map fun l => (⟨l.toArray⟩ : ByteArray)).map (·.data.toList)) (⟨#[]⟩ : ByteArray).data.toList = xs.flatten := by
      rw [List.map_map, show ((fun x : ByteArray => x.data.toList) ∘ fun l : List UInt8 => (⟨l.toArray⟩ : ByteArray)) = id from funext fun _ => by simp, List.map_id]
      exact intercalate_nil xs
    have h := Tryz.strings_Join g 0 cap (xs.map fun l => (⟨l.toArray⟩ : ByteArray)) ⟨#[]⟩ W hcells (blk_lt hgg) (by rw [List.length_map]; omega) (by rw [List.length_map]; exact hle) (by rw [hj]; omega)
    rw [List.length_map, hj] at h
    exact h.mono fun e w' h => ⟨h.1, below_gr h.2⟩
end Go.Proofs.YtlfeolfjlmelpaaGreatDoor
namespace Go.Proofs.YtlfeolfjlmelpaaGreatDoor
open Go.RowKit

theorem JR.len : ∀ {T : List UInt8} {xs : List (List UInt8)}, JR T xs → xs.length ≤ T.length ∧ xs.flatten.length ≤ T.length
  | _, _, .nil => by simp
  | _, _, .cons (t := t) he h => by
    have h1 := JR.len h
    have h2 := he.len
    have h3 := skip_len t
    simp only [List.length_cons, List.length_append, List.flatten_cons]
    omega
theorem JR.two {T : List UInt8} {xs : List (List UInt8)} (h : JR T xs) : (T = [] ∧ xs = []) ∨ ∃ x y t x1, T = 34 :: (y ++ 34 :: t) ∧ xs = x :: x1 ∧ EncR x y ∧ JR (skip t) x1 := by
  cases h with
  | nil => exact .inl ⟨rfl, rfl⟩
  | cons he h => exact .inr ⟨_, _, _, _, rfl, rfl, he, h⟩

/-- A struct stored whole, as an operation of a region that draws its order. -/
theorem step_store {ops : Array Oper} {o : Oper} {a : Act} {w : World} {K : Act → World → Prop} {Q : Exit → Act → World → Prop} {E : Prop} (hgd : o.guard = none) (ty : TypeId) (x y : Operand) (ho : o.op = .store ty x y)
    {R : Nat} (vs : List Value) (hx : a.eval x = .pointer (some ⟨R, 0, none⟩)) (hy : a.eval y = .agg vs.toArray) (hth : w.there R 0 vs.length) (hi : (Tryz.prog.info? ty).map (·.size) = some vs.length) (h1 : ∀ v ∈ vs, v.oneCell' = true)
    (h : ∀ w', w' = w.setCells R 0 vs → K (a.put o.dst undef) w') : if Region.wanted o (yielded ops a.tmps) = true then Oper.wp Tryz.prog o a w K Q else E := by
  have hw : Region.wanted o (yielded ops a.tmps) = true := by simp [Region.wanted, hgd]
  rw [if_pos hw]
  exact wp_store_mid ty x y ho R 0 vs.toArray hx hy (by simpa using hth) (by simpa using hi) (all_oneCell_toArray h1) (by simpa using h _ rfl)
theorem there_blk {W : World} {R : Nat} {cs : List Value} {t : TypeId} (h : W.heap[R]? = some (.cells cs.toArray t (0, 0))) : W.there R 0 cs.length := by
  intro j hj
  rw [Nat.zero_add]
  refine ⟨?_, blk_frozen h j⟩
  rw [blk_cell h j, Array.getElem?_eq_getElem (by simpa using hj)]
  rfl
theorem info72 : (Tryz.prog.info? 72).map (·.size) = some 6 := by kernel_rfl
/-- The six cells of a token, stored. -/
theorem tok_stored {w w' : World} {R g : Nat} {lc tk ta tn tp tr ts le os og ins a b c d e f : Value} (hth : w.there R 0 6) (hw : w' = w.setCells R 0 [a, b, c, d, e, f]) (hd : HasDec w g lc tk ta tn tp tr ts le os og ins) (hne : g ≠ R) :
    HasDec w' g lc tk ta tn tp tr ts le os og ins ∧ w.grownBy w' (some R) ∧
      w'.cell? ⟨R, 0, none⟩ = some a ∧ w'.cell? ⟨R, 1, none⟩ = some b ∧ w'.cell? ⟨R, 2, none⟩ = some c ∧ w'.cell? ⟨R, 3, none⟩ = some d ∧ w'.cell? ⟨R, 4, none⟩ = some e ∧ w'.cell? ⟨R, 5, none⟩ = some f := by
  subst hw
  have hg : w.grownBy (w.setCells R 0 [a, b, c, d, e, f]) (some R) := gr_setCells (.inr rfl) _ _ (gr_refl _ _)
  have hr := World.rangeAt_setCells_same w R 0 [a, b, c, d, e, f] hth
  refine ⟨gr_blk hg hd (by simp; omega), hg, ?_, ?_, ?_, ?_, ?_, ?_⟩
  · exact hr 0 a rfl
  · exact hr 1 b rfl
  · exact hr 2 c rfl
  · exact hr 3 d rfl
  · exact hr 4 e rfl
  · exact hr 5 f rfl
theorem own_none {w w' : World} {base E size n : Nat} {v : Value} {cs : List Value} (h : w.ownsRow base E size v n cs) (hg : w.grownBy w' none) : w'.ownsRow base E size v n cs :=
  h.kept hg (by cases v.ownBlock <;> simp)
/-- What an append to a slice that the call owns leaves as it was. -/
theorem own_keep {w3 w4 : World} {base E size n : Nat} {v : Value} {cs : List Value} {o : Obj} (hown : w3.ownsRow base E size v n cs) (hg : (w3.alloc o).grownBy w4 v.ownBlock) (hE : E ≠ 5) :
    (∀ A c l, IsB w3 A c l → IsB w4 A c l) ∧ (∀ (g : Nat) (u : Obj), g < base → w3.heap[g]? = some u → w4.heap[g]? = some u) ∧ (∀ (w1 : World) (r : Option Nat), w1.heap.size ≤ base → w1.grownBy w3 r → w1.grownBy w4 r) := by
  have ha := gr_alloc (gr_refl w3 none) o
  rcases hown.2 with ⟨rfl, -⟩ | ⟨q, cap, cur, rfl, hq, hb, -⟩
  · have hg2 : w3.grownBy w4 none := gr_trans ha hg
    exact ⟨fun A c l h => h.kept0 hg2, fun g u _ h => gr_blk hg2 h (by simp), fun w1 r _ h => gr_trans h (gr_weak hg2)⟩
  · have hg2 : (w3.alloc o).grownBy w4 (some q) := hg
    refine ⟨fun A c l h => (h.kept0 ha).keptD hg2 (blk_alloc hb o) hE, fun g u hlt h => gr_blk hg2 (blk_alloc h o) (by simp; omega), fun w1 r hs h => ?_⟩
    exact gr_new (gr_trans h (gr_weak ha)) hg2 (fun g' e => by cases e; left; omega)

set_option maxHeartbeats 4000000 in
set_option maxRecDepth 1000000 in
theorem parseStringValue_of {w W0 : World} {g : Nat} {lc tk ta tn tp tr ts le os : Value} {A B : Option Addr} {c nb cb : Nat} {T : List UInt8} {xs : List (List UInt8)} (hW : W0.grownBy w none) (hg0 : W0.heap.size ≤ g) (hU : HasU W0)
    (hd : HasDec w g lc tk ta tn tp tr ts le os (.slice B nb cb) (.slice A T.length c)) (h : IsB w A c T) (hj : JR T xs) (hne : xs ≠ []) (hl : T.length ≤ 1000000) (hnb : T.length ≤ nb) (hb : nb ≤ 9223372036854775807) :
    Calls Tryz.prog 134 #[.pointer (some ⟨g, 0, none⟩)] w (ReadEnds w g lc tk ta tn tp tr ts le os (.slice B nb cb) 3 2 0 ((nb : Int) - T.length) T ⟨xs.flatten.toArray⟩ []) := by
  have hlt := blk_lt hd
  have hTne : T ≠ [] := by
    rintro rfl
    rcases hj.two with ⟨-, h2⟩ | ⟨_, _, _, _, h2, -⟩
    · exact hne h2
    · cases h2
  obtain ⟨b0, o0, rfl, -⟩ := h.get hTne
  have hle0 := h.le
  have hcap0 := h.cap
  have hg1 := gr_alloc (gr_refl w none) tok0
  have hb1 := blk_new w tok0
  have hd1 := gr_blk hg1 hd (by simp)
  have h1 := h.kept0 hg1
  obtain ⟨d0, d1, d2, d3, d4, d5, d6, d7, d8, d9, d10, df⟩ := HasDec.cells hd1
  have hup := h.upto T.length T.length ((T.length : Int) - (0 : Nat)) (by simp) rfl (Nat.le_refl _)
  obtain ⟨i0, hi, hz0, hz1, hz2⟩ := info9P
  have hll := hj.len
  have HX := Lib.hid hj
  have HL := Lib.hid hll
  have HH := Lib.hid h
  have HB1 := Lib.hid hb1
  have HD1 := Lib.hid hd1
  have HG1 := Lib.hid hg1
  have HU := Lib.hid (show ∀ w1 : World, w.grownBy w1 (some g) → HasU w1 from fun w1 h1 => hU.kept (gr_new hW h1 (by rintro g' hg'; cases hg'; exact .inl hg0)))
  have HN := Lib.hid hne
  have HUP := Lib.hid hup
  have h1B := Lib.hid h1
  generalize hTl : T.length = N0 at hl hnb hle0 d10 HL HD1 HUP ⊢
  have HTl := Lib.hid hTl
  have hN0 : 0 < N0 := by rw [← hTl]; exact List.length_pos_iff.2 hTne
  clear d0 d1 d2 d3 d4 d5 d6 d7 d8 d9 df hd h hj hg1 hb1 hd1 h1 hup hll hne hU hW hTl hTne
  have hlt1 : g ≠ w.heap.size := by omega
  unfold tok0 at HB1 HD1 HG1 d10 h1B
  unfold ReadEnds
  go_enter Tryz.func134, Tryz.ntmps134
  go_wp2_with fail
  obtain ⟨w1, hw1⟩ : ∃ w1 : World, w1 = w.alloc (.cells #[.int .u8 0, .int .u8 0, .int .u8 0, .int .i64 0, .slice none 0 0, .string { data := #[] }] 72) := ⟨_, rfl⟩
  rw [← hw1] at HB1 HD1 HG1 d10 h1B ⊢
  have hsz : w1.heap.size = w.heap.size + 1 := by rw [hw1]; simp
  clear hw1
  have HSZ := Lib.hid hsz
  clear hsz d10
  go_loopg [5] (N0 + 1) (fun gk ss wr => ∃ (x0 x1 : List (List UInt8)) (T1 : List UInt8) (A1 : Option Addr) (c1 N1 : Nat), Hid (wr.ownsRow (w.heap.size + 1) 9 1 ss x0.length (x0.map strV)) ∧ Hid (HasDec wr g lc tk ta tn tp tr ts le os (.slice B nb cb) (.slice A1 N1 c1)) ∧ Hid (IsB wr A1 c1 T1) ∧ Hid (N1 = T1.length) ∧ Hid (JR T1 x1) ∧ Hid (xs = x0 ++ x1) ∧ N1 < gk ∧ N1 ≤ N0 ∧ Hid (w1.grownBy wr (some g)))
  case atStart =>
    exact ⟨[], xs, T, _, _, N0, Lib.hid ⟨rfl, .inl ⟨rfl, rfl⟩⟩, HD1, h1B, Lib.hid HTl.out.symm, HX, Lib.hid rfl, by omega, Nat.le_refl _, Lib.hid (gr_refl _ _)⟩
  case round =>
    obtain ⟨x0, x1, T1, A1, c1, N1, HO, HD, HB, HN1, HJ, HXX, hgk, hN1, HG⟩ := hrel
    obtain ⟨d0, d1, d2, d3, d4, d5, d6, d7, d8, d9, d10, df⟩ := HasDec.cells HD.out
    have hge := HG.out.size
    have hsz := HSZ.out
    clear d0 d1 d2 d3 d4 d5 d6 d7 d8 df
    rcases HJ.out.two with ⟨rfl, rfl⟩ | ⟨x, y, t, x1, rfl, rfl, he, hj⟩
    · have hz : N1 = 0 := HN1.out
      subst hz
      have hxx : xs = x0 := by have := HXX.out; simpa using this
      subst hxx
      have hJo := fun W (hW : wr.grownBy W none) => join_of (W := W) xs HN.out (own_none HO.out hW) (by have := HL.out.1; omega) (by have := HL.out.2; omega)
      have HJo := Lib.hid hJo
      have hRb := gr_blk HG.out HB1.out (by simp; omega)
      obtain ⟨⟨q0, q1, q2, q3, q4, q5⟩, qf⟩ := tok0_cells hRb
      have HRb := Lib.hid hRb
      have hup : ∀ (W : World) (k : IntKind), (Instr.slice 28 (.slice (some ⟨b0, o0, none⟩) N0 c) none (some (.int k (N0 : Int))) none).run Tryz.prog W = .ok (.slice (some ⟨b0, o0, none⟩) N0 c) W := fun W k => by have := HUP.out W k; simpa using this
      have hnn : (N0 : Int) ≤ (c : Int) := by omega
      have hwp : IntKind.i64.wrap ((nb : Int) - (N0 : Int)) = (nb : Int) - (N0 : Int) := IntWalk.i64_in _ (by omega)
      have hwr : IntKind.i64.wrap (N0 : Int) = (N0 : Int) := IntWalk.i64_in _ (by omega)
      have z0 : ¬ ((0 : Int) < ((0 : Nat) : Int)) := by omega
      clear hJo hRb hi hz0 hz1 hz2
      go_wp2_with fail
      have hJ := HJo.out wr.drew (gr_drew (gr_refl _ _))
      obtain ⟨sb, hsb⟩ : ∃ s : ByteArray, s = ⟨xs.flatten.toArray⟩ := ⟨_, rfl⟩
      rw [← hsb] at hJ
      have HSB := Lib.hid hsb
      clear hsb
      have HJD := Lib.hid hJ
      clear hJ
      rename_i K3 J1 K2 a3 a2 K1 a1 K0 a0
      clear a1 K1 a2 a3 J1 K2 K3 hgk
      have hRne : ¬ (w.heap.size = g) := by omega
      have hRne2 : ¬ (g = w.heap.size) := by omega
      clear q0 q1 q2 q3 q4 q5 qf hsz hge hb hcap0 hlt1 z0 hnb hle0 hl hN1 hN0 hlt hg0
      refine wp_region_noPanic ?_
      refine wp_region_held_drew (S := fun w' => (w'.cell? ⟨g, 9, none⟩ = some (.slice B nb cb) ∧ w'.cell? ⟨g, 10, none⟩ = some (.slice A1 0 c1))) (by kernel_rfl) ⟨d9, d10⟩ (fun hHeld => ?_)
      refine wpAnyH_take (i := 0) (v := .pointer (some ⟨g, 0, none⟩)) rfl (by kernel_rfl) (by kernel_rfl) (by kernel_rfl) (fun _ _ _ h => h) (Or.inl ⟨by rfl, by intro w hSw; (try dsimp only at hSw); go_simp⟩) hHeld ?_
      refine wpAnyH_take (i := 1) (v := .pointer (some ⟨g, 0, none⟩)) rfl (by kernel_rfl) (by kernel_rfl) (by kernel_rfl) (fun _ _ _ h => h) (Or.inl ⟨by rfl, by intro w hSw; (try dsimp only at hSw); go_simp⟩) hHeld ?_
      refine wpAnyH_take (i := 2) (v := .pointer (some ⟨g, 9, none⟩)) rfl (by kernel_rfl) (by kernel_rfl) (by kernel_rfl) (fun _ _ _ h => h) (Or.inl ⟨by rfl, by intro w hSw; (try dsimp only at hSw); go_simp⟩) hHeld ?_
      refine wpAnyH_take (i := 3) (v := .slice B nb cb) rfl (by kernel_rfl) (by kernel_rfl) (by kernel_rfl) (fun _ _ _ h => h) (Or.inl ⟨by rfl, by intro w hSw; (try dsimp only at hSw); go_simp⟩) hHeld ?_
      refine wpAnyH_take (i := 4) (v := .int .i64 (nb : Int)) rfl (by kernel_rfl) (by kernel_rfl) (by kernel_rfl) (fun _ _ _ h => h) (Or.inl ⟨by rfl, by intro w hSw; (try dsimp only at hSw); go_simp⟩) hHeld ?_
      refine wpAnyH_take (i := 5) (v := .slice (some ⟨b0, o0, none⟩) N0 c) rfl (by kernel_rfl) (by kernel_rfl) (by kernel_rfl) (fun _ _ _ h => h) (Or.inl ⟨by rfl, by intro w hSw; (try dsimp only at hSw); go_simp⟩) hHeld ?_
      refine wpAnyH_take (i := 6) (v := .int .i64 (N0 : Int)) rfl (by kernel_rfl) (by kernel_rfl) (by kernel_rfl) (fun _ _ _ h => h) (Or.inl ⟨by rfl, by intro w hSw; (try dsimp only at hSw); go_simp⟩) hHeld ?_
      refine wpAnyH_take (i := 7) (v := .int .i64 ((nb : Int) - (N0 : Int))) rfl (by kernel_rfl) (by kernel_rfl) (by kernel_rfl) (fun _ _ _ h => h) (Or.inl ⟨by rfl, by intro w hSw; (try dsimp only at hSw); go_simp⟩) hHeld ?_
      refine wpAnyH_take (i := 8) (v := .slice (some ⟨b0, o0, none⟩) N0 c) rfl (by kernel_rfl) (by kernel_rfl) (by kernel_rfl) (fun _ _ _ h => h) (Or.inl ⟨by rfl, by intro w hSw; (try dsimp only at hSw); go_simp⟩) hHeld ?_
      refine wpAnyH_take (i := 9) (v := .slice (some ⟨b0, o0, none⟩) N0 c) rfl (by kernel_rfl) (by kernel_rfl) (by kernel_rfl) (fun _ _ _ h => h) (Or.inl ⟨by rfl, by intro w hSw; (try dsimp only at hSw); go_simp⟩) hHeld ?_
      refine wpAnyH_take (i := 10) (v := .int .i64 (N0 : Int)) rfl (by kernel_rfl) (by kernel_rfl) (by kernel_rfl) (fun _ _ _ h => h) (Or.inl ⟨by rfl, by intro w hSw; (try dsimp only at hSw); go_simp⟩) hHeld ?_
      refine wpAnyH_take (i := 11) (v := .pointer (some ⟨g, 0, none⟩)) rfl (by kernel_rfl) (by kernel_rfl) (by kernel_rfl) (fun _ _ _ h => h) (Or.inl ⟨by rfl, by intro w hSw; (try dsimp only at hSw); go_simp⟩) hHeld ?_
      refine wpAnyH_take (i := 12) (v := .pointer (some ⟨g, 0, none⟩)) rfl (by kernel_rfl) (by kernel_rfl) (by kernel_rfl) (fun _ _ _ h => h) (Or.inl ⟨by rfl, by intro w hSw; (try dsimp only at hSw); go_simp⟩) hHeld ?_
      refine wpAnyH_take (i := 13) (v := .pointer (some ⟨g, 10, none⟩)) rfl (by kernel_rfl) (by kernel_rfl) (by kernel_rfl) (fun _ _ _ h => h) (Or.inl ⟨by rfl, by intro w hSw; (try dsimp only at hSw); go_simp⟩) hHeld ?_
      refine wpAnyH_take (i := 14) (v := .slice A1 0 c1) rfl (by kernel_rfl) (by kernel_rfl) (by kernel_rfl) (fun _ _ _ h => h) (Or.inl ⟨by rfl, by intro w hSw; (try dsimp only at hSw); go_simp⟩) hHeld ?_
      refine wpAnyH_take (i := 15) (v := .int .i64 0) rfl (by kernel_rfl) (by kernel_rfl) (by kernel_rfl) (fun _ _ _ h => h) (Or.inl ⟨by rfl, by intro w hSw; (try dsimp only at hSw); go_simp⟩) hHeld ?_
      refine wpAnyH_take (i := 16) (v := .int .i64 (N0 : Int)) rfl (by kernel_rfl) (by kernel_rfl) (by kernel_rfl) (fun _ _ _ h => h) (Or.inl ⟨by rfl, by intro w hSw; (try dsimp only at hSw); go_simp⟩) hHeld ?_
      refine wpAnyH_take (i := 17) (v := .slice (some ⟨b0, o0, none⟩) N0 c) rfl (by kernel_rfl) (by kernel_rfl) (by kernel_rfl) (fun _ _ _ h => h) (Or.inl ⟨by rfl, by intro w hSw; (try dsimp only at hSw); go_simp⟩) hHeld ?_
      refine wpAnyH_take (i := 18) (v := u5) rfl (by kernel_rfl) (by kernel_rfl) (by kernel_rfl) (fun _ _ _ h => h) (Or.inl ⟨by rfl, by intro w hSw; (try dsimp only at hSw); go_simp⟩) hHeld ?_
      refine wpAnyH_ready (rs := [19]) (by kernel_rfl) (by simp) ?_
      refine AllReadyH.cons (o := _) rfl (fun K hK => ?_) AllReadyH.nil
      go_simp
      refine HJD.out.mono ?_
      rintro e w3 ⟨rfl, hgJ⟩
      go_wp2_with fail
      have hth3 : w3.there w.heap.size 0 6 := there_blk (cs := [_, _, _, _, _, _]) (gr_blk hgJ (blk_drew1 HRb.out) (by simp))
      refine hK.out _ _ ⟨gr_cell hgJ d9, gr_cell hgJ d10⟩ (fun hHeld => ?_)
      clear hK
      refine wpAnyH_take (i := 20) (v := .agg #[.int .u8 3, .int .u8 2, .int .u8 0, .int .i64 ((nb : Int) - (N0 : Int)), .slice (some ⟨b0, o0, none⟩) N0 c, .string sb]) rfl (by kernel_rfl) (by kernel_rfl) (by kernel_rfl) (fun _ _ _ h => h) (Or.inl ⟨by rfl, by intro w hSw; (try dsimp only at hSw); go_simp⟩) hHeld ?_
      refine wpAnyH_ready (rs := [21]) (by kernel_rfl) (by simp) ?_
      refine AllReadyH.cons (o := _) rfl (fun K hK => ?_) AllReadyH.nil
      refine step_store (by rfl) 72 _ _ (by rfl) [.int .u8 3, .int .u8 2, .int .u8 0, .int .i64 ((nb : Int) - (N0 : Int)), .slice (some ⟨b0, o0, none⟩) N0 c, .string sb] (by rfl) (by rfl) hth3 info72 (by intro v hv; simp only [List.mem_cons, List.mem_nil_iff, or_false] at hv; rcases hv with rfl | rfl | rfl | rfl | rfl | rfl <;> rfl) ?_
      intro w5 hw5
      obtain ⟨hD5, hG5, s0, s1, s2, s3, s4, s5⟩ := tok_stored hth3 hw5 (gr_blk hgJ (blk_drew1 HD.out) (by simp)) hRne2
      obtain ⟨-, -, -, -, -, -, -, -, -, z9, z10, -⟩ := HasDec.cells hD5
      clear hw5
      refine hK.out _ _ ⟨z9, z10⟩ (fun hHeld => ?_)
      clear hK
      refine wpAnyH_ready (rs := [22]) (by kernel_rfl) (by simp) ?_
      refine AllReadyH.cons (o := _) rfl (fun K hK => ?_) AllReadyH.nil
      go_simp
      refine hK.out _ _ hHeld (fun _ => ?_)
      clear hK hHeld
      refine wpAnyH_done (by kernel_rfl) ?_ _
      change K0 _ _
      go_wp2
      refine bodyPost_ret (v := .tuple #[.agg #[.int .u8 3, .int .u8 2, .int .u8 0, .int .i64 ((nb : Int) - (N0 : Int)), .slice (some ⟨b0, o0, none⟩) N0 c, .string sb], .nilIface]) (by simp [results, Tryz.results134, go_sem, s0, s1, s2, s3, s4, s5]) rfl ?_
      have hgA : w.grownBy w3 (some g) := gr_trans (gr_trans (gr_weak HG1.out) HG.out) (gr_weak (gr_trans (gr_drew (gr_refl wr none)) hgJ))
      have hgB : w.grownBy w5 (some g) := gr_new hgA hG5 (fun g' e => by cases e; exact .inl (Nat.le_refl _))
      have hRb3 := gr_blk hgJ (blk_drew1 HRb.out) (by simp)
      refine ⟨some ⟨b0, o0, none⟩, c, ?_, ?_, A1, c1, IsB.nil _ (by have := HB.out.cap; exact this), hD5, hgB⟩
      · rw [HTl.out, HSB.out]
      · exact ((HH.out.kept0 HG1.out).keptD (gr_trans HG.out (gr_weak (gr_trans (gr_drew (gr_refl wr none)) hgJ))) HD1.out (by decide)).keptD hG5 hRb3 (by decide)
    · obtain ⟨b1, o1, rfl, hcell⟩ := HB.out.head
      have hpos : 0 < N1 := by rw [HN1.out]; simp
      have hgw1 : w.grownBy wr (some g) := gr_trans (gr_weak HG1.out) HG.out
      have hPS := parseString_of (by have := HD.out; rw [HN1.out] at this; exact this) HB.out he (by rw [← HN1.out]; omega) (HU.out wr hgw1)
      have HPS := Lib.hid hPS
      have HJ1 := Lib.hid hj
      clear hPS hj hgw1 d9 he
      go_wp2_with fail
      refine HPS.out.mono ?_
      clear HPS
      rintro e w3 ⟨rfl, A3, c3, hB3, hd3, hg3⟩
      have hown3 := HO.out.kept hg3 (by
        rcases HO.out.2 with ⟨h1, -⟩ | ⟨q, _, _, h1, h2, -⟩
        · left; rw [h1]; rfl
        · right; rw [h1]; simp only [Value.ownBlock]; intro h3; cases h3; omega)
      have HO3 := Lib.hid hown3
      have HB3 := Lib.hid hB3
      have HD3 := Lib.hid hd3
      have HG3 := Lib.hid (gr_trans HG.out hg3)
      have hsz3 := HG3.out.size
      clear hown3 hB3 hd3 hg3 d10 hcell
      have hxl : x0.length ≤ 1000000 := by
        have h1 := HL.out.1
        rw [HXX.out, List.length_append] at h1; omega
      have hnew : ∀ (o : Obj), o = .cells #[strV x] 9 → ∀ j u, ([strV x] : List Value)[j]? = some u → (w3.alloc o).cell? ((⟨w3.heap.size, 0, none⟩ : Addr).add j) = some u := by
        rintro o rfl j u hj
        match j, hj with
        | 0, hj =>
          simp at hj; subst hj
          rw [addr_addn]
          exact blk_cell (blk_new w3 _) 0
        | j + 1, hj => simp at hj
      have HNEW := Lib.hid hnew
      clear hnew
      go_wp2_with (first
        | (at_builtin; refine wpList_append_own _ rfl (.tmp 45) (.tmp 47) 34 rfl (w.heap.size + 1) 9 i0 (.string ByteArray.empty) 1 16 Tryz.underlying34 hi hz0 hz1 hz2 rfl (by decide) _ _ _ rfl (HO3.out.alloc _) ⟨w3.heap.size, 0, none⟩ 1 1 [strV x] rfl rfl ?c1 ?c2 ?c3 ?c4 ?c5 ?grow)
        | fail)
      case c1 => exact HNEW.out _ rfl
      case c2 => intro u hu; simp at hu; subst hu; rfl
      case c3 => unfold maxLen; omega
      case c4 => omega
      case c5 => simp only [World.size_alloc]; omega
      case grow =>
        intro v4 w4 hown4 hgr4 hnn
        have hO4 : w4.ownsRow (w.heap.size + 1) 9 1 v4 (x0 ++ [x]).length ((x0 ++ [x]).map strV) := by
          simpa using hown4
        obtain ⟨k1, k2, k3⟩ := own_keep HO3.out hgr4 (by decide)
        have HO4 := Lib.hid hO4
        have HB4 := Lib.hid (k1 _ _ _ HB3.out)
        have HD4 := Lib.hid (k2 _ _ (by omega) HD3.out)
        have HG4 := Lib.hid (k3 _ _ (by omega) HG3.out)
        clear hown4 hgr4 hnn hO4 k1 k2 k3 HO3 HNEW hi hz0 hz1 hz2
        go_wp2
        have hsl := skip_len t
        go_roundg N1
        case measure => exact hgk
        case rel => exact ⟨x0 ++ [x], x1, skip t, _, _, (skip t).length, HO4, HD4, HB4, Lib.hid rfl, HJ1, Lib.hid (by rw [HXX.out]; simp), by rw [HN1.out]; simp; omega, by have := HN1.out; simp at this; omega, HG4⟩
end Go.Proofs.YtlfeolfjlmelpaaGreatDoor
namespace Go.Proofs.YtlfeolfjlmelpaaGreatDoor
open Go.RowKit

set_option maxHeartbeats 2000000 in
set_option maxRecDepth 1000000 in
theorem parseScalar_str {w : World} {g : Nat} {lc tk ta tn tp tr ts le os og : Value} {A : Option Addr} {c : Nat} {r : List UInt8} {kd at_ na pos : Int} {raw rest : List UInt8} {str : ByteArray}
    (hd : HasDec w g lc tk ta tn tp tr ts le os og (.slice A (34 :: r).length c)) (h : IsB w A c (34 :: r))
    (hN : ∀ w1, w.grownBy w1 none → Calls Tryz.prog 134 #[.pointer (some ⟨g, 0, none⟩)] w1 (ReadEnds w1 g lc tk ta tn tp tr ts le os og kd at_ na pos raw str rest)) :
    Calls Tryz.prog 90 #[.pointer (some ⟨g, 0, none⟩)] w (ReadEnds w g lc tk ta tn tp tr ts le os og kd at_ na pos raw str rest) := by
  have hlt := blk_lt hd
  have hcap := h.cap
  have hle := h.le
  have hg1 := gr_alloc (gr_refl w none) tok0
  have hb1 := blk_new w tok0
  obtain ⟨d0, d1, d2, d3, d4, d5, d6, d7, d8, d9, d10, df⟩ := hd.cells
  obtain ⟨b, o, rfl, hcell⟩ := h.head
  have e10 := gr_cell hg1 d10
  have eb : (w.alloc tok0).cell? ⟨b, o, none⟩ = some (.int .u8 34) := gr_cell hg1 hcell
  have HN := Lib.hid (hN _ hg1)
  have HG1 := Lib.hid hg1
  have HB1 := Lib.hid hb1
  clear d0 d1 d2 d3 d4 d5 d6 d7 d8 d9 d10 df hd h hN hg1 hb1 hcell
  unfold tok0 at HN e10 eb
  unfold ReadEnds
  go_enter Tryz.func90, Tryz.ntmps90
  go_wp2_with fail
  refine HN.out.mono ?_
  rintro e w2 ⟨A0, c0, rfl, hraw, A', c', hrest, hd2, hg3⟩
  have hb2 := gr_blk hg3 HB1.out (by simp; omega)
  obtain ⟨⟨q0, q1, q2, q3, q4, q5⟩, fz⟩ := tok0_cells hb2
  have HG3 := Lib.hid hg3
  have HRW := Lib.hid hraw
  have HRS := Lib.hid hrest
  have HD2 := Lib.hid hd2
  have HB2 := Lib.hid hb2
  clear hg3 hraw hrest hd2 hb2 e10 eb
  go_wp2
  refine bodyPost_ret (v := .tuple #[.agg #[.int .u8 kd, .int .u8 at_, .int .u8 na, .int .i64 pos, .slice A0 raw.length c0, .string str], .nilIface]) (by simp [results, Tryz.results90, go_sem, q0, q1, q2, q3, q4, q5]) rfl ?_
  exact ⟨A0, c0, rfl, HRW.out.keptD tok6_gr HB2.out (by decide), A', c', HRS.out.keptD tok6_gr HB2.out (by decide), tok6_far HD2.out (by omega),
    gr_new (gr_new (gr_weak HG1.out) HG3.out (fun _ e => .inr e)) tok6_gr (fun g' e => by cases e; left; omega)⟩

theorem read_str {W0 : World} {T r : List UInt8} {xs : List (List UInt8)} (hU : HasU W0) (hT : T = 34 :: r) (hj : JR T xs) (hne : xs ≠ []) (hl : T.length ≤ 1000000) : ScRead W0 T T 2 0 ⟨xs.flatten.toArray⟩ := by
  subst hT
  intro w g ta tn tp tr ts le os A B c nb cb hW hge hd h hnb hb
  refine (Read_of (kd := 3) (at_ := 2) (na := 0) (pos := (nb : Int) - (34 :: r).length) (raw := 34 :: r) (rest := []) (str := ⟨xs.flatten.toArray⟩) hd (by decide) (by decide) (fun w1 hg => parseNext_name (gr_blk hg hd (by simp)) (h.kept0 hg) (by unfold Plain; decide) (fun w2 A1 c1 hg2 hd2 h2 =>
    parseScalar_str hd2 h2 (fun w3 hg3 => parseStringValue_of (W0 := W0) ?_ hge hU (gr_blk hg3 hd2 (by simp)) (h2.kept0 hg3) hj hne hl hnb hb)))).mono ?_
  · exact gr_new hW (gr_trans (gr_trans (gr_weak hg) hg2) (gr_weak hg3)) (fun g' e => by cases e; exact .inl hge)
  · rintro e w' ⟨A0, c0, h1, h2, A', c', h3, h4, h5⟩
    exact ⟨A0, c0, _, h1, h2, A', c', h3, h4, h5⟩
end Go.Proofs.YtlfeolfjlmelpaaGreatDoor
