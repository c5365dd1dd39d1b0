/- text.consume: blanks and remarks are skipped. -/
import Derived.Test.YtlfeolfjlmelpaaGreatDoorKA
import Derived.Lib.BytesEntry
import Derived.Shelf.Bytes.SlIndexAt
namespace Go.Proofs.YtlfeolfjlmelpaaGreatDoor
open Go.RowKit

/-! ### bytes.IndexByte -/
theorem bytesOf_map (xs : List UInt8) : Lib.bytesOf (xs.map fun x => (x.toNat : Int)) = xs := by
  unfold Lib.bytesOf
  rw [List.map_map]
  conv => rhs; rw [← List.map_id xs]
  refine List.map_congr_left fun x _ => ?_
  simp

set_option maxRecDepth 1000000 in
theorem indexByte_any (A : Option Addr) (c : Nat) (xs : List UInt8) (cv : UInt8) (w : World) (h : IsB w A c xs) (hne : xs ≠ []) :
    Calls Tryz.prog 171 #[.slice A xs.length c, .int .u8 (cv.toNat : Int)] w fun e w' => e = .returned (.int .i64 (Lib.indexByte xs cv)) ∧ w = w' := by
  obtain ⟨b, o, rfl, hk⟩ := h.get hne
  have hrun := Lib.run_indexByteSlice (P := Tryz.prog) (w := w) b o xs.length c (xs.map fun x => (x.toNat : Int)) (by simp) (fun i hi => by
    rw [hk i hi, List.getD_eq_getElem?_getD, List.getElem?_map, List.getElem?_eq_getElem hi]
    rfl) (cv.toNat : Int)
  rw [bytesOf_map, show ((cv.toNat : Int)).toNat.toUInt8 = cv by simp] at hrun
  clear hk
  go_enter Tryz.func171, Tryz.ntmps171
  go_wp2
  rw [run_callFunc_extern Tryz.func207 (by kernel_rfl) (by kernel_rfl) (by kernel_rfl) (e := Extern.BytealgIndexByte.indexByte) (by kernel_rfl)]
  rw [hrun]
  simp only [Result.andThen]
  rw [Oper.upon_value]
  go_wp2
  go_ret
  exact ⟨rfl, rfl⟩

mutual
/-- What is left when blanks and remarks are taken off the front. -/
def skip : List UInt8 → List UInt8
  | [] => []
  | x :: r => if x.toNat = 32 ∨ x.toNat = 10 ∨ x.toNat = 13 ∨ x.toNat = 9 then skip r else if x.toNat = 35 then skipC r else x :: r
/-- Within a remark. -/
def skipC : List UInt8 → List UInt8
  | [] => []
  | x :: r => if x = 10 then skip r else skipC r
end


theorem skipC_index : ∀ (r : List UInt8) (i : Nat), Lib.indexByte r 10 = i → skipC r = skip (r.drop (i + 1)) ∧ i < r.length
  | [], i, h => by simp [Lib.indexByte] at h
  | x :: r, i, h => by
    unfold Lib.indexByte at h
    rw [skipC]
    by_cases hx : x = 10
    · rw [if_pos (by simpa using hx)] at h
      rw [if_pos hx]
      have : i = 0 := by omega
      subst this; simp
    · rw [if_neg (by simpa using hx)] at h
      rw [if_neg hx]
      by_cases h1 : (Lib.indexByte r 10 == -1) = true
      · rw [if_pos h1] at h; omega
      · rw [if_neg h1] at h
        have h2 : Lib.indexByte r 10 ≠ -1 := by simpa using h1
        have h3 := Lib.indexByte_ge r 10
        obtain ⟨j, rfl⟩ : ∃ j, i = j + 1 := ⟨i - 1, by omega⟩
        have := skipC_index r j (by omega)
        rw [this.1]
        simp; omega
theorem skipC_none : ∀ (r : List UInt8), Lib.indexByte r 10 < 0 → skipC r = []
  | [], _ => by rw [skipC]
  | x :: r, h => by
    unfold Lib.indexByte at h
    rw [skipC]
    by_cases hx : x = 10
    · rw [if_pos (by simpa using hx)] at h; omega
    · rw [if_neg (by simpa using hx)] at h
      rw [if_neg hx]
      by_cases h1 : (Lib.indexByte r 10 == -1) = true
      · have : Lib.indexByte r 10 = -1 := by simpa using h1
        exact skipC_none r (by omega)
      · rw [if_neg h1] at h
        have := Lib.indexByte_ge r 10
        have : Lib.indexByte r 10 ≠ -1 := by simpa using h1
        omega


set_option maxHeartbeats 1000000 in
set_option maxRecDepth 1000000 in
theorem consume_any (A : Option Addr) (c : Nat) (xs : List UInt8) (m : Nat) (w : World) (h : IsB w A c xs) (hm : m ≤ xs.length) :
    Calls Tryz.prog 126 #[.slice A xs.length c, .int .i64 m] w fun e w' => ∃ A' c', e = .returned (.slice A' (skip (xs.drop m)).length c') ∧ IsB w A' c' (skip (xs.drop m)) ∧ w = w' := by
  obtain ⟨A1, c1, h1, hrun⟩ := h.cut m hm
  have H1 := Lib.hid h1
  clear h1
  have hcap := h.cap
  have hle := h.le
  clear h
  go_enter Tryz.func126, Tryz.ntmps126
  go_wp2
  go_loop [0] (fun v => ∃ A' c' ys, v = .slice A' ys.length c' ∧ Hid (IsB w A' c' ys) ∧ Hid (skip ys = skip (xs.drop m))) (fun v => lenV v)
  case atStart => exact ⟨A1, c1, xs.drop m, by simp, H1, rfl⟩
  case round =>
    obtain ⟨A', c', ys, rfl, hB, hS⟩ := hrel
    clear hrun
    cases ys with
    | nil =>
      go_wp2
      go_ret
      rw [← hS.out, skip]
      exact ⟨A', c', rfl, hB, rfl⟩
    | cons x r =>
      obtain ⟨b, o, rfl, hcell⟩ := hB.out.head
      obtain ⟨A2, c2, h2, hcut⟩ := hB.out.cut1
      have H2 := Lib.hid h2
      clear h2
      have hle2 := hB.out.le
      have hcap2 := hB.out.cap
      by_cases hsp : x.toNat = 32 ∨ x.toNat = 10 ∨ x.toNat = 13 ∨ x.toNat = 9
      · have HS : Hid (skip r = skip (xs.drop m)) := by rw [← hS.out, skip, if_pos hsp]; rfl
        have hx : x = 32 ∨ x = 10 ∨ x = 13 ∨ x = 9 := by
          rcases hsp with h | h | h | h
          · exact .inl (u8_of_nat h)
          · exact .inr (.inl (u8_of_nat h))
          · exact .inr (.inr (.inl (u8_of_nat h)))
          · exact .inr (.inr (.inr (u8_of_nat h)))
        clear hsp
        rcases hx with rfl | rfl | rfl | rfl
        all_goals
          go_wp2
          exact ⟨⟨A2, c2, r, rfl, H2, HS⟩, by simp [lenV]⟩
      · have f1 : ((x.toNat : Int) == 32) = false := beq_eq_false_iff_ne.2 (by omega)
        have f2 : ((x.toNat : Int) == 10) = false := beq_eq_false_iff_ne.2 (by omega)
        have f3 : ((x.toNat : Int) == 13) = false := beq_eq_false_iff_ne.2 (by omega)
        have f4 : ((x.toNat : Int) == 9) = false := beq_eq_false_iff_ne.2 (by omega)
        by_cases hc : x.toNat = 35
        · obtain rfl : x = 35 := u8_of_nat hc
          have HS : Hid (skipC r = skip (xs.drop m)) := by rw [← hS.out, skip, if_neg hsp, if_pos hc]; rfl
          clear hsp hc f1 f2 f3 f4
          have hI := indexByte_any (some ⟨b, o, none⟩) c' (35 :: r) 10 w hB.out (by simp)
          have hge := Lib.indexByte_ge (35 :: r) 10
          have hii : Lib.indexByte (35 :: r) 10 = if Lib.indexByte r 10 == -1 then -1 else Lib.indexByte r 10 + 1 := by
            conv => lhs; unfold Lib.indexByte
            rw [if_neg (by decide)]
          have hge2 := Lib.indexByte_ge r 10
          obtain ⟨i, hi⟩ : ∃ i, i = Lib.indexByte (35 :: r) 10 := ⟨_, rfl⟩
          rw [← hi] at hI hge hii
          have HI := Lib.hid hI
          clear hI hi
          by_cases hneg : i < 0
          · have HS2 : Hid (skip [] = skip (xs.drop m)) := by
              rw [← HS.out, skipC_none r, skip]; rfl
              split at hii
              · rename_i h1; have : Lib.indexByte r 10 = -1 := by simpa using h1
                omega
              · omega
            clear hii hge2
            have hn : decide (0 ≤ i) = false := by simp; omega
            go_wp2_with (go_at_call 171; refine HI.out.mono ?_; rintro e w' ⟨rfl, rfl⟩)
            exact ⟨⟨none, 0, [], rfl, IsB.nil _ (by omega), HS2⟩, by simp [lenV]⟩
          · obtain ⟨j, hj⟩ : ∃ j : Nat, Lib.indexByte r 10 = j := ⟨(Lib.indexByte r 10).toNat, by
              split at hii
              · omega
              · rename_i h1
                have h1 : Lib.indexByte r 10 ≠ -1 := by simpa using h1
                omega⟩
            have hsk := skipC_index r j hj
            obtain rfl : i = ((j : Nat) : Int) + 1 := by
              rw [if_neg (by simp; omega)] at hii; omega
            have HS2 : Hid (skip (r.drop (j + 1)) = skip (xs.drop m)) := by rw [← HS.out, hsk.1]; rfl
            obtain ⟨A3, c3, h3, hcut3⟩ := hB.out.cut (j + 1 + 1) (by simp; omega)
            have H3 := Lib.hid h3
            have hjl := hsk.2
            clear hii hge2 hj hsk h3 hcut hge
            have hlen : r.length + 1 ≤ c' := by simpa using hle2
            have hw1 : IntKind.i64.wrap ((j : Int) + 1 + 1) = (j : Int) + 1 + 1 := IntWalk.i64_in _ (by omega)
            have hn : decide (0 ≤ (j : Int) + 1) = true := by simp; omega
            simp only [List.drop_succ_cons, List.length_cons, List.length_drop] at hcut3
            rw [show (((j + 1 + 1 : Nat)) : Int) = (j : Int) + 1 + 1 by omega] at hcut3
            go_wp2_with (go_at_call 171; refine HI.out.mono ?_; rintro e w' ⟨rfl, rfl⟩)
            exact ⟨⟨A3, c3, r.drop (j + 1), by simp, by simpa using H3, HS2⟩, by simp [lenV]; omega⟩
        · have HS : Hid (x :: r = skip (xs.drop m)) := by rw [← hS.out, skip, if_neg hsp, if_neg hc]; rfl
          have f5 : ((x.toNat : Int) == 35) = false := beq_eq_false_iff_ne.2 (by omega)
          clear hsp hc
          go_wp2
          go_ret
          rw [← HS.out]
          exact ⟨_, c', rfl, hB, rfl⟩
end Go.Proofs.YtlfeolfjlmelpaaGreatDoor
