/- internal/strconv.ParseUint at digits, base 0. -/
import Derived.Test.YtlfeolfjlmelpaaGreatDoorKK
namespace Go.Proofs.YtlfeolfjlmelpaaGreatDoor
open Go.RowKit

set_option maxHeartbeats 4000000 in
set_option maxRecDepth 1000000 in
theorem pu8_64 {w : World} (x y : UInt8) (r : List UInt8) (hl : (x :: y :: r).length ≤ 4096) (hr : ∀ z ∈ (x :: y :: r), digB 8 z) :
    Calls Tryz.prog 137 #[.string ⟨(48 :: x :: y :: r).toArray⟩, .int .i64 0, .int .i64 64] w (PuEnds w (val 8 0 (x :: y :: r)) 18446744073709551615) := by
  have hc := conv_bytes (x :: y :: r)
  have hx := hr x (by simp)
  have hx2 : 48 ≤ x.toNat ∧ x.toNat ≤ 57 := by
    obtain ⟨h1, h2⟩ := hx
    unfold dv at h2
    rcases h1 with h1 | h1 | h1
    · exact h1
    · rw [if_neg (by omega), if_neg (by omega)] at h2; omega
    · rw [if_neg (by omega), if_pos (by omega)] at h2; omega
  have f1 : ∀ h, ((((⟨(48 :: x :: y :: r).toArray⟩ : ByteArray)[0]'h).toNat : Int) == 48) = true := fun h => rfl
  have f2 : ∀ h, (bits BinOp.or IntKind.u8 (((⟨(48 :: x :: y :: r).toArray⟩ : ByteArray)[1]'h).toNat : Int) 32 == 98) = false := fun h => by rw [str1, or32_oct x hx2]; exact beq_eq_false_iff_ne.2 (by omega)
  have f3 : ∀ h, (bits BinOp.or IntKind.u8 (((⟨(48 :: x :: y :: r).toArray⟩ : ByteArray)[1]'h).toNat : Int) 32 == 111) = false := fun h => by rw [str1, or32_oct x hx2]; exact beq_eq_false_iff_ne.2 (by omega)
  have f4 : ∀ h, (bits BinOp.or IntKind.u8 (((⟨(48 :: x :: y :: r).toArray⟩ : ByteArray)[1]'h).toNat : Int) 32 == 120) = false := fun h => by rw [str1, or32_oct x hx2]; exact beq_eq_false_iff_ne.2 (by omega)
  have f5 : (⟨(48 :: x :: y :: r).toArray⟩ : ByteArray).extract 1 (r.length + 1 + 1 + 1) = ⟨(x :: y :: r).toArray⟩ := str_cut _ 1
  clear hx hx2
  have HR := Lib.hid hr
  have HW := Lib.hid (bytesWorld_isB w (x :: y :: r) (by omega))
  have HG := Lib.hid (bytesWorld_gr w ⟨(x :: y :: r).toArray⟩)
  have HL := Lib.hid hl
  clear hr
  go_enter Tryz.func137, Tryz.ntmps137
  go_wp2
  obtain ⟨N, hN⟩ : ∃ N, N = w.heap.size := ⟨_, rfl⟩
  obtain ⟨C, hC⟩ : ∃ C, C = grownCap w (x :: y :: r).length 0 5 := ⟨_, rfl⟩
  obtain ⟨W, hWW⟩ : ∃ W, W = Lib.bytesWorld w 5 ⟨(x :: y :: r).toArray⟩ := ⟨_, rfl⟩
  rw [← hWW] at HW HG ⊢
  rw [← hN, ← hC] at HW
  simp only [← hN]
  clear hc hWW hN hC f1 f2 f3 f4 f5
  obtain ⟨MX, hMX⟩ : ∃ m : Int, m = IntKind.u64.wrap (IntKind.u64.wrap 18446744073709551616 - 1) := ⟨_, rfl⟩
  obtain ⟨CT, hCT⟩ : ∃ m : Int, m = 2305843009213693952 := ⟨_, rfl⟩
  rw [← hMX, ← hCT]
  have hMX2 : MX = 18446744073709551615 := hMX.trans (by first | exact mx64 | rfl)
  have HCT := Lib.hid hCT
  have HMX := Lib.hid hMX2
  clear hMX hCT hMX2
  go_loop [12, 13, 101] (fun u n i => ∃ k : Nat, k ≤ (r.length + 1 + 1) ∧ u = .bool false ∧ i = .int .i64 k ∧ n = .int .u64 (val 8 0 ((x :: y :: r).take k) : Nat) ∧ Hid (((val 8 0 ((x :: y :: r).take k) : Nat) : Int) ≤ MX)) (fun _ _ i => (r.length + 1 + 1) - (intOf i).toNat)
  case atStart => exact ⟨0, Nat.zero_le _, rfl, rfl, rfl, by show (0 : Int) ≤ MX; have := HMX.out; omega⟩
  case round =>
    obtain ⟨k, hk, rfl, rfl, rfl, hle⟩ := hrel
    have hlen : (r.length + 1 + 1) ≤ 4096 := by have := HL.out; simpa using this
    by_cases hlt : k < (r.length + 1 + 1)
    · have hlt2 : k < (x :: y :: r).length := by simpa using hlt
      obtain ⟨b0, o0, e0, hcl⟩ := HW.out.get (by simp)
      have hcell := hcl k hlt2
      cases e0
      rw [Nat.zero_add] at hcell
      have hR0 := HR.out _ (List.getElem_mem hlt2)
      have hstep := val_take 8 (x :: y :: r) k hlt2
      have htot := val_le 8 (by decide) (x :: y :: r) (k + 1)
      clear hcl
      generalize hcc : (x :: y :: r)[k] = c at hcell hR0 hstep
      clear hcc
      generalize hV : val 8 0 ((x :: y :: r).take k) = V at hle hstep ⊢
      clear hV
      generalize hT : val 8 0 (x :: y :: r) = T at htot ⊢
      clear hT
      generalize hS : val 8 0 ((x :: y :: r).take (k + 1)) = S at hstep htot
      have HS := Lib.hid hS
      have HT := Lib.hid htot
      clear hS htot
      obtain ⟨hcl, hdb⟩ := hR0
      have hus : ((c.toNat : Int) == 95) = false := beq_eq_false_iff_ne.2 (by omega)
      unfold dv at hstep hdb
      have hcl : 48 ≤ c.toNat ∧ c.toNat ≤ 57 := by
        rcases hcl with hcl | hcl | hcl
        · exact hcl
        · rw [if_neg (by omega), if_neg (by omega)] at hdb; omega
        · rw [if_neg (by omega), if_pos (by omega)] at hdb; omega
      rw [if_pos (by omega)] at hstep hdb
      have hstep2 : (S : Int) = (V : Int) * 8 + ((c.toNat : Int) - 48) := by omega
      have HST := Lib.hid hstep2
      have hE1 : 0 ≤ (c.toNat : Int) - 48 := by omega
      have hE2 : (c.toNat : Int) - 48 < 8 := by omega
      clear hstep hstep2 hdb
      by_cases hcut : CT ≤ (V : Int)
      · have hfin : ¬ T ≤ 18446744073709551615 := by have := HT.out; have := HST.out; have := HCT.out; omega
        have HF := Lib.hid hfin
        clear hfin
        go_wp2
        go_ret2
        exact ⟨by (rw [if_neg HF.out, HMX.out]; try rfl), HG.out⟩
      · have hmul : IntKind.u64.wrap ((V : Int) * 8) = (V : Int) * 8 := u64_in _ (by omega) (by have := HCT.out; omega)
        by_cases hov : (V : Int) * 8 + ((c.toNat : Int) - 48) ≤ MX
        · have hadd : IntKind.u64.wrap ((V : Int) * 8 + ((c.toNat : Int) - 48)) = (V : Int) * 8 + ((c.toNat : Int) - 48) := u64_in _ (by omega) (by have := HMX.out; omega)
          have HAD := Lib.hid hadd
          have HOV := Lib.hid hov
          go_wp2
          first | refine ⟨⟨k + 1, by omega, rfl, by simp, ?_, ?_⟩, by simp [intOf]; omega⟩ | (refine ⟨⟨_, _, _, _, _, _, _, _, ?_, rfl, rfl, rfl, rfl, rfl, rfl, rfl, rfl⟩, by simp [intOf]; omega⟩; refine ⟨k + 1, by omega, rfl, by simp, ?_, ?_⟩)
          · rw [HS.out]; refine congrArg (Value.int .u64) ?_; have := HST.out; omega
          · have h1 := HST.out
            have h2 := HOV.out
            show ((val 8 0 _ : Nat) : Int) ≤ MX
            rw [HS.out]; omega
        · have hfin : ¬ T ≤ 18446744073709551615 := by have := HT.out; have := HST.out; have := HMX.out; omega
          have HF := Lib.hid hfin
          obtain ⟨N1, hN1⟩ : ∃ N1, N1 = IntKind.u64.wrap ((V : Int) * 8 + ((c.toNat : Int) - 48)) := ⟨_, rfl⟩
          have hbig : N1 < (V : Int) * 8 ∨ MX < N1 := by
            have hm := HMX.out
            have hct := HCT.out
            by_cases h2 : (V : Int) * 8 + ((c.toNat : Int) - 48) ≤ 18446744073709551615
            · rw [u64_in _ (by omega) h2] at hN1; omega
            · rw [u64_over _ (by omega) (by omega)] at hN1; omega
          have hN2 := hN1.symm
          clear hfin hN1
          by_cases t1 : N1 < (V : Int) * 8
          · go_wp2
            go_ret2
            exact ⟨by (rw [if_neg HF.out, HMX.out]; try rfl), HG.out⟩
          · have t2 : MX < N1 := by omega
            clear hbig
            go_wp2
            go_ret2
            exact ⟨by (rw [if_neg HF.out, HMX.out]; try rfl), HG.out⟩
    · have hke : k = (r.length + 1 + 1) := by omega
      subst hke
      have htk : (x :: y :: r).take (r.length + 1 + 1) = (x :: y :: r) := by simp
      rw [htk] at hle ⊢
      have hfin : val 8 0 (x :: y :: r) ≤ 18446744073709551615 := by have h1 : ((val 8 0 (x :: y :: r) : Nat) : Int) ≤ MX := hle; have := HMX.out; omega
      have HF := Lib.hid hfin
      clear hfin htk
      go_wp2
      go_ret2
      exact ⟨by (rw [if_pos HF.out]; try rfl), HG.out⟩

set_option maxHeartbeats 4000000 in
set_option maxRecDepth 1000000 in
theorem pu8_64_one {w : World} (x : UInt8) (hl : (x :: []).length ≤ 4096) (hr : ∀ z ∈ (x :: []), digB 8 z) :
    Calls Tryz.prog 137 #[.string ⟨(48 :: x :: []).toArray⟩, .int .i64 0, .int .i64 64] w (PuEnds w (val 8 0 (x :: [])) 18446744073709551615) := by
  have hc := conv_bytes (x :: [])
  have hx := hr x (by simp)
  have hx2 : 48 ≤ x.toNat ∧ x.toNat ≤ 57 := by
    obtain ⟨h1, h2⟩ := hx
    unfold dv at h2
    rcases h1 with h1 | h1 | h1
    · exact h1
    · rw [if_neg (by omega), if_neg (by omega)] at h2; omega
    · rw [if_neg (by omega), if_pos (by omega)] at h2; omega
  have f1 : ∀ h, ((((⟨(48 :: x :: []).toArray⟩ : ByteArray)[0]'h).toNat : Int) == 48) = true := fun h => rfl
  have f2 : ∀ h, (bits BinOp.or IntKind.u8 (((⟨(48 :: x :: []).toArray⟩ : ByteArray)[1]'h).toNat : Int) 32 == 98) = false := fun h => by rw [str1, or32_oct x hx2]; exact beq_eq_false_iff_ne.2 (by omega)
  have f3 : ∀ h, (bits BinOp.or IntKind.u8 (((⟨(48 :: x :: []).toArray⟩ : ByteArray)[1]'h).toNat : Int) 32 == 111) = false := fun h => by rw [str1, or32_oct x hx2]; exact beq_eq_false_iff_ne.2 (by omega)
  have f4 : ∀ h, (bits BinOp.or IntKind.u8 (((⟨(48 :: x :: []).toArray⟩ : ByteArray)[1]'h).toNat : Int) 32 == 120) = false := fun h => by rw [str1, or32_oct x hx2]; exact beq_eq_false_iff_ne.2 (by omega)
  have f5 : (⟨(48 :: x :: []).toArray⟩ : ByteArray).extract 1 (2) = ⟨(x :: []).toArray⟩ := str_cut _ 1
  clear hx hx2
  have HR := Lib.hid hr
  have HW := Lib.hid (bytesWorld_isB w (x :: []) (by omega))
  have HG := Lib.hid (bytesWorld_gr w ⟨(x :: []).toArray⟩)
  have HL := Lib.hid hl
  clear hr
  go_enter Tryz.func137, Tryz.ntmps137
  go_wp2
  obtain ⟨N, hN⟩ : ∃ N, N = w.heap.size := ⟨_, rfl⟩
  obtain ⟨C, hC⟩ : ∃ C, C = grownCap w (x :: []).length 0 5 := ⟨_, rfl⟩
  obtain ⟨W, hWW⟩ : ∃ W, W = Lib.bytesWorld w 5 ⟨(x :: []).toArray⟩ := ⟨_, rfl⟩
  rw [← hWW] at HW HG ⊢
  rw [← hN, ← hC] at HW
  simp only [← hN]
  clear hc hWW hN hC f1 f2 f3 f4 f5
  obtain ⟨MX, hMX⟩ : ∃ m : Int, m = IntKind.u64.wrap (IntKind.u64.wrap 18446744073709551616 - 1) := ⟨_, rfl⟩
  obtain ⟨CT, hCT⟩ : ∃ m : Int, m = 2305843009213693952 := ⟨_, rfl⟩
  rw [← hMX, ← hCT]
  have hMX2 : MX = 18446744073709551615 := hMX.trans (by first | exact mx64 | rfl)
  have HCT := Lib.hid hCT
  have HMX := Lib.hid hMX2
  clear hMX hCT hMX2
  go_loop [12, 13, 101] (fun u n i => ∃ k : Nat, k ≤ 1 ∧ u = .bool false ∧ i = .int .i64 k ∧ n = .int .u64 (val 8 0 ((x :: []).take k) : Nat) ∧ Hid (((val 8 0 ((x :: []).take k) : Nat) : Int) ≤ MX)) (fun _ _ i => 1 - (intOf i).toNat)
  case atStart => exact ⟨0, Nat.zero_le _, rfl, rfl, rfl, by show (0 : Int) ≤ MX; have := HMX.out; omega⟩
  case round =>
    obtain ⟨k, hk, rfl, rfl, rfl, hle⟩ := hrel
    have hlen : 1 ≤ 4096 := by decide
    by_cases hlt : k < 1
    · have hlt2 : k < (x :: []).length := by simpa using hlt
      obtain ⟨b0, o0, e0, hcl⟩ := HW.out.get (by simp)
      have hcell := hcl k hlt2
      cases e0
      rw [Nat.zero_add] at hcell
      have hR0 := HR.out _ (List.getElem_mem hlt2)
      have hstep := val_take 8 (x :: []) k hlt2
      have htot := val_le 8 (by decide) (x :: []) (k + 1)
      clear hcl
      generalize hcc : (x :: [])[k] = c at hcell hR0 hstep
      clear hcc
      generalize hV : val 8 0 ((x :: []).take k) = V at hle hstep ⊢
      clear hV
      generalize hT : val 8 0 (x :: []) = T at htot ⊢
      clear hT
      generalize hS : val 8 0 ((x :: []).take (k + 1)) = S at hstep htot
      have HS := Lib.hid hS
      have HT := Lib.hid htot
      clear hS htot
      obtain ⟨hcl, hdb⟩ := hR0
      have hus : ((c.toNat : Int) == 95) = false := beq_eq_false_iff_ne.2 (by omega)
      unfold dv at hstep hdb
      have hcl : 48 ≤ c.toNat ∧ c.toNat ≤ 57 := by
        rcases hcl with hcl | hcl | hcl
        · exact hcl
        · rw [if_neg (by omega), if_neg (by omega)] at hdb; omega
        · rw [if_neg (by omega), if_pos (by omega)] at hdb; omega
      rw [if_pos (by omega)] at hstep hdb
      have hstep2 : (S : Int) = (V : Int) * 8 + ((c.toNat : Int) - 48) := by omega
      have HST := Lib.hid hstep2
      have hE1 : 0 ≤ (c.toNat : Int) - 48 := by omega
      have hE2 : (c.toNat : Int) - 48 < 8 := by omega
      clear hstep hstep2 hdb
      by_cases hcut : CT ≤ (V : Int)
      · have hfin : ¬ T ≤ 18446744073709551615 := by have := HT.out; have := HST.out; have := HCT.out; omega
        have HF := Lib.hid hfin
        clear hfin
        go_wp2
        go_ret2
        exact ⟨by (rw [if_neg HF.out, HMX.out]; try rfl), HG.out⟩
      · have hmul : IntKind.u64.wrap ((V : Int) * 8) = (V : Int) * 8 := u64_in _ (by omega) (by have := HCT.out; omega)
        by_cases hov : (V : Int) * 8 + ((c.toNat : Int) - 48) ≤ MX
        · have hadd : IntKind.u64.wrap ((V : Int) * 8 + ((c.toNat : Int) - 48)) = (V : Int) * 8 + ((c.toNat : Int) - 48) := u64_in _ (by omega) (by have := HMX.out; omega)
          have HAD := Lib.hid hadd
          have HOV := Lib.hid hov
          go_wp2
          first | refine ⟨⟨k + 1, by omega, rfl, by simp, ?_, ?_⟩, by simp [intOf]; omega⟩ | (refine ⟨⟨_, _, _, _, _, _, _, _, ?_, rfl, rfl, rfl, rfl, rfl, rfl, rfl, rfl⟩, by simp [intOf]; omega⟩; refine ⟨k + 1, by omega, rfl, by simp, ?_, ?_⟩)
          · rw [HS.out]; refine congrArg (Value.int .u64) ?_; have := HST.out; omega
          · have h1 := HST.out
            have h2 := HOV.out
            show ((val 8 0 _ : Nat) : Int) ≤ MX
            rw [HS.out]; omega
        · have hfin : ¬ T ≤ 18446744073709551615 := by have := HT.out; have := HST.out; have := HMX.out; omega
          have HF := Lib.hid hfin
          obtain ⟨N1, hN1⟩ : ∃ N1, N1 = IntKind.u64.wrap ((V : Int) * 8 + ((c.toNat : Int) - 48)) := ⟨_, rfl⟩
          have hbig : N1 < (V : Int) * 8 ∨ MX < N1 := by
            have hm := HMX.out
            have hct := HCT.out
            by_cases h2 : (V : Int) * 8 + ((c.toNat : Int) - 48) ≤ 18446744073709551615
            · rw [u64_in _ (by omega) h2] at hN1; omega
            · rw [u64_over _ (by omega) (by omega)] at hN1; omega
          have hN2 := hN1.symm
          clear hfin hN1
          by_cases t1 : N1 < (V : Int) * 8
          · go_wp2
            go_ret2
            exact ⟨by (rw [if_neg HF.out, HMX.out]; try rfl), HG.out⟩
          · have t2 : MX < N1 := by omega
            clear hbig
            go_wp2
            go_ret2
            exact ⟨by (rw [if_neg HF.out, HMX.out]; try rfl), HG.out⟩
    · have hke : k = 1 := by omega
      subst hke
      have htk : (x :: []).take 1 = (x :: []) := by simp
      rw [htk] at hle ⊢
      have hfin : val 8 0 (x :: []) ≤ 18446744073709551615 := by have h1 : ((val 8 0 (x :: []) : Nat) : Int) ≤ MX := hle; have := HMX.out; omega
      have HF := Lib.hid hfin
      clear hfin htk
      go_wp2
      go_ret2
      exact ⟨by (rw [if_pos HF.out]; try rfl), HG.out⟩

set_option maxHeartbeats 4000000 in
set_option maxRecDepth 1000000 in
theorem pu8_32 {w : World} (x y : UInt8) (r : List UInt8) (hl : (x :: y :: r).length ≤ 4096) (hr : ∀ z ∈ (x :: y :: r), digB 8 z) :
    Calls Tryz.prog 137 #[.string ⟨(48 :: x :: y :: r).toArray⟩, .int .i64 0, .int .i64 32] w (PuEnds w (val 8 0 (x :: y :: r)) 4294967295) := by
  have hc := conv_bytes (x :: y :: r)
  have hx := hr x (by simp)
  have hx2 : 48 ≤ x.toNat ∧ x.toNat ≤ 57 := by
    obtain ⟨h1, h2⟩ := hx
    unfold dv at h2
    rcases h1 with h1 | h1 | h1
    · exact h1
    · rw [if_neg (by omega), if_neg (by omega)] at h2; omega
    · rw [if_neg (by omega), if_pos (by omega)] at h2; omega
  have f1 : ∀ h, ((((⟨(48 :: x :: y :: r).toArray⟩ : ByteArray)[0]'h).toNat : Int) == 48) = true := fun h => rfl
  have f2 : ∀ h, (bits BinOp.or IntKind.u8 (((⟨(48 :: x :: y :: r).toArray⟩ : ByteArray)[1]'h).toNat : Int) 32 == 98) = false := fun h => by rw [str1, or32_oct x hx2]; exact beq_eq_false_iff_ne.2 (by omega)
  have f3 : ∀ h, (bits BinOp.or IntKind.u8 (((⟨(48 :: x :: y :: r).toArray⟩ : ByteArray)[1]'h).toNat : Int) 32 == 111) = false := fun h => by rw [str1, or32_oct x hx2]; exact beq_eq_false_iff_ne.2 (by omega)
  have f4 : ∀ h, (bits BinOp.or IntKind.u8 (((⟨(48 :: x :: y :: r).toArray⟩ : ByteArray)[1]'h).toNat : Int) 32 == 120) = false := fun h => by rw [str1, or32_oct x hx2]; exact beq_eq_false_iff_ne.2 (by omega)
  have f5 : (⟨(48 :: x :: y :: r).toArray⟩ : ByteArray).extract 1 (r.length + 1 + 1 + 1) = ⟨(x :: y :: r).toArray⟩ := str_cut _ 1
  clear hx hx2
  have HR := Lib.hid hr
  have HW := Lib.hid (bytesWorld_isB w (x :: y :: r) (by omega))
  have HG := Lib.hid (bytesWorld_gr w ⟨(x :: y :: r).toArray⟩)
  have HL := Lib.hid hl
  clear hr
  go_enter Tryz.func137, Tryz.ntmps137
  go_wp2
  obtain ⟨N, hN⟩ : ∃ N, N = w.heap.size := ⟨_, rfl⟩
  obtain ⟨C, hC⟩ : ∃ C, C = grownCap w (x :: y :: r).length 0 5 := ⟨_, rfl⟩
  obtain ⟨W, hWW⟩ : ∃ W, W = Lib.bytesWorld w 5 ⟨(x :: y :: r).toArray⟩ := ⟨_, rfl⟩
  rw [← hWW] at HW HG ⊢
  rw [← hN, ← hC] at HW
  simp only [← hN]
  clear hc hWW hN hC f1 f2 f3 f4 f5
  obtain ⟨MX, hMX⟩ : ∃ m : Int, m = 4294967295 := ⟨_, rfl⟩
  obtain ⟨CT, hCT⟩ : ∃ m : Int, m = 2305843009213693952 := ⟨_, rfl⟩
  rw [← hMX, ← hCT]
  have hMX2 : MX = 4294967295 := hMX.trans (by first | exact mx64 | rfl)
  have HCT := Lib.hid hCT
  have HMX := Lib.hid hMX2
  clear hMX hCT hMX2
  go_loop [12, 13, 101] (fun u n i => ∃ k : Nat, k ≤ (r.length + 1 + 1) ∧ u = .bool false ∧ i = .int .i64 k ∧ n = .int .u64 (val 8 0 ((x :: y :: r).take k) : Nat) ∧ Hid (((val 8 0 ((x :: y :: r).take k) : Nat) : Int) ≤ MX)) (fun _ _ i => (r.length + 1 + 1) - (intOf i).toNat)
  case atStart => exact ⟨0, Nat.zero_le _, rfl, rfl, rfl, by show (0 : Int) ≤ MX; have := HMX.out; omega⟩
  case round =>
    obtain ⟨k, hk, rfl, rfl, rfl, hle⟩ := hrel
    have hlen : (r.length + 1 + 1) ≤ 4096 := by have := HL.out; simpa using this
    by_cases hlt : k < (r.length + 1 + 1)
    · have hlt2 : k < (x :: y :: r).length := by simpa using hlt
      obtain ⟨b0, o0, e0, hcl⟩ := HW.out.get (by simp)
      have hcell := hcl k hlt2
      cases e0
      rw [Nat.zero_add] at hcell
      have hR0 := HR.out _ (List.getElem_mem hlt2)
      have hstep := val_take 8 (x :: y :: r) k hlt2
      have htot := val_le 8 (by decide) (x :: y :: r) (k + 1)
      clear hcl
      generalize hcc : (x :: y :: r)[k] = c at hcell hR0 hstep
      clear hcc
      generalize hV : val 8 0 ((x :: y :: r).take k) = V at hle hstep ⊢
      clear hV
      generalize hT : val 8 0 (x :: y :: r) = T at htot ⊢
      clear hT
      generalize hS : val 8 0 ((x :: y :: r).take (k + 1)) = S at hstep htot
      have HS := Lib.hid hS
      have HT := Lib.hid htot
      clear hS htot
      obtain ⟨hcl, hdb⟩ := hR0
      have hus : ((c.toNat : Int) == 95) = false := beq_eq_false_iff_ne.2 (by omega)
      unfold dv at hstep hdb
      have hcl : 48 ≤ c.toNat ∧ c.toNat ≤ 57 := by
        rcases hcl with hcl | hcl | hcl
        · exact hcl
        · rw [if_neg (by omega), if_neg (by omega)] at hdb; omega
        · rw [if_neg (by omega), if_pos (by omega)] at hdb; omega
      rw [if_pos (by omega)] at hstep hdb
      have hstep2 : (S : Int) = (V : Int) * 8 + ((c.toNat : Int) - 48) := by omega
      have HST := Lib.hid hstep2
      have hE1 : 0 ≤ (c.toNat : Int) - 48 := by omega
      have hE2 : (c.toNat : Int) - 48 < 8 := by omega
      clear hstep hstep2 hdb
      by_cases hcut : CT ≤ (V : Int)
      · have hfin : ¬ T ≤ 4294967295 := by have := HT.out; have := HST.out; have := HCT.out; omega
        have HF := Lib.hid hfin
        clear hfin
        go_wp2
        go_ret2
        exact ⟨by (rw [if_neg HF.out, HMX.out]; try rfl), HG.out⟩
      · have hmul : IntKind.u64.wrap ((V : Int) * 8) = (V : Int) * 8 := u64_in _ (by omega) (by have := HCT.out; omega)
        by_cases hov : (V : Int) * 8 + ((c.toNat : Int) - 48) ≤ MX
        · have hadd : IntKind.u64.wrap ((V : Int) * 8 + ((c.toNat : Int) - 48)) = (V : Int) * 8 + ((c.toNat : Int) - 48) := u64_in _ (by omega) (by have := HMX.out; omega)
          have HAD := Lib.hid hadd
          have HOV := Lib.hid hov
          go_wp2
          first | refine ⟨⟨k + 1, by omega, rfl, by simp, ?_, ?_⟩, by simp [intOf]; omega⟩ | (refine ⟨⟨_, _, _, _, _, _, _, _, ?_, rfl, rfl, rfl, rfl, rfl, rfl, rfl, rfl⟩, by simp [intOf]; omega⟩; refine ⟨k + 1, by omega, rfl, by simp, ?_, ?_⟩)
          · rw [HS.out]; refine congrArg (Value.int .u64) ?_; have := HST.out; omega
          · have h1 := HST.out
            have h2 := HOV.out
            show ((val 8 0 _ : Nat) : Int) ≤ MX
            rw [HS.out]; omega
        · have hfin : ¬ T ≤ 4294967295 := by have := HT.out; have := HST.out; have := HMX.out; omega
          have HF := Lib.hid hfin
          obtain ⟨N1, hN1⟩ : ∃ N1, N1 = IntKind.u64.wrap ((V : Int) * 8 + ((c.toNat : Int) - 48)) := ⟨_, rfl⟩
          have hbig : N1 < (V : Int) * 8 ∨ MX < N1 := by
            have hm := HMX.out
            have hct := HCT.out
            by_cases h2 : (V : Int) * 8 + ((c.toNat : Int) - 48) ≤ 18446744073709551615
            · rw [u64_in _ (by omega) h2] at hN1; omega
            · rw [u64_over _ (by omega) (by omega)] at hN1; omega
          have hN2 := hN1.symm
          clear hfin hN1
          by_cases t1 : N1 < (V : Int) * 8
          · go_wp2
            go_ret2
            exact ⟨by (rw [if_neg HF.out, HMX.out]; try rfl), HG.out⟩
          · have t2 : MX < N1 := by omega
            clear hbig
            go_wp2
            go_ret2
            exact ⟨by (rw [if_neg HF.out, HMX.out]; try rfl), HG.out⟩
    · have hke : k = (r.length + 1 + 1) := by omega
      subst hke
      have htk : (x :: y :: r).take (r.length + 1 + 1) = (x :: y :: r) := by simp
      rw [htk] at hle ⊢
      have hfin : val 8 0 (x :: y :: r) ≤ 4294967295 := by have h1 : ((val 8 0 (x :: y :: r) : Nat) : Int) ≤ MX := hle; have := HMX.out; omega
      have HF := Lib.hid hfin
      clear hfin htk
      go_wp2
      go_ret2
      exact ⟨by (rw [if_pos HF.out]; try rfl), HG.out⟩

set_option maxHeartbeats 4000000 in
set_option maxRecDepth 1000000 in
theorem pu8_32_one {w : World} (x : UInt8) (hl : (x :: []).length ≤ 4096) (hr : ∀ z ∈ (x :: []), digB 8 z) :
    Calls Tryz.prog 137 #[.string ⟨(48 :: x :: []).toArray⟩, .int .i64 0, .int .i64 32] w (PuEnds w (val 8 0 (x :: [])) 4294967295) := by
  have hc := conv_bytes (x :: [])
  have hx := hr x (by simp)
  have hx2 : 48 ≤ x.toNat ∧ x.toNat ≤ 57 := by
    obtain ⟨h1, h2⟩ := hx
    unfold dv at h2
    rcases h1 with h1 | h1 | h1
    · exact h1
    · rw [if_neg (by omega), if_neg (by omega)] at h2; omega
    · rw [if_neg (by omega), if_pos (by omega)] at h2; omega
  have f1 : ∀ h, ((((⟨(48 :: x :: []).toArray⟩ : ByteArray)[0]'h).toNat : Int) == 48) = true := fun h => rfl
  have f2 : ∀ h, (bits BinOp.or IntKind.u8 (((⟨(48 :: x :: []).toArray⟩ : ByteArray)[1]'h).toNat : Int) 32 == 98) = false := fun h => by rw [str1, or32_oct x hx2]; exact beq_eq_false_iff_ne.2 (by omega)
  have f3 : ∀ h, (bits BinOp.or IntKind.u8 (((⟨(48 :: x :: []).toArray⟩ : ByteArray)[1]'h).toNat : Int) 32 == 111) = false := fun h => by rw [str1, or32_oct x hx2]; exact beq_eq_false_iff_ne.2 (by omega)
  have f4 : ∀ h, (bits BinOp.or IntKind.u8 (((⟨(48 :: x :: []).toArray⟩ : ByteArray)[1]'h).toNat : Int) 32 == 120) = false := fun h => by rw [str1, or32_oct x hx2]; exact beq_eq_false_iff_ne.2 (by omega)
  have f5 : (⟨(48 :: x :: []).toArray⟩ : ByteArray).extract 1 (2) = ⟨(x :: []).toArray⟩ := str_cut _ 1
  clear hx hx2
  have HR := Lib.hid hr
  have HW := Lib.hid (bytesWorld_isB w (x :: []) (by omega))
  have HG := Lib.hid (bytesWorld_gr w ⟨(x :: []).toArray⟩)
  have HL := Lib.hid hl
  clear hr
  go_enter Tryz.func137, Tryz.ntmps137
  go_wp2
  obtain ⟨N, hN⟩ : ∃ N, N = w.heap.size := ⟨_, rfl⟩
  obtain ⟨C, hC⟩ : ∃ C, C = grownCap w (x :: []).length 0 5 := ⟨_, rfl⟩
  obtain ⟨W, hWW⟩ : ∃ W, W = Lib.bytesWorld w 5 ⟨(x :: []).toArray⟩ := ⟨_, rfl⟩
  rw [← hWW] at HW HG ⊢
  rw [← hN, ← hC] at HW
  simp only [← hN]
  clear hc hWW hN hC f1 f2 f3 f4 f5
  obtain ⟨MX, hMX⟩ : ∃ m : Int, m = 4294967295 := ⟨_, rfl⟩
  obtain ⟨CT, hCT⟩ : ∃ m : Int, m = 2305843009213693952 := ⟨_, rfl⟩
  rw [← hMX, ← hCT]
  have hMX2 : MX = 4294967295 := hMX.trans (by first | exact mx64 | rfl)
  have HCT := Lib.hid hCT
  have HMX := Lib.hid hMX2
  clear hMX hCT hMX2
  go_loop [12, 13, 101] (fun u n i => ∃ k : Nat, k ≤ 1 ∧ u = .bool false ∧ i = .int .i64 k ∧ n = .int .u64 (val 8 0 ((x :: []).take k) : Nat) ∧ Hid (((val 8 0 ((x :: []).take k) : Nat) : Int) ≤ MX)) (fun _ _ i => 1 - (intOf i).toNat)
  case atStart => exact ⟨0, Nat.zero_le _, rfl, rfl, rfl, by show (0 : Int) ≤ MX; have := HMX.out; omega⟩
  case round =>
    obtain ⟨k, hk, rfl, rfl, rfl, hle⟩ := hrel
    have hlen : 1 ≤ 4096 := by decide
    by_cases hlt : k < 1
    · have hlt2 : k < (x :: []).length := by simpa using hlt
      obtain ⟨b0, o0, e0, hcl⟩ := HW.out.get (by simp)
      have hcell := hcl k hlt2
      cases e0
      rw [Nat.zero_add] at hcell
      have hR0 := HR.out _ (List.getElem_mem hlt2)
      have hstep := val_take 8 (x :: []) k hlt2
      have htot := val_le 8 (by decide) (x :: []) (k + 1)
      clear hcl
      generalize hcc : (x :: [])[k] = c at hcell hR0 hstep
      clear hcc
      generalize hV : val 8 0 ((x :: []).take k) = V at hle hstep ⊢
      clear hV
      generalize hT : val 8 0 (x :: []) = T at htot ⊢
      clear hT
      generalize hS : val 8 0 ((x :: []).take (k + 1)) = S at hstep htot
      have HS := Lib.hid hS
      have HT := Lib.hid htot
      clear hS htot
      obtain ⟨hcl, hdb⟩ := hR0
      have hus : ((c.toNat : Int) == 95) = false := beq_eq_false_iff_ne.2 (by omega)
      unfold dv at hstep hdb
      have hcl : 48 ≤ c.toNat ∧ c.toNat ≤ 57 := by
        rcases hcl with hcl | hcl | hcl
        · exact hcl
        · rw [if_neg (by omega), if_neg (by omega)] at hdb; omega
        · rw [if_neg (by omega), if_pos (by omega)] at hdb; omega
      rw [if_pos (by omega)] at hstep hdb
      have hstep2 : (S : Int) = (V : Int) * 8 + ((c.toNat : Int) - 48) := by omega
      have HST := Lib.hid hstep2
      have hE1 : 0 ≤ (c.toNat : Int) - 48 := by omega
      have hE2 : (c.toNat : Int) - 48 < 8 := by omega
      clear hstep hstep2 hdb
      by_cases hcut : CT ≤ (V : Int)
      · have hfin : ¬ T ≤ 4294967295 := by have := HT.out; have := HST.out; have := HCT.out; omega
        have HF := Lib.hid hfin
        clear hfin
        go_wp2
        go_ret2
        exact ⟨by (rw [if_neg HF.out, HMX.out]; try rfl), HG.out⟩
      · have hmul : IntKind.u64.wrap ((V : Int) * 8) = (V : Int) * 8 := u64_in _ (by omega) (by have := HCT.out; omega)
        by_cases hov : (V : Int) * 8 + ((c.toNat : Int) - 48) ≤ MX
        · have hadd : IntKind.u64.wrap ((V : Int) * 8 + ((c.toNat : Int) - 48)) = (V : Int) * 8 + ((c.toNat : Int) - 48) := u64_in _ (by omega) (by have := HMX.out; omega)
          have HAD := Lib.hid hadd
          have HOV := Lib.hid hov
          go_wp2
          first | refine ⟨⟨k + 1, by omega, rfl, by simp, ?_, ?_⟩, by simp [intOf]; omega⟩ | (refine ⟨⟨_, _, _, _, _, _, _, _, ?_, rfl, rfl, rfl, rfl, rfl, rfl, rfl, rfl⟩, by simp [intOf]; omega⟩; refine ⟨k + 1, by omega, rfl, by simp, ?_, ?_⟩)
          · rw [HS.out]; refine congrArg (Value.int .u64) ?_; have := HST.out; omega
          · have h1 := HST.out
            have h2 := HOV.out
            show ((val 8 0 _ : Nat) : Int) ≤ MX
            rw [HS.out]; omega
        · have hfin : ¬ T ≤ 4294967295 := by have := HT.out; have := HST.out; have := HMX.out; omega
          have HF := Lib.hid hfin
          obtain ⟨N1, hN1⟩ : ∃ N1, N1 = IntKind.u64.wrap ((V : Int) * 8 + ((c.toNat : Int) - 48)) := ⟨_, rfl⟩
          have hbig : N1 < (V : Int) * 8 ∨ MX < N1 := by
            have hm := HMX.out
            have hct := HCT.out
            by_cases h2 : (V : Int) * 8 + ((c.toNat : Int) - 48) ≤ 18446744073709551615
            · rw [u64_in _ (by omega) h2] at hN1; omega
            · rw [u64_over _ (by omega) (by omega)] at hN1; omega
          have hN2 := hN1.symm
          clear hfin hN1
          by_cases t1 : N1 < (V : Int) * 8
          · go_wp2
            go_ret2
            exact ⟨by (rw [if_neg HF.out, HMX.out]; try rfl), HG.out⟩
          · have t2 : MX < N1 := by omega
            clear hbig
            go_wp2
            go_ret2
            exact ⟨by (rw [if_neg HF.out, HMX.out]; try rfl), HG.out⟩
    · have hke : k = 1 := by omega
      subst hke
      have htk : (x :: []).take 1 = (x :: []) := by simp
      rw [htk] at hle ⊢
      have hfin : val 8 0 (x :: []) ≤ 4294967295 := by have h1 : ((val 8 0 (x :: []) : Nat) : Int) ≤ MX := hle; have := HMX.out; omega
      have HF := Lib.hid hfin
      clear hfin htk
      go_wp2
      go_ret2
      exact ⟨by (rw [if_pos HF.out]; try rfl), HG.out⟩
end Go.Proofs.YtlfeolfjlmelpaaGreatDoor
