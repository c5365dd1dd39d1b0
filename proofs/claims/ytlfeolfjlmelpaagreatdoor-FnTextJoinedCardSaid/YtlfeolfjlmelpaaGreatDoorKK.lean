/- internal/strconv.ParseUint at digits, base 0. -/
import Derived.Test.YtlfeolfjlmelpaaGreatDoorKJ
namespace Go.Proofs.YtlfeolfjlmelpaaGreatDoor
open Go.RowKit
theorem or32_low (c : UInt8) (h : 97 ≤ c.toNat ∧ c.toNat ≤ 102) : bits BinOp.or IntKind.u8 (c.toNat : Int) 32 = (c.toNat : Int) := by
  have h1 : c.toNat = 97 ∨ c.toNat = 98 ∨ c.toNat = 99 ∨ c.toNat = 100 ∨ c.toNat = 101 ∨ c.toNat = 102 := by omega
  rcases h1 with h | h | h | h | h | h <;> (rw [h]; rfl)
theorem or32_up (c : UInt8) (h : 65 ≤ c.toNat ∧ c.toNat ≤ 70) : bits BinOp.or IntKind.u8 (c.toNat : Int) 32 = (c.toNat : Int) + 32 := by
  have h1 : c.toNat = 65 ∨ c.toNat = 66 ∨ c.toNat = 67 ∨ c.toNat = 68 ∨ c.toNat = 69 ∨ c.toNat = 70 := by omega
  rcases h1 with h | h | h | h | h | h <;> (rw [h]; rfl)
theorem or32_oct (c : UInt8) (h : 48 ≤ c.toNat ∧ c.toNat ≤ 57) : bits BinOp.or IntKind.u8 (c.toNat : Int) 32 = (c.toNat : Int) := by
  have h1 : c.toNat = 48 ∨ c.toNat = 49 ∨ c.toNat = 50 ∨ c.toNat = 51 ∨ c.toNat = 52 ∨ c.toNat = 53 ∨ c.toNat = 54 ∨ c.toNat = 55 ∨ c.toNat = 56 ∨ c.toNat = 57 := by omega
  rcases h1 with h | h | h | h | h | h | h | h | h | h <;> (rw [h]; rfl)
theorem str_cut (l : List UInt8) (i : Nat) : (⟨l.toArray⟩ : ByteArray).extract i l.length = ⟨(l.drop i).toArray⟩ := by
  apply ByteArray.ext
  simp
  exact List.take_of_length_le (by simp)
theorem str1 (y x : UInt8) (r : List UInt8) (h : 1 < (⟨(y :: x :: r).toArray⟩ : ByteArray).size) : ((⟨(y :: x :: r).toArray⟩ : ByteArray)[1]'h) = x := rfl

set_option maxHeartbeats 4000000 in
set_option maxRecDepth 1000000 in
theorem pu10_64 {w : World} (x : UInt8) (r : List UInt8) (hl : (x :: r).length ≤ 4096) (hx : 49 ≤ x.toNat ∧ x.toNat ≤ 57) (hr : ∀ y ∈ (x :: r), digB 10 y) :
    Calls Tryz.prog 137 #[.string ⟨(x :: r).toArray⟩, .int .i64 0, .int .i64 64] w (PuEnds w (val 10 0 (x :: r)) 18446744073709551615) := by
  have hc := conv_bytes (x :: r)
  have f1 : ∀ h, ((((⟨(x :: r).toArray⟩ : ByteArray)[0]'h).toNat : Int) == 48) = false := fun h => by rw [str0]; exact beq_eq_false_iff_ne.2 (by omega)
  have HR := Lib.hid hr
  have HW := Lib.hid (bytesWorld_isB w (x :: r) (by omega))
  have HG := Lib.hid (bytesWorld_gr w ⟨(x :: r).toArray⟩)
  have HL := Lib.hid hl
  clear hr
  go_enter Tryz.func137, Tryz.ntmps137
  go_wp2
  obtain ⟨N, hN⟩ : ∃ N, N = w.heap.size := ⟨_, rfl⟩
  obtain ⟨C, hC⟩ : ∃ C, C = grownCap w (x :: r).length 0 5 := ⟨_, rfl⟩
  obtain ⟨W, hWW⟩ : ∃ W, W = Lib.bytesWorld w 5 ⟨(x :: r).toArray⟩ := ⟨_, rfl⟩
  rw [← hWW] at HW HG ⊢
  rw [← hN, ← hC] at HW
  simp only [← hN]
  clear hc hWW hN hC
  obtain ⟨MX, hMX⟩ : ∃ m : Int, m = IntKind.u64.wrap (IntKind.u64.wrap 18446744073709551616 - 1) := ⟨_, rfl⟩
  obtain ⟨CT, hCT⟩ : ∃ m : Int, m = 1844674407370955162 := ⟨_, rfl⟩
  rw [← hMX, ← hCT]
  have hMX2 : MX = 18446744073709551615 := hMX.trans (by first | exact mx64 | rfl)
  have HCT := Lib.hid hCT
  have HMX := Lib.hid hMX2
  clear hMX hCT hMX2
  go_loop [12, 13, 101] (fun u n i => ∃ k : Nat, k ≤ (r.length + 1) ∧ u = .bool false ∧ i = .int .i64 k ∧ n = .int .u64 (val 10 0 ((x :: r).take k) : Nat) ∧ Hid (((val 10 0 ((x :: r).take k) : Nat) : Int) ≤ MX)) (fun _ _ i => (r.length + 1) - (intOf i).toNat)
  case atStart => exact ⟨0, Nat.zero_le _, rfl, rfl, rfl, by show (0 : Int) ≤ MX; have := HMX.out; omega⟩
  case round =>
    obtain ⟨k, hk, rfl, rfl, rfl, hle⟩ := hrel
    have hlen : (r.length + 1) ≤ 4096 := by have := HL.out; simpa using this
    by_cases hlt : k < (r.length + 1)
    · have hlt2 : k < (x :: r).length := by simpa using hlt
      obtain ⟨b0, o0, e0, hcl⟩ := HW.out.get (by simp)
      have hcell := hcl k hlt2
      cases e0
      rw [Nat.zero_add] at hcell
      have hR0 := HR.out _ (List.getElem_mem hlt2)
      have hstep := val_take 10 (x :: r) k hlt2
      have htot := val_le 10 (by decide) (x :: r) (k + 1)
      clear hcl
      generalize hcc : (x :: r)[k] = c at hcell hR0 hstep
      clear hcc
      generalize hV : val 10 0 ((x :: r).take k) = V at hle hstep ⊢
      clear hV
      generalize hT : val 10 0 (x :: r) = T at htot ⊢
      clear hT
      generalize hS : val 10 0 ((x :: r).take (k + 1)) = S at hstep htot
      have HS := Lib.hid hS
      have HT := Lib.hid htot
      clear hS htot
      obtain ⟨hcl, hdb⟩ := hR0
      have hus : ((c.toNat : Int) == 95) = false := beq_eq_false_iff_ne.2 (by omega)
      unfold dv at hstep hdb
      have hcl : 48 ≤ c.toNat ∧ c.toNat ≤ 57 := by
        rcases hcl with hcl | hcl | hcl
        · exact hcl
        · rw [if_neg (by omega), if_neg (by omega)] at hdb; omega
        · rw [if_neg (by omega), if_pos (by omega)] at hdb; omega
      rw [if_pos (by omega)] at hstep hdb
      have hstep2 : (S : Int) = (V : Int) * 10 + ((c.toNat : Int) - 48) := by omega
      have HST := Lib.hid hstep2
      have hE1 : 0 ≤ (c.toNat : Int) - 48 := by omega
      have hE2 : (c.toNat : Int) - 48 < 10 := by omega
      clear hstep hstep2 hdb
      by_cases hcut : CT ≤ (V : Int)
      · have hfin : ¬ T ≤ 18446744073709551615 := by have := HT.out; have := HST.out; have := HCT.out; omega
        have HF := Lib.hid hfin
        clear hfin
        go_wp2
        go_ret2
        exact ⟨by (rw [if_neg HF.out, HMX.out]; try rfl), HG.out⟩
      · have hmul : IntKind.u64.wrap ((V : Int) * 10) = (V : Int) * 10 := u64_in _ (by omega) (by have := HCT.out; omega)
        by_cases hov : (V : Int) * 10 + ((c.toNat : Int) - 48) ≤ MX
        · have hadd : IntKind.u64.wrap ((V : Int) * 10 + ((c.toNat : Int) - 48)) = (V : Int) * 10 + ((c.toNat : Int) - 48) := u64_in _ (by omega) (by have := HMX.out; omega)
          have HAD := Lib.hid hadd
          have HOV := Lib.hid hov
          go_wp2
          refine ⟨⟨k + 1, by omega, rfl, by simp, ?_, ?_⟩, by simp [intOf]; omega⟩
          · rw [HS.out]; refine congrArg (Value.int .u64) ?_; have := HST.out; omega
          · have h1 := HST.out
            have h2 := HOV.out
            show ((val 10 0 _ : Nat) : Int) ≤ MX
            rw [HS.out]; omega
        · have hfin : ¬ T ≤ 18446744073709551615 := by have := HT.out; have := HST.out; have := HMX.out; omega
          have HF := Lib.hid hfin
          obtain ⟨N1, hN1⟩ : ∃ N1, N1 = IntKind.u64.wrap ((V : Int) * 10 + ((c.toNat : Int) - 48)) := ⟨_, rfl⟩
          have hbig : N1 < (V : Int) * 10 ∨ MX < N1 := by
            have hm := HMX.out
            have hct := HCT.out
            by_cases h2 : (V : Int) * 10 + ((c.toNat : Int) - 48) ≤ 18446744073709551615
            · rw [u64_in _ (by omega) h2] at hN1; omega
            · rw [u64_over _ (by omega) (by omega)] at hN1; omega
          have hN2 := hN1.symm
          clear hfin hN1
          by_cases t1 : N1 < (V : Int) * 10
          · go_wp2
            go_ret2
            exact ⟨by (rw [if_neg HF.out, HMX.out]; try rfl), HG.out⟩
          · have t2 : MX < N1 := by omega
            clear hbig
            go_wp2
            go_ret2
            exact ⟨by (rw [if_neg HF.out, HMX.out]; try rfl), HG.out⟩
    · have hke : k = (r.length + 1) := by omega
      subst hke
      have htk : (x :: r).take (r.length + 1) = x :: r := by simp
      rw [htk] at hle ⊢
      have hfin : val 10 0 (x :: r) ≤ 18446744073709551615 := by have h1 : ((val 10 0 (x :: r) : Nat) : Int) ≤ MX := hle; have := HMX.out; omega
      have HF := Lib.hid hfin
      clear hfin htk
      go_wp2
      go_ret2
      exact ⟨by (rw [if_pos HF.out]; try rfl), HG.out⟩

set_option maxHeartbeats 4000000 in
set_option maxRecDepth 1000000 in
theorem pu10_32 {w : World} (x : UInt8) (r : List UInt8) (hl : (x :: r).length ≤ 4096) (hx : 49 ≤ x.toNat ∧ x.toNat ≤ 57) (hr : ∀ y ∈ (x :: r), digB 10 y) :
    Calls Tryz.prog 137 #[.string ⟨(x :: r).toArray⟩, .int .i64 0, .int .i64 32] w (PuEnds w (val 10 0 (x :: r)) 4294967295) := by
  have hc := conv_bytes (x :: r)
  have f1 : ∀ h, ((((⟨(x :: r).toArray⟩ : ByteArray)[0]'h).toNat : Int) == 48) = false := fun h => by rw [str0]; exact beq_eq_false_iff_ne.2 (by omega)
  have HR := Lib.hid hr
  have HW := Lib.hid (bytesWorld_isB w (x :: r) (by omega))
  have HG := Lib.hid (bytesWorld_gr w ⟨(x :: r).toArray⟩)
  have HL := Lib.hid hl
  clear hr
  go_enter Tryz.func137, Tryz.ntmps137
  go_wp2
  obtain ⟨N, hN⟩ : ∃ N, N = w.heap.size := ⟨_, rfl⟩
  obtain ⟨C, hC⟩ : ∃ C, C = grownCap w (x :: r).length 0 5 := ⟨_, rfl⟩
  obtain ⟨W, hWW⟩ : ∃ W, W = Lib.bytesWorld w 5 ⟨(x :: r).toArray⟩ := ⟨_, rfl⟩
  rw [← hWW] at HW HG ⊢
  rw [← hN, ← hC] at HW
  simp only [← hN]
  clear hc hWW hN hC
  obtain ⟨MX, hMX⟩ : ∃ m : Int, m = 4294967295 := ⟨_, rfl⟩
  obtain ⟨CT, hCT⟩ : ∃ m : Int, m = 1844674407370955162 := ⟨_, rfl⟩
  rw [← hMX, ← hCT]
  have hMX2 : MX = 4294967295 := hMX.trans (by first | exact mx64 | rfl)
  have HCT := Lib.hid hCT
  have HMX := Lib.hid hMX2
  clear hMX hCT hMX2
  go_loop [12, 13, 101] (fun u n i => ∃ k : Nat, k ≤ (r.length + 1) ∧ u = .bool false ∧ i = .int .i64 k ∧ n = .int .u64 (val 10 0 ((x :: r).take k) : Nat) ∧ Hid (((val 10 0 ((x :: r).take k) : Nat) : Int) ≤ MX)) (fun _ _ i => (r.length + 1) - (intOf i).toNat)
  case atStart => exact ⟨0, Nat.zero_le _, rfl, rfl, rfl, by show (0 : Int) ≤ MX; have := HMX.out; omega⟩
  case round =>
    obtain ⟨k, hk, rfl, rfl, rfl, hle⟩ := hrel
    have hlen : (r.length + 1) ≤ 4096 := by have := HL.out; simpa using this
    by_cases hlt : k < (r.length + 1)
    · have hlt2 : k < (x :: r).length := by simpa using hlt
      obtain ⟨b0, o0, e0, hcl⟩ := HW.out.get (by simp)
      have hcell := hcl k hlt2
      cases e0
      rw [Nat.zero_add] at hcell
      have hR0 := HR.out _ (List.getElem_mem hlt2)
      have hstep := val_take 10 (x :: r) k hlt2
      have htot := val_le 10 (by decide) (x :: r) (k + 1)
      clear hcl
      generalize hcc : (x :: r)[k] = c at hcell hR0 hstep
      clear hcc
      generalize hV : val 10 0 ((x :: r).take k) = V at hle hstep ⊢
      clear hV
      generalize hT : val 10 0 (x :: r) = T at htot ⊢
      clear hT
      generalize hS : val 10 0 ((x :: r).take (k + 1)) = S at hstep htot
      have HS := Lib.hid hS
      have HT := Lib.hid htot
      clear hS htot
      obtain ⟨hcl, hdb⟩ := hR0
      have hus : ((c.toNat : Int) == 95) = false := beq_eq_false_iff_ne.2 (by omega)
      unfold dv at hstep hdb
      have hcl : 48 ≤ c.toNat ∧ c.toNat ≤ 57 := by
        rcases hcl with hcl | hcl | hcl
        · exact hcl
        · rw [if_neg (by omega), if_neg (by omega)] at hdb; omega
        · rw [if_neg (by omega), if_pos (by omega)] at hdb; omega
      rw [if_pos (by omega)] at hstep hdb
      have hstep2 : (S : Int) = (V : Int) * 10 + ((c.toNat : Int) - 48) := by omega
      have HST := Lib.hid hstep2
      have hE1 : 0 ≤ (c.toNat : Int) - 48 := by omega
      have hE2 : (c.toNat : Int) - 48 < 10 := by omega
      clear hstep hstep2 hdb
      by_cases hcut : CT ≤ (V : Int)
      · have hfin : ¬ T ≤ 4294967295 := by have := HT.out; have := HST.out; have := HCT.out; omega
        have HF := Lib.hid hfin
        clear hfin
        go_wp2
        go_ret2
        exact ⟨by (rw [if_neg HF.out, HMX.out]; try rfl), HG.out⟩
      · have hmul : IntKind.u64.wrap ((V : Int) * 10) = (V : Int) * 10 := u64_in _ (by omega) (by have := HCT.out; omega)
        by_cases hov : (V : Int) * 10 + ((c.toNat : Int) - 48) ≤ MX
        · have hadd : IntKind.u64.wrap ((V : Int) * 10 + ((c.toNat : Int) - 48)) = (V : Int) * 10 + ((c.toNat : Int) - 48) := u64_in _ (by omega) (by have := HMX.out; omega)
          have HAD := Lib.hid hadd
          have HOV := Lib.hid hov
          go_wp2
          refine ⟨⟨k + 1, by omega, rfl, by simp, ?_, ?_⟩, by simp [intOf]; omega⟩
          · rw [HS.out]; refine congrArg (Value.int .u64) ?_; have := HST.out; omega
          · have h1 := HST.out
            have h2 := HOV.out
            show ((val 10 0 _ : Nat) : Int) ≤ MX
            rw [HS.out]; omega
        · have hfin : ¬ T ≤ 4294967295 := by have := HT.out; have := HST.out; have := HMX.out; omega
          have HF := Lib.hid hfin
          obtain ⟨N1, hN1⟩ : ∃ N1, N1 = IntKind.u64.wrap ((V : Int) * 10 + ((c.toNat : Int) - 48)) := ⟨_, rfl⟩
          have hbig : N1 < (V : Int) * 10 ∨ MX < N1 := by
            have hm := HMX.out
            have hct := HCT.out
            by_cases h2 : (V : Int) * 10 + ((c.toNat : Int) - 48) ≤ 18446744073709551615
            · rw [u64_in _ (by omega) h2] at hN1; omega
            · rw [u64_over _ (by omega) (by omega)] at hN1; omega
          have hN2 := hN1.symm
          clear hfin hN1
          by_cases t1 : N1 < (V : Int) * 10
          · go_wp2
            go_ret2
            exact ⟨by (rw [if_neg HF.out, HMX.out]; try rfl), HG.out⟩
          · have t2 : MX < N1 := by omega
            clear hbig
            go_wp2
            go_ret2
            exact ⟨by (rw [if_neg HF.out, HMX.out]; try rfl), HG.out⟩
    · have hke : k = (r.length + 1) := by omega
      subst hke
      have htk : (x :: r).take (r.length + 1) = x :: r := by simp
      rw [htk] at hle ⊢
      have hfin : val 10 0 (x :: r) ≤ 4294967295 := by have h1 : ((val 10 0 (x :: r) : Nat) : Int) ≤ MX := hle; have := HMX.out; omega
      have HF := Lib.hid hfin
      clear hfin htk
      go_wp2
      go_ret2
      exact ⟨by (rw [if_pos HF.out]; try rfl), HG.out⟩
end Go.Proofs.YtlfeolfjlmelpaaGreatDoor
