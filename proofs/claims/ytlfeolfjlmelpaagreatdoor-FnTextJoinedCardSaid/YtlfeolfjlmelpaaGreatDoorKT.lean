/- internal/strconv.readFloat at a leading zero. -/
import Derived.Test.YtlfeolfjlmelpaaGreatDoorKS
namespace Go.Proofs.YtlfeolfjlmelpaaGreatDoor
open Go.RowKit
set_option maxHeartbeats 8000000 in
set_option maxRecDepth 1000000 in
theorem readFloat_lead {w : World} (L : List UInt8) (hl : L.length ≤ 4096) (hx : ∀ h : 0 < L.length, 49 ≤ L[0].toNat) (hr : ∀ y ∈ L, isDig y) :
    Calls Tryz.prog 242 #[.string ⟨(48 :: L).toArray⟩] w fun e w' => e = .returned (.tuple #[.int .u64 (mant L : Nat), .int .i64 ((L.length : Int) - (min L.length 19 : Nat)), .bool false, .bool (trun L), .bool false, .int .i64 (L.length + 1 : Nat), .bool true]) ∧ w' = w := by
  have f1 : ∀ h, ((((⟨(48 :: L).toArray⟩ : ByteArray)[0]'h).toNat : Int) == 43) = false := fun h => rfl
  have f2 : ∀ h, ((((⟨(48 :: L).toArray⟩ : ByteArray)[0]'h).toNat : Int) == 45) = false := fun h => rfl
  have f3 : ∀ h, ((((⟨(48 :: L).toArray⟩ : ByteArray)[0]'h).toNat : Int) == 48) = true := fun h => rfl
  have f4 : ∀ h, (bits BinOp.or IntKind.u8 (((⟨(48 :: L).toArray⟩ : ByteArray)[1]'h).toNat : Int) 32 == 120) = false := fun h => by
    cases L with
    | nil => simp [ByteArray.size] at h
    | cons x r =>
      have h1 := hr x (by simp)
      rw [str1, or32_oct x h1]
      exact beq_eq_false_iff_ne.2 (by have := h1.2; omega)
  have f5 : ∀ h, (((⟨(48 :: L).toArray⟩ : ByteArray)[0]'h).toNat : Int) = 48 := fun h => rfl
  have F5 := Lib.hid f5
  have HR := Lib.hid hr
  have HX := Lib.hid hx
  have HL := Lib.hid hl
  clear hr hl
  go_enter Tryz.func242, Tryz.ntmps242
  go_wp2_with fail
  go_step3
  go_upto_region 12 with fail
  go_cut [54] from 36 to 54 (fun a w2 => a = .bool false ∧ w2 = w)
  case first =>
    go_wp2
    all_goals (go_meet; exact ⟨rfl, rfl⟩)
  case rest =>
    obtain ⟨rfl, rfl⟩ := hcut
    clear f1 f2 f3 f4 f5 hx
    go_wp2_with fail
    go_step3
    go_wp2_with fail
    go_loop [2, 5, 7, 9, 13, 14, 15, 16, 17] (fun m t i u sd sg nd nm dp => ∃ (z : Bool) (k : Nat), k ≤ L.length ∧ (z = false → k = 0) ∧ m = .int .u64 (mant (L.take k) : Nat) ∧ t = .bool (trun (L.take k)) ∧ i = .int .i64 (if z then (k : Int) + 1 else 0) ∧ u = .bool false ∧ sd = .bool false ∧ sg = .bool z ∧ nd = .int .i64 (k : Nat) ∧ nm = .int .i64 (min k 19 : Nat) ∧ dp = .int .i64 (if z then -1 else 0)) (fun _ _ i _ _ _ _ _ _ => L.length + 3 - (intOf i).toNat)
    case atStart => exact ⟨false, 0, Nat.zero_le _, fun _ => rfl, rfl, rfl, rfl, rfl, rfl, rfl, rfl, rfl, rfl⟩
    case round =>
      obtain ⟨z, k, hk, hz, rfl, rfl, rfl, rfl, rfl, rfl, rfl, rfl, rfl⟩ := hrel
      have hlen : L.length ≤ 4096 := HL.out
      cases z with
      | false =>
        obtain rfl : k = 0 := hz rfl
        have hm0 : mant (L.take 0) = 0 := rfl
        have ht0 : trun (L.take 0) = false := rfl
        have f5 := F5.out
        simp only [Bool.false_eq_true, if_false, hm0, ht0]
        clear hm0 ht0 hz hk
        go_wp2
        refine ⟨⟨true, 0, Nat.zero_le _, ?_, ?_, ?_, ?_, rfl, rfl, ?_, ?_, ?_, ?_⟩, ?_⟩
        all_goals first | rfl | (intro h; cases h) | (simp [intOf]; done) | (simp [intOf]; omega)
      | true =>
        simp only [if_true]
        clear hz
        by_cases hlt : k < L.length
        · have hlt2 : k < L.length := hlt
          have hcell : ∀ h, (((⟨(48 :: L).toArray⟩ : ByteArray)[k + 1]'h).toNat : Int) = ((L[k]'hlt2).toNat : Int) := fun h => rfl
          have hR := HR.out _ (List.getElem_mem hlt2)
          have hx0 : k = 0 → 49 ≤ (L[k]'hlt2).toNat := by rintro rfl; exact HX.out hlt
          have hst := mant_step L k hlt2 hR
          have htr := trun_step L k hlt2
          have hbd := mant_lt (L.take (k + 1)) (fun y hy => HR.out y (List.mem_of_mem_take hy))
          unfold isDig at hR
          generalize hcc : L[k] = c at hcell hR hx0 hst htr
          clear hcc
          generalize hV : mant (L.take k) = V at hst ⊢
          clear hV
          generalize hS : mant (L.take (k + 1)) = S at hst hbd
          generalize hT : trun (L.take k) = T at htr ⊢
          clear hT
          generalize hTN : trun (L.take (k + 1)) = T2 at htr
          have HC := Lib.hid hcell
          have HST := Lib.hid hst
          have HTR := Lib.hid htr
          have HBD := Lib.hid hbd
          have HS := Lib.hid hS
          have HTN := Lib.hid hTN
          obtain ⟨hR1, hR2⟩ := hR
          have hus : ((c.toNat : Int) == 95) = false := beq_eq_false_iff_ne.2 (by omega)
          have hdt : ((c.toNat : Int) == 46) = false := beq_eq_false_iff_ne.2 (by omega)
          clear hst htr hbd hcell hS hTN
          by_cases hc0 : c.toNat = 48
          · have hkp : 0 < k := by
              rcases Nat.eq_zero_or_pos k with h | h
              · have := hx0 h; omega
              · exact h
            have hk2 : ((k : Int) == 0) = false := beq_eq_false_iff_ne.2 (by omega)
            have hc1 : ((c.toNat : Int) == 48) = true := beq_iff_eq.2 (by omega)
            have hc2 : ((c.toNat : Int) != 48) = false := by rw [bne, hc1]; rfl
            clear hx0
            by_cases hk19 : k < 19
            · have hmin : min k 19 = k := by omega
              have hst := HST.out.1 hk19
              have hb := HBD.out
              have hw1 : IntKind.u64.wrap ((V : Int) * 10) = (V : Int) * 10 := u64_in _ (by omega) (by omega)
              have hw2 : IntKind.u64.wrap ((V : Int) * 10 + ((c.toNat : Int) - 48)) = (V : Int) * 10 + ((c.toNat : Int) - 48) := u64_in _ (by omega) (by omega)
              have HW2 := Lib.hid hw2
              have hE : 0 ≤ (c.toNat : Int) - 48 := by omega
              rw [hmin]
              have HS2 := Lib.hid hst
              have HK := Lib.hid hk19
              have hT2 : T2 = T := HTR.out.1 hk19
              have HT2 := Lib.hid hT2
              have hcell := HC.out
              clear hst hb hmin hT2
              go_wp2
              first
                | (refine ⟨⟨true, k + 1, by omega, by simp, ?_, ?_, ?_, rfl, rfl, by simp, ?_, ?_, by simp⟩, by simp [intOf]; omega⟩)
                | (refine ⟨⟨_, _, _, _, _, _, _, _, _, _, ?_, rfl, rfl, rfl, rfl, rfl, rfl, rfl, rfl, rfl, rfl⟩, by simp [intOf]; omega⟩; refine ⟨true, k + 1, by omega, by simp, ?_, ?_, ?_, rfl, rfl, by simp, ?_, ?_, by simp⟩)
              · rw [HS.out]; refine congrArg (Value.int .u64) ?_; have := HS2.out; omega
              · rw [HTN.out, HT2.out]
              · rw [if_pos rfl]; refine congrArg (Value.int .i64) ?_; omega
              · refine congrArg (Value.int .i64) ?_; omega
              · rw [Nat.min_eq_left (by have := HK.out; omega : k + 1 ≤ 19)]; refine congrArg (Value.int .i64) ?_; omega
            · have hmin : min k 19 = 19 := by omega
              have hst := HST.out.2 (by omega)
              rw [hmin]
              have HS2 := Lib.hid hst
              have HK := Lib.hid hk19
              have hT2 : T2 = T := by rw [HTR.out.2 (by omega)]; simp [hc0]
              have HT2 := Lib.hid hT2
              have hcell := HC.out
              clear hst hmin hT2
              go_wp2
              first
                | (refine ⟨⟨true, k + 1, by omega, by simp, ?_, ?_, ?_, rfl, rfl, by simp, ?_, ?_, by simp⟩, by simp [intOf]; omega⟩)
                | (refine ⟨⟨_, _, _, _, _, _, _, _, _, _, ?_, rfl, rfl, rfl, rfl, rfl, rfl, rfl, rfl, rfl, rfl⟩, by simp [intOf]; omega⟩; refine ⟨true, k + 1, by omega, by simp, ?_, ?_, ?_, rfl, rfl, by simp, ?_, ?_, by simp⟩)
              · rw [HS.out]; refine congrArg (Value.int .u64) ?_; have := HS2.out; omega
              · rw [HTN.out, HT2.out]
              · rw [if_pos rfl]; refine congrArg (Value.int .i64) ?_; omega
              · refine congrArg (Value.int .i64) ?_; omega
              · rw [Nat.min_eq_right (by have := HK.out; omega : 19 ≤ k + 1)]; try rfl
          · have hc1 : ((c.toNat : Int) == 48) = false := beq_eq_false_iff_ne.2 (by omega)
            have hc2 : ((c.toNat : Int) != 48) = true := by rw [bne, hc1]; rfl
            clear hx0
            by_cases hk19 : k < 19
            · have hmin : min k 19 = k := by omega
              have hst := HST.out.1 hk19
              have hb := HBD.out
              have hw1 : IntKind.u64.wrap ((V : Int) * 10) = (V : Int) * 10 := u64_in _ (by omega) (by omega)
              have hw2 : IntKind.u64.wrap ((V : Int) * 10 + ((c.toNat : Int) - 48)) = (V : Int) * 10 + ((c.toNat : Int) - 48) := u64_in _ (by omega) (by omega)
              have HW2 := Lib.hid hw2
              have hE : 0 ≤ (c.toNat : Int) - 48 := by omega
              rw [hmin]
              have HS2 := Lib.hid hst
              have HK := Lib.hid hk19
              have hT2 : T2 = T := HTR.out.1 hk19
              have HT2 := Lib.hid hT2
              have hcell := HC.out
              clear hst hb hmin hT2
              go_wp2
              first
                | (refine ⟨⟨true, k + 1, by omega, by simp, ?_, ?_, ?_, rfl, rfl, by simp, ?_, ?_, by simp⟩, by simp [intOf]; omega⟩)
                | (refine ⟨⟨_, _, _, _, _, _, _, _, _, _, ?_, rfl, rfl, rfl, rfl, rfl, rfl, rfl, rfl, rfl, rfl⟩, by simp [intOf]; omega⟩; refine ⟨true, k + 1, by omega, by simp, ?_, ?_, ?_, rfl, rfl, by simp, ?_, ?_, by simp⟩)
              · rw [HS.out]; refine congrArg (Value.int .u64) ?_; have := HS2.out; omega
              · rw [HTN.out, HT2.out]
              · rw [if_pos rfl]; refine congrArg (Value.int .i64) ?_; omega
              · refine congrArg (Value.int .i64) ?_; omega
              · rw [Nat.min_eq_left (by have := HK.out; omega : k + 1 ≤ 19)]; refine congrArg (Value.int .i64) ?_; omega
            · have hmin : min k 19 = 19 := by omega
              have hst := HST.out.2 (by omega)
              rw [hmin]
              have HS2 := Lib.hid hst
              have HK := Lib.hid hk19
              have hT2 : T2 = true := by rw [HTR.out.2 (by omega)]; simp [hc0]
              have HT2 := Lib.hid hT2
              have hcell := HC.out
              clear hst hmin hT2
              go_wp2
              first
                | (refine ⟨⟨true, k + 1, by omega, by simp, ?_, ?_, ?_, rfl, rfl, by simp, ?_, ?_, by simp⟩, by simp [intOf]; omega⟩)
                | (refine ⟨⟨_, _, _, _, _, _, _, _, _, _, ?_, rfl, rfl, rfl, rfl, rfl, rfl, rfl, rfl, rfl, rfl⟩, by simp [intOf]; omega⟩; refine ⟨true, k + 1, by omega, by simp, ?_, ?_, ?_, rfl, rfl, by simp, ?_, ?_, by simp⟩)
              · rw [HS.out]; refine congrArg (Value.int .u64) ?_; have := HS2.out; omega
              · rw [HTN.out, HT2.out]
              · rw [if_pos rfl]; refine congrArg (Value.int .i64) ?_; omega
              · refine congrArg (Value.int .i64) ?_; omega
              · rw [Nat.min_eq_right (by have := HK.out; omega : 19 ≤ k + 1)]; try rfl
        · have hke : k = L.length := by omega
          subst hke
          have htk : L.take L.length = L := by simp
          rw [htk]
          generalize hM : mant L = V
          generalize hT : trun L = T
          have HM := Lib.hid hM
          have HT := Lib.hid hT
          have hmz : V = 0 → L.length = 0 := by
            intro h0
            cases hL : L with
            | nil => rfl
            | cons x r =>
              have h1 := HX.out (by rw [hL]; simp)
              have h2 := HR.out x (by rw [hL]; simp)
              have h3 : 1 ≤ mant (x :: r) := mant_pos x r ⟨by simpa [hL] using h1, h2.2⟩
              rw [← hL, hM] at h3
              omega
          have HMZ := Lib.hid hmz
          clear hT hmz
          have hnm : min L.length 19 ≤ L.length := Nat.min_le_left _ _
          generalize hNM : min L.length 19 = NM at hnm ⊢
          have HNM := Lib.hid hNM
          clear htk hM hNM hlt
          by_cases hv : V = 0
          · have hv0 : ((V : Int) != 0) = false := by
              have : ((V : Int) == 0) = true := beq_iff_eq.2 (by omega)
              rw [bne, this]; rfl
            have HV := Lib.hid hv
            clear hv
            go_wp2
            refine bodyPost_ret (v := .tuple #[.int .u64 (V : Nat), .int .i64 0, .bool false, .bool T, .bool false, .int .i64 ((L.length : Int) + 1), .bool true]) (by simp [results, Tryz.results242, go_sem]) rfl ?_
            refine ⟨?_, rfl⟩
            have h1 := HMZ.out HV.out
            rw [HM.out, HT.out]
            simp [h1]
          · have hv0 : ((V : Int) != 0) = true := by
              have : ((V : Int) == 0) = false := beq_eq_false_iff_ne.2 (by omega)
              rw [bne, this]; rfl
            clear hv
            go_wp2
            refine bodyPost_ret (v := .tuple #[.int .u64 (V : Nat), .int .i64 ((L.length : Int) - NM), .bool false, .bool T, .bool false, .int .i64 ((L.length : Int) + 1), .bool true]) (by simp [results, Tryz.results242, go_sem]) rfl ?_
            refine ⟨?_, rfl⟩
            rw [HM.out, HT.out]
            simp [HNM.out]
end Go.Proofs.YtlfeolfjlmelpaaGreatDoor
