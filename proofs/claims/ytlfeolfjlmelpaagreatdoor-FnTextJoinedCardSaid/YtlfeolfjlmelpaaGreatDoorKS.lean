/- internal/strconv.readFloat at digits. -/
import Derived.Test.YtlfeolfjlmelpaaGreatDoorKR
import Derived.Deep.CutRange
import Derived.WalkMore
namespace Go.Proofs.YtlfeolfjlmelpaaGreatDoor
open Go.RowKit

set_option maxHeartbeats 8000000 in
set_option maxRecDepth 1000000 in
theorem readFloat_pos {w : World} (x : UInt8) (r : List UInt8) (hl : (x :: r).length ≤ 4096) (hx : 49 ≤ x.toNat ∧ x.toNat ≤ 57) (hr : ∀ y ∈ (x :: r), isDig y) :
    Calls Tryz.prog 242 #[.string ⟨(x :: r).toArray⟩] w fun e w' => e = .returned (.tuple #[.int .u64 (mant (x :: r) : Nat), .int .i64 (((x :: r).length : Int) - (min (x :: r).length 19 : Nat)), .bool false, .bool (trun (x :: r)), .bool false, .int .i64 ((x :: r).length : Nat), .bool true]) ∧ w' = w := by
  have f1 : ∀ h, ((((⟨(x :: r).toArray⟩ : ByteArray)[0]'h).toNat : Int) == 43) = false := fun h => by rw [str0]; exact beq_eq_false_iff_ne.2 (by omega)
  have f2 : ∀ h, ((((⟨(x :: r).toArray⟩ : ByteArray)[0]'h).toNat : Int) == 45) = false := fun h => by rw [str0]; exact beq_eq_false_iff_ne.2 (by omega)
  have f3 : ∀ h, ((((⟨(x :: r).toArray⟩ : ByteArray)[0]'h).toNat : Int) == 48) = false := fun h => by rw [str0]; exact beq_eq_false_iff_ne.2 (by omega)
  have HR := Lib.hid hr
  have HX := Lib.hid hx
  have HL := Lib.hid hl
  clear hr hl
  go_enter Tryz.func242, Tryz.ntmps242
  go_wp2_with fail
  go_step3
  go_upto_region 12 with fail
  go_cut [54] from 36 to 54 (fun a w2 => a = .bool false ∧ w2 = w)
  case first =>
    go_wp2
    all_goals (go_meet; exact ⟨rfl, rfl⟩)
  case rest =>
    obtain ⟨rfl, rfl⟩ := hcut
    clear f1 f2 f3 hx
    go_wp2_with fail
    go_step3
    go_wp2_with fail
    go_loop [2, 5, 7, 9, 13, 14, 15, 16, 17] (fun m t i u sd sg nd nm dp => ∃ k : Nat, k ≤ r.length + 1 ∧ m = .int .u64 (mant ((x :: r).take k) : Nat) ∧ t = .bool (trun ((x :: r).take k)) ∧ i = .int .i64 (k : Nat) ∧ u = .bool false ∧ sd = .bool false ∧ sg = .bool (decide (0 < k)) ∧ nd = .int .i64 (k : Nat) ∧ nm = .int .i64 (min k 19 : Nat) ∧ dp = .int .i64 0) (fun _ _ i _ _ _ _ _ _ => r.length + 3 - (intOf i).toNat)
    case atStart => exact ⟨0, Nat.zero_le _, rfl, rfl, rfl, rfl, rfl, rfl, rfl, rfl, rfl⟩
    case round =>
      obtain ⟨k, hk, rfl, rfl, rfl, rfl, rfl, rfl, rfl, rfl, rfl⟩ := hrel
      have hlen : r.length + 1 ≤ 4096 := by have := HL.out; simpa using this
      by_cases hlt : k < r.length + 1
      · have hlt2 : k < (x :: r).length := by simpa using hlt
        have hcell : ∀ h, (((⟨(x :: r).toArray⟩ : ByteArray)[k]'h).toNat : Int) = (((x :: r)[k]'hlt2).toNat : Int) := fun h => rfl
        have hR := HR.out _ (List.getElem_mem hlt2)
        have hx0 : k = 0 → 49 ≤ ((x :: r)[k]'hlt2).toNat := by rintro rfl; exact HX.out.1
        have hst := mant_step (x :: r) k hlt2 hR
        have htr := trun_step (x :: r) k hlt2
        have hbd := mant_lt ((x :: r).take (k + 1)) (fun y hy => HR.out y (List.mem_of_mem_take hy))
        unfold isDig at hR
        generalize hcc : (x :: r)[k] = c at hcell hR hx0 hst htr
        clear hcc
        generalize hV : mant ((x :: r).take k) = V at hst ⊢
        clear hV
        generalize hS : mant ((x :: r).take (k + 1)) = S at hst hbd
        generalize hT : trun ((x :: r).take k) = T at htr ⊢
        clear hT
        generalize hTN : trun ((x :: r).take (k + 1)) = T2 at htr
        have HC := Lib.hid hcell
        have HST := Lib.hid hst
        have HTR := Lib.hid htr
        have HBD := Lib.hid hbd
        have HS := Lib.hid hS
        have HTN := Lib.hid hTN
        obtain ⟨hR1, hR2⟩ := hR
        have hus : ((c.toNat : Int) == 95) = false := beq_eq_false_iff_ne.2 (by omega)
        have hdt : ((c.toNat : Int) == 46) = false := beq_eq_false_iff_ne.2 (by omega)
        clear hst htr hbd hcell hS hTN
        by_cases hc0 : c.toNat = 48
        · have hkp : 0 < k := by
            rcases Nat.eq_zero_or_pos k with h | h
            · have := hx0 h; omega
            · exact h
          have hk2 : ((k : Int) == 0) = false := beq_eq_false_iff_ne.2 (by omega)
          have hc1 : ((c.toNat : Int) == 48) = true := beq_iff_eq.2 (by omega)
          have hc2 : ((c.toNat : Int) != 48) = false := by rw [bne, hc1]; rfl
          clear hx0
          by_cases hk19 : k < 19
          · have hmin : min k 19 = k := by omega
            have hst := HST.out.1 hk19
            have hb := HBD.out
            have hw1 : IntKind.u64.wrap ((V : Int) * 10) = (V : Int) * 10 := u64_in _ (by omega) (by omega)
            have hw2 : IntKind.u64.wrap ((V : Int) * 10 + ((c.toNat : Int) - 48)) = (V : Int) * 10 + ((c.toNat : Int) - 48) := u64_in _ (by omega) (by omega)
            have HW2 := Lib.hid hw2
            have hE : 0 ≤ (c.toNat : Int) - 48 := by omega
            rw [hmin]
            have HS2 := Lib.hid hst
            have HK := Lib.hid hk19
            have hT2 : T2 = T := HTR.out.1 hk19
            have HT2 := Lib.hid hT2
            have hcell := HC.out
            clear hst hb hmin hT2
            go_wp2
            first
              | (refine ⟨⟨k + 1, by omega, ?_, ?_, ?_, rfl, rfl, ?_, ?_, ?_, rfl⟩, by simp [intOf]; omega⟩)
              | (refine ⟨⟨_, _, _, _, _, _, _, _, _, _, ?_, rfl, rfl, rfl, rfl, rfl, rfl, rfl, rfl, rfl, rfl⟩, by simp [intOf]; omega⟩; refine ⟨k + 1, by omega, ?_, ?_, ?_, rfl, rfl, ?_, ?_, ?_, rfl⟩)
            · rw [HS.out]; refine congrArg (Value.int .u64) ?_; have := HS2.out; omega
            · rw [HTN.out, HT2.out]
            · refine congrArg (Value.int .i64) ?_; omega
            · rw [decide_eq_true (by omega : 0 < k + 1)]
            · refine congrArg (Value.int .i64) ?_; omega
            · rw [Nat.min_eq_left (by have := HK.out; omega : k + 1 ≤ 19)]; refine congrArg (Value.int .i64) ?_; omega
          · have hmin : min k 19 = 19 := by omega
            have hst := HST.out.2 (by omega)
            rw [hmin]
            have HS2 := Lib.hid hst
            have HK := Lib.hid hk19
            have hT2 : T2 = T := by rw [HTR.out.2 (by omega)]; simp [hc0]
            have HT2 := Lib.hid hT2
            have hcell := HC.out
            clear hst hmin hT2
            go_wp2
            first
              | (refine ⟨⟨k + 1, by omega, ?_, ?_, ?_, rfl, rfl, ?_, ?_, ?_, rfl⟩, by simp [intOf]; omega⟩)
              | (refine ⟨⟨_, _, _, _, _, _, _, _, _, _, ?_, rfl, rfl, rfl, rfl, rfl, rfl, rfl, rfl, rfl, rfl⟩, by simp [intOf]; omega⟩; refine ⟨k + 1, by omega, ?_, ?_, ?_, rfl, rfl, ?_, ?_, ?_, rfl⟩)
            · rw [HS.out]; refine congrArg (Value.int .u64) ?_; have := HS2.out; omega
            · rw [HTN.out, HT2.out]
            · refine congrArg (Value.int .i64) ?_; omega
            · rw [decide_eq_true (by omega : 0 < k + 1)]
            · refine congrArg (Value.int .i64) ?_; omega
            · rw [Nat.min_eq_right (by have := HK.out; omega : 19 ≤ k + 1)]; try rfl
        · have hc1 : ((c.toNat : Int) == 48) = false := beq_eq_false_iff_ne.2 (by omega)
          have hc2 : ((c.toNat : Int) != 48) = true := by rw [bne, hc1]; rfl
          clear hx0
          by_cases hk19 : k < 19
          · have hmin : min k 19 = k := by omega
            have hst := HST.out.1 hk19
            have hb := HBD.out
            have hw1 : IntKind.u64.wrap ((V : Int) * 10) = (V : Int) * 10 := u64_in _ (by omega) (by omega)
            have hw2 : IntKind.u64.wrap ((V : Int) * 10 + ((c.toNat : Int) - 48)) = (V : Int) * 10 + ((c.toNat : Int) - 48) := u64_in _ (by omega) (by omega)
            have HW2 := Lib.hid hw2
            have hE : 0 ≤ (c.toNat : Int) - 48 := by omega
            rw [hmin]
            have HS2 := Lib.hid hst
            have HK := Lib.hid hk19
            have hT2 : T2 = T := HTR.out.1 hk19
            have HT2 := Lib.hid hT2
            have hcell := HC.out
            clear hst hb hmin hT2
            go_wp2
            first
              | (refine ⟨⟨k + 1, by omega, ?_, ?_, ?_, rfl, rfl, ?_, ?_, ?_, rfl⟩, by simp [intOf]; omega⟩)
              | (refine ⟨⟨_, _, _, _, _, _, _, _, _, _, ?_, rfl, rfl, rfl, rfl, rfl, rfl, rfl, rfl, rfl, rfl⟩, by simp [intOf]; omega⟩; refine ⟨k + 1, by omega, ?_, ?_, ?_, rfl, rfl, ?_, ?_, ?_, rfl⟩)
            · rw [HS.out]; refine congrArg (Value.int .u64) ?_; have := HS2.out; omega
            · rw [HTN.out, HT2.out]
            · refine congrArg (Value.int .i64) ?_; omega
            · rw [decide_eq_true (by omega : 0 < k + 1)]
            · refine congrArg (Value.int .i64) ?_; omega
            · rw [Nat.min_eq_left (by have := HK.out; omega : k + 1 ≤ 19)]; refine congrArg (Value.int .i64) ?_; omega
          · have hmin : min k 19 = 19 := by omega
            have hst := HST.out.2 (by omega)
            rw [hmin]
            have HS2 := Lib.hid hst
            have HK := Lib.hid hk19
            have hT2 : T2 = true := by rw [HTR.out.2 (by omega)]; simp [hc0]
            have HT2 := Lib.hid hT2
            have hcell := HC.out
            clear hst hmin hT2
            go_wp2
            first
              | (refine ⟨⟨k + 1, by omega, ?_, ?_, ?_, rfl, rfl, ?_, ?_, ?_, rfl⟩, by simp [intOf]; omega⟩)
              | (refine ⟨⟨_, _, _, _, _, _, _, _, _, _, ?_, rfl, rfl, rfl, rfl, rfl, rfl, rfl, rfl, rfl, rfl⟩, by simp [intOf]; omega⟩; refine ⟨k + 1, by omega, ?_, ?_, ?_, rfl, rfl, ?_, ?_, ?_, rfl⟩)
            · rw [HS.out]; refine congrArg (Value.int .u64) ?_; have := HS2.out; omega
            · rw [HTN.out, HT2.out]
            · refine congrArg (Value.int .i64) ?_; omega
            · rw [decide_eq_true (by omega : 0 < k + 1)]
            · refine congrArg (Value.int .i64) ?_; omega
            · rw [Nat.min_eq_right (by have := HK.out; omega : 19 ≤ k + 1)]; try rfl
      · have hke : k = r.length + 1 := by omega
        subst hke
        have htk : (x :: r).take (r.length + 1) = x :: r := by simp
        have hm1 := mant_pos x r HX.out
        rw [htk]
        generalize hM : mant (x :: r) = V at hm1 ⊢
        generalize hT : trun (x :: r) = T
        have HM := Lib.hid hM
        have HT := Lib.hid hT
        clear hT
        have hk1 : decide (0 < r.length + 1) = true := decide_eq_true (by omega)
        have hv0 : ((V : Int) != 0) = true := by
          have : ((V : Int) == 0) = false := beq_eq_false_iff_ne.2 (by omega)
          rw [bne, this]; rfl
        have hnm : min (r.length + 1) 19 ≤ r.length + 1 := Nat.min_le_left _ _
        rw [hk1]
        generalize hNM : min (r.length + 1) 19 = NM at hnm ⊢
        have HNM := Lib.hid hNM
        clear htk hM hk1 hNM hlt hm1
        go_wp2
        refine bodyPost_ret (v := .tuple #[.int .u64 (V : Nat), .int .i64 ((r.length : Int) + 1 - NM), .bool false, .bool T, .bool false, .int .i64 ((r.length : Int) + 1), .bool true]) (by simp [results, Tryz.results242, go_sem]) rfl ?_
        refine ⟨?_, rfl⟩
        rw [HM.out, HT.out]
        simp [HNM.out]

set_option maxHeartbeats 8000000 in
set_option maxRecDepth 1000000 in
theorem readFloat_neg {w : World} (x : UInt8) (r : List UInt8) (hl : (x :: r).length ≤ 4096) (hx : 49 ≤ x.toNat ∧ x.toNat ≤ 57) (hr : ∀ y ∈ (x :: r), isDig y) :
    Calls Tryz.prog 242 #[.string ⟨(45 :: x :: r).toArray⟩] w fun e w' => e = .returned (.tuple #[.int .u64 (mant (x :: r) : Nat), .int .i64 (((x :: r).length : Int) - (min (x :: r).length 19 : Nat)), .bool true, .bool (trun (x :: r)), .bool false, .int .i64 ((x :: r).length + 1 : Nat), .bool true]) ∧ w' = w := by
  have f1 : ∀ h, ((((⟨(45 :: x :: r).toArray⟩ : ByteArray)[0]'h).toNat : Int) == 43) = false := fun h => rfl
  have f2 : ∀ h, ((((⟨(45 :: x :: r).toArray⟩ : ByteArray)[0]'h).toNat : Int) == 45) = true := fun h => rfl
  have f3 : ∀ h, ((((⟨(45 :: x :: r).toArray⟩ : ByteArray)[1]'h).toNat : Int) == 48) = false := fun h => by rw [str1]; exact beq_eq_false_iff_ne.2 (by omega)
  have HR := Lib.hid hr
  have HX := Lib.hid hx
  have HL := Lib.hid hl
  clear hr hl
  go_enter Tryz.func242, Tryz.ntmps242
  go_wp2_with fail
  go_step3
  go_upto_region 12 with fail
  go_cut [54] from 36 to 54 (fun a w2 => a = .bool false ∧ w2 = w)
  case first =>
    go_wp2
    all_goals (go_meet; exact ⟨rfl, rfl⟩)
  case rest =>
    obtain ⟨rfl, rfl⟩ := hcut
    clear f1 f2 f3 hx
    go_wp2_with fail
    go_step3
    go_wp2_with fail
    go_loop [2, 5, 7, 9, 13, 14, 15, 16, 17] (fun m t i u sd sg nd nm dp => ∃ k : Nat, k ≤ r.length + 1 ∧ m = .int .u64 (mant ((x :: r).take k) : Nat) ∧ t = .bool (trun ((x :: r).take k)) ∧ i = .int .i64 (k + 1 : Nat) ∧ u = .bool false ∧ sd = .bool false ∧ sg = .bool (decide (0 < k)) ∧ nd = .int .i64 (k : Nat) ∧ nm = .int .i64 (min k 19 : Nat) ∧ dp = .int .i64 0) (fun _ _ i _ _ _ _ _ _ => r.length + 3 - (intOf i).toNat)
    case atStart => exact ⟨0, Nat.zero_le _, rfl, rfl, rfl, rfl, rfl, rfl, rfl, rfl, rfl⟩
    case round =>
      obtain ⟨k, hk, rfl, rfl, rfl, rfl, rfl, rfl, rfl, rfl, rfl⟩ := hrel
      have hlen : r.length + 1 ≤ 4096 := by have := HL.out; simpa using this
      by_cases hlt : k < r.length + 1
      · have hlt2 : k < (x :: r).length := by simpa using hlt
        have hcell : ∀ h, (((⟨(45 :: x :: r).toArray⟩ : ByteArray)[k + 1]'h).toNat : Int) = (((x :: r)[k]'hlt2).toNat : Int) := fun h => rfl
        have hR := HR.out _ (List.getElem_mem hlt2)
        have hx0 : k = 0 → 49 ≤ ((x :: r)[k]'hlt2).toNat := by rintro rfl; exact HX.out.1
        have hst := mant_step (x :: r) k hlt2 hR
        have htr := trun_step (x :: r) k hlt2
        have hbd := mant_lt ((x :: r).take (k + 1)) (fun y hy => HR.out y (List.mem_of_mem_take hy))
        unfold isDig at hR
        generalize hcc : (x :: r)[k] = c at hcell hR hx0 hst htr
        clear hcc
        generalize hV : mant ((x :: r).take k) = V at hst ⊢
        clear hV
        generalize hS : mant ((x :: r).take (k + 1)) = S at hst hbd
        generalize hT : trun ((x :: r).take k) = T at htr ⊢
        clear hT
        generalize hTN : trun ((x :: r).take (k + 1)) = T2 at htr
        have HC := Lib.hid hcell
        have HST := Lib.hid hst
        have HTR := Lib.hid htr
        have HBD := Lib.hid hbd
        have HS := Lib.hid hS
        have HTN := Lib.hid hTN
        obtain ⟨hR1, hR2⟩ := hR
        have hus : ((c.toNat : Int) == 95) = false := beq_eq_false_iff_ne.2 (by omega)
        have hdt : ((c.toNat : Int) == 46) = false := beq_eq_false_iff_ne.2 (by omega)
        clear hst htr hbd hcell hS hTN
        by_cases hc0 : c.toNat = 48
        · have hkp : 0 < k := by
            rcases Nat.eq_zero_or_pos k with h | h
            · have := hx0 h; omega
            · exact h
          have hk2 : ((k : Int) == 0) = false := beq_eq_false_iff_ne.2 (by omega)
          have hc1 : ((c.toNat : Int) == 48) = true := beq_iff_eq.2 (by omega)
          have hc2 : ((c.toNat : Int) != 48) = false := by rw [bne, hc1]; rfl
          clear hx0
          by_cases hk19 : k < 19
          · have hmin : min k 19 = k := by omega
            have hst := HST.out.1 hk19
            have hb := HBD.out
            have hw1 : IntKind.u64.wrap ((V : Int) * 10) = (V : Int) * 10 := u64_in _ (by omega) (by omega)
            have hw2 : IntKind.u64.wrap ((V : Int) * 10 + ((c.toNat : Int) - 48)) = (V : Int) * 10 + ((c.toNat : Int) - 48) := u64_in _ (by omega) (by omega)
            have HW2 := Lib.hid hw2
            have hE : 0 ≤ (c.toNat : Int) - 48 := by omega
            rw [hmin]
            have HS2 := Lib.hid hst
            have HK := Lib.hid hk19
            have hT2 : T2 = T := HTR.out.1 hk19
            have HT2 := Lib.hid hT2
            have hcell := HC.out
            clear hst hb hmin hT2
            go_wp2
            first
              | (refine ⟨⟨k + 1, by omega, ?_, ?_, ?_, rfl, rfl, ?_, ?_, ?_, rfl⟩, by simp [intOf]; omega⟩)
              | (refine ⟨⟨_, _, _, _, _, _, _, _, _, _, ?_, rfl, rfl, rfl, rfl, rfl, rfl, rfl, rfl, rfl, rfl⟩, by simp [intOf]; omega⟩; refine ⟨k + 1, by omega, ?_, ?_, ?_, rfl, rfl, ?_, ?_, ?_, rfl⟩)
            · rw [HS.out]; refine congrArg (Value.int .u64) ?_; have := HS2.out; omega
            · rw [HTN.out, HT2.out]
            · refine congrArg (Value.int .i64) ?_; omega
            · rw [decide_eq_true (by omega : 0 < k + 1)]
            · refine congrArg (Value.int .i64) ?_; omega
            · rw [Nat.min_eq_left (by have := HK.out; omega : k + 1 ≤ 19)]; refine congrArg (Value.int .i64) ?_; omega
          · have hmin : min k 19 = 19 := by omega
            have hst := HST.out.2 (by omega)
            rw [hmin]
            have HS2 := Lib.hid hst
            have HK := Lib.hid hk19
            have hT2 : T2 = T := by rw [HTR.out.2 (by omega)]; simp [hc0]
            have HT2 := Lib.hid hT2
            have hcell := HC.out
            clear hst hmin hT2
            go_wp2
            first
              | (refine ⟨⟨k + 1, by omega, ?_, ?_, ?_, rfl, rfl, ?_, ?_, ?_, rfl⟩, by simp [intOf]; omega⟩)
              | (refine ⟨⟨_, _, _, _, _, _, _, _, _, _, ?_, rfl, rfl, rfl, rfl, rfl, rfl, rfl, rfl, rfl, rfl⟩, by simp [intOf]; omega⟩; refine ⟨k + 1, by omega, ?_, ?_, ?_, rfl, rfl, ?_, ?_, ?_, rfl⟩)
            · rw [HS.out]; refine congrArg (Value.int .u64) ?_; have := HS2.out; omega
            · rw [HTN.out, HT2.out]
            · refine congrArg (Value.int .i64) ?_; omega
            · rw [decide_eq_true (by omega : 0 < k + 1)]
            · refine congrArg (Value.int .i64) ?_; omega
            · rw [Nat.min_eq_right (by have := HK.out; omega : 19 ≤ k + 1)]; try rfl
        · have hc1 : ((c.toNat : Int) == 48) = false := beq_eq_false_iff_ne.2 (by omega)
          have hc2 : ((c.toNat : Int) != 48) = true := by rw [bne, hc1]; rfl
          clear hx0
          by_cases hk19 : k < 19
          · have hmin : min k 19 = k := by omega
            have hst := HST.out.1 hk19
            have hb := HBD.out
            have hw1 : IntKind.u64.wrap ((V : Int) * 10) = (V : Int) * 10 := u64_in _ (by omega) (by omega)
            have hw2 : IntKind.u64.wrap ((V : Int) * 10 + ((c.toNat : Int) - 48)) = (V : Int) * 10 + ((c.toNat : Int) - 48) := u64_in _ (by omega) (by omega)
            have HW2 := Lib.hid hw2
            have hE : 0 ≤ (c.toNat : Int) - 48 := by omega
            rw [hmin]
            have HS2 := Lib.hid hst
            have HK := Lib.hid hk19
            have hT2 : T2 = T := HTR.out.1 hk19
            have HT2 := Lib.hid hT2
            have hcell := HC.out
            clear hst hb hmin hT2
            go_wp2
            first
              | (refine ⟨⟨k + 1, by omega, ?_, ?_, ?_, rfl, rfl, ?_, ?_, ?_, rfl⟩, by simp [intOf]; omega⟩)
              | (refine ⟨⟨_, _, _, _, _, _, _, _, _, _, ?_, rfl, rfl, rfl, rfl, rfl, rfl, rfl, rfl, rfl, rfl⟩, by simp [intOf]; omega⟩; refine ⟨k + 1, by omega, ?_, ?_, ?_, rfl, rfl, ?_, ?_, ?_, rfl⟩)
            · rw [HS.out]; refine congrArg (Value.int .u64) ?_; have := HS2.out; omega
            · rw [HTN.out, HT2.out]
            · refine congrArg (Value.int .i64) ?_; omega
            · rw [decide_eq_true (by omega : 0 < k + 1)]
            · refine congrArg (Value.int .i64) ?_; omega
            · rw [Nat.min_eq_left (by have := HK.out; omega : k + 1 ≤ 19)]; refine congrArg (Value.int .i64) ?_; omega
          · have hmin : min k 19 = 19 := by omega
            have hst := HST.out.2 (by omega)
            rw [hmin]
            have HS2 := Lib.hid hst
            have HK := Lib.hid hk19
            have hT2 : T2 = true := by rw [HTR.out.2 (by omega)]; simp [hc0]
            have HT2 := Lib.hid hT2
            have hcell := HC.out
            clear hst hmin hT2
            go_wp2
            first
              | (refine ⟨⟨k + 1, by omega, ?_, ?_, ?_, rfl, rfl, ?_, ?_, ?_, rfl⟩, by simp [intOf]; omega⟩)
              | (refine ⟨⟨_, _, _, _, _, _, _, _, _, _, ?_, rfl, rfl, rfl, rfl, rfl, rfl, rfl, rfl, rfl, rfl⟩, by simp [intOf]; omega⟩; refine ⟨k + 1, by omega, ?_, ?_, ?_, rfl, rfl, ?_, ?_, ?_, rfl⟩)
            · rw [HS.out]; refine congrArg (Value.int .u64) ?_; have := HS2.out; omega
            · rw [HTN.out, HT2.out]
            · refine congrArg (Value.int .i64) ?_; omega
            · rw [decide_eq_true (by omega : 0 < k + 1)]
            · refine congrArg (Value.int .i64) ?_; omega
            · rw [Nat.min_eq_right (by have := HK.out; omega : 19 ≤ k + 1)]; try rfl
      · have hke : k = r.length + 1 := by omega
        subst hke
        have htk : (x :: r).take (r.length + 1) = x :: r := by simp
        have hm1 := mant_pos x r HX.out
        rw [htk]
        generalize hM : mant (x :: r) = V at hm1 ⊢
        generalize hT : trun (x :: r) = T
        have HM := Lib.hid hM
        have HT := Lib.hid hT
        clear hT
        have hk1 : decide (0 < r.length + 1) = true := decide_eq_true (by omega)
        have hv0 : ((V : Int) != 0) = true := by
          have : ((V : Int) == 0) = false := beq_eq_false_iff_ne.2 (by omega)
          rw [bne, this]; rfl
        have hnm : min (r.length + 1) 19 ≤ r.length + 1 := Nat.min_le_left _ _
        rw [hk1]
        generalize hNM : min (r.length + 1) 19 = NM at hnm ⊢
        have HNM := Lib.hid hNM
        clear htk hM hk1 hNM hlt hm1
        go_wp2
        refine bodyPost_ret (v := .tuple #[.int .u64 (V : Nat), .int .i64 ((r.length : Int) + 1 - NM), .bool true, .bool T, .bool false, .int .i64 ((r.length : Int) + 1 + 1), .bool true]) (by simp [results, Tryz.results242, go_sem]) rfl ?_
        refine ⟨?_, rfl⟩
        rw [HM.out, HT.out]
        simp [HNM.out]
end Go.Proofs.YtlfeolfjlmelpaaGreatDoor
