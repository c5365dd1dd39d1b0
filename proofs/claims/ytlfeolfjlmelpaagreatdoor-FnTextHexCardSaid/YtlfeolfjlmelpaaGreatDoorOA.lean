/- The digits of a number to a base, and TextScalar at a number of base 16 or 8. -/
import Derived.Test.YtlfeolfjlmelpaaGreatDoorNR
import Derived.Test.YtlfeolfjlmelpaaGreatDoorKL
import Derived.Test.YtlfeolfjlmelpaaGreatDoorKM
namespace Go.Proofs.YtlfeolfjlmelpaaGreatDoor
open Go.RowKit

/-- A digit's letter. -/
def chD (up : Bool) (d : Nat) : UInt8 := UInt8.ofNat (if d < 10 then 48 + d else if up then 55 + d else 87 + d)
theorem chD_toNat (up : Bool) {d : Nat} (h : d < 16) : (chD up d).toNat = if d < 10 then 48 + d else if up then 55 + d else 87 + d := by
  unfold chD
  rw [UInt8.toNat_ofNat', Nat.mod_eq_of_lt]
  split
  · omega
  · split <;> omega
theorem dv_chD (up : Bool) {d : Nat} (h : d < 16) : dv (chD up d) = d := by
  unfold dv
  rw [chD_toNat up h]
  by_cases h1 : d < 10
  · rw [if_pos h1, if_pos (by omega)]; omega
  · rw [if_neg h1]
    cases up
    · simp only [Bool.false_eq_true, if_false]
      rw [if_neg (by omega), if_neg (by omega)]; omega
    · simp only [if_true]
      rw [if_neg (by omega), if_pos (by omega)]; omega
theorem digB_chD (up : Bool) {d b : Nat} (h : d < 16) (hb : d < b) : digB b (chD up d) := by
  refine ⟨?_, by rw [dv_chD up h]; exact hb⟩
  rw [chD_toNat up h]
  by_cases h1 : d < 10
  · rw [if_pos h1]; omega
  · rw [if_neg h1]
    cases up
    · simp only [Bool.false_eq_true, if_false]; omega
    · simp only [if_true]; omega
/-- The digits of a number to a base; of nothing none. -/
def digsL (b : Nat) (up : Bool) (n : Nat) : List UInt8 := if _h : n = 0 ∨ b < 2 then [] else digsL b up (n / b) ++ [chD up (n % b)]
termination_by n
decreasing_by exact Nat.div_lt_self (by omega) (by omega)
theorem digsL_zero (b : Nat) (up : Bool) : digsL b up 0 = [] := by rw [digsL, dif_pos (.inl rfl)]
theorem digsL_step {b : Nat} (up : Bool) {n : Nat} (hb : 2 ≤ b) (h : n ≠ 0) : digsL b up n = digsL b up (n / b) ++ [chD up (n % b)] := by
  conv => lhs; rw [digsL, dif_neg (by omega)]
theorem digsL_len {b : Nat} (up : Bool) (hb : 2 ≤ b) : ∀ (k n : Nat), n < b ^ k → (digsL b up n).length ≤ k
  | 0, n, h => by
    have : n = 0 := by simp at h; exact h
    subst this
    rw [digsL_zero]; simp
  | k + 1, n, h => by
    by_cases h0 : n = 0
    · subst h0; rw [digsL_zero]; simp
    · rw [digsL_step up hb h0, List.length_append]
      have := digsL_len up hb k (n / b) (Nat.div_lt_of_lt_mul (by rw [Nat.pow_succ, Nat.mul_comm] at h; exact h))
      simp only [List.length_cons, List.length_nil]; omega
theorem val_digsL {b : Nat} (up : Bool) (hb : 2 ≤ b) (hb2 : b ≤ 16) (n : Nat) : val b 0 (digsL b up n) = n := by
  induction n using Nat.strongRecOn with
  | ind n ih =>
    by_cases h0 : n = 0
    · subst h0; rw [digsL_zero]; rfl
    · have hlt : n % b < b := Nat.mod_lt _ (by omega)
      rw [digsL_step up hb h0, val_append, ih (n / b) (Nat.div_lt_self (by omega) (by omega)), val, val, dv_chD up (by omega)]
      exact Nat.div_add_mod' n b
theorem digsL_dig {b : Nat} (up : Bool) (hb : 2 ≤ b) (hb2 : b ≤ 16) (n : Nat) : ∀ y ∈ digsL b up n, digB b y := by
  induction n using Nat.strongRecOn with
  | ind n ih =>
    by_cases h0 : n = 0
    · subst h0; rw [digsL_zero]; intro y hy; cases hy
    · have hlt : n % b < b := Nat.mod_lt _ (by omega)
      rw [digsL_step up hb h0]
      intro y hy
      simp only [List.mem_append, List.mem_singleton] at hy
      rcases hy with hy | rfl
      · exact ih (n / b) (Nat.div_lt_self (by omega) (by omega)) y hy
      · exact digB_chD up (by omega) hlt
theorem digsL_head {b : Nat} (up : Bool) (hb : 2 ≤ b) (hb2 : b ≤ 16) (n : Nat) (h0 : n ≠ 0) : ∃ x r, digsL b up n = x :: r ∧ 49 ≤ x.toNat := by
  induction n using Nat.strongRecOn with
  | ind n ih =>
    rw [digsL_step up hb h0]
    by_cases h1 : n / b = 0
    · have hlt : n < b := by
        rcases Nat.lt_or_ge n b with h | h
        · exact h
        · have := Nat.div_pos h (by omega : 0 < b); omega
      rw [h1, digsL_zero, Nat.mod_eq_of_lt hlt]
      refine ⟨_, [], rfl, ?_⟩
      rw [chD_toNat up (by omega)]
      split
      · omega
      · split <;> omega
    · obtain ⟨x, r, hxr, hx⟩ := ih (n / b) (Nat.div_lt_self (by omega) (by omega)) h1
      exact ⟨x, r ++ [chD up (n % b)], by rw [hxr]; rfl, hx⟩

theorem digB8 {y : UInt8} (h : digB 8 y) : 48 ≤ y.toNat ∧ y.toNat ≤ 55 := by
  obtain ⟨h1, h2⟩ := h
  unfold dv at h2
  split at h2
  · omega
  · split at h2 <;> omega

set_option maxHeartbeats 4000000 in
set_option maxRecDepth 1000000 in
theorem readFloat_hex {w : World} (x : UInt8) (r : List UInt8) (hl : (x :: r).length ≤ 16) (hr : ∀ y ∈ (x :: r), digB 16 y) :
    Calls Tryz.prog 242 #[.string ⟨(48 :: 120 :: x :: r).toArray⟩] w fun e w' => (∃ m n t, e = .returned (.tuple #[.int .u64 m, .int .i64 0, .bool false, .bool t, .bool true, .int .i64 n, .bool false])) ∧ w' = w := by
  have f1 : ∀ h, ((((⟨(48 :: 120 :: x :: r).toArray⟩ : ByteArray)[0]'h).toNat : Int) == 43) = false := fun h => rfl
  have f2 : ∀ h, ((((⟨(48 :: 120 :: x :: r).toArray⟩ : ByteArray)[0]'h).toNat : Int) == 45) = false := fun h => rfl
  have f3 : ∀ h, ((((⟨(48 :: 120 :: x :: r).toArray⟩ : ByteArray)[0]'h).toNat : Int) == 48) = true := fun h => rfl
  have f4 : ∀ h, (bits BinOp.or IntKind.u8 (((⟨(48 :: 120 :: x :: r).toArray⟩ : ByteArray)[1]'h).toNat : Int) 32 == 120) = true := fun h => by rw [str1]; decide
  have HR := Lib.hid hr
  have HL := Lib.hid hl
  clear hr hl
  go_enter Tryz.func242, Tryz.ntmps242
  go_wp2_with fail
  go_step3
  go_upto_region 12 with fail
  go_cut [54] from 36 to 54 (fun a w2 => a = .bool true ∧ w2 = w)
  case first =>
    go_wp2
    all_goals (go_meet; exact ⟨rfl, rfl⟩)
  case rest =>
    obtain ⟨rfl, rfl⟩ := hcut
    clear f1 f2 f3 f4
    go_wp2_with fail
    go_step3
    go_wp2_with fail
    go_loop [2, 5, 7, 9, 13, 14, 15, 16, 17] (fun m t i u sd sg nd nm dp => ∃ (M D : Int) (z : Bool) (k n : Nat), k ≤ r.length + 1 ∧ n ≤ k ∧ (0 < k → z = true) ∧ m = .int .u64 M ∧ t = .bool false ∧ i = .int .i64 ((k : Int) + 2) ∧ u = .bool false ∧ sd = .bool false ∧ sg = .bool z ∧ nd = .int .i64 (n : Nat) ∧ nm = .int .i64 (n : Nat) ∧ dp = .int .i64 D) (fun _ _ i _ _ _ _ _ _ => r.length + 3 - (intOf i).toNat)
    case atStart => exact ⟨0, 0, false, 0, 0, Nat.zero_le _, Nat.le_refl _, fun h => absurd h (Nat.lt_irrefl 0), rfl, rfl, rfl, rfl, rfl, rfl, rfl, rfl, rfl⟩
    case round =>
      obtain ⟨M, D, z, k, n, hk, hn, hz, rfl, rfl, rfl, rfl, rfl, rfl, rfl, rfl, rfl⟩ := hrel
      have hlen : r.length + 1 ≤ 16 := by have := HL.out; simpa using this
      by_cases hlt : k < r.length + 1
      · have hlt2 : k < (x :: r).length := by simpa using hlt
        have hcell : ∀ h, (((⟨(48 :: 120 :: x :: r).toArray⟩ : ByteArray)[k + 2]'h).toNat : Int) = (((x :: r)[k]'hlt2).toNat : Int) := fun h => rfl
        have hR := HR.out _ (List.getElem_mem hlt2)
        generalize hcc : (x :: r)[k] = c at hcell hR
        clear hcc
        have HC := Lib.hid hcell
        obtain ⟨hcl, -⟩ := hR
        have hus : ((c.toNat : Int) == 95) = false := beq_eq_false_iff_ne.2 (by omega)
        have hdt : ((c.toNat : Int) == 46) = false := beq_eq_false_iff_ne.2 (by omega)
        clear hz
        rcases hcl with hcl | hcl | hcl
        · by_cases hc0 : c.toNat = 48
          · have hc1 : ((c.toNat : Int) == 48) = true := beq_iff_eq.2 (by omega)
            have hc2 : ((c.toNat : Int) != 48) = false := by rw [bne, hc1]; rfl
            by_cases hn0 : n = 0
            · subst hn0
              go_wp2
              first
                | (refine ⟨⟨_, _, true, k + 1, 0, by omega, by omega, fun _ => rfl, rfl, rfl, ?_, rfl, rfl, rfl, ?_, ?_, rfl⟩, by simp [intOf]; omega⟩)
                | (refine ⟨⟨_, _, _, _, _, _, _, _, _, _, ?_, rfl, rfl, rfl, rfl, rfl, rfl, rfl, rfl, rfl, rfl⟩, by simp [intOf]; omega⟩; refine ⟨_, _, true, k + 1, 0, by omega, by omega, fun _ => rfl, rfl, rfl, ?_, rfl, rfl, rfl, ?_, ?_, rfl⟩)
              all_goals (first | rfl | (refine congrArg (Value.int .i64) ?_; omega))
            · have hn1 : ((n : Int) == 0) = false := beq_eq_false_iff_ne.2 (by omega)
              go_wp2
              first
                | (refine ⟨⟨_, _, true, k + 1, n + 1, by omega, by omega, fun _ => rfl, rfl, rfl, ?_, rfl, rfl, rfl, ?_, ?_, rfl⟩, by simp [intOf]; omega⟩)
                | (refine ⟨⟨_, _, _, _, _, _, _, _, _, _, ?_, rfl, rfl, rfl, rfl, rfl, rfl, rfl, rfl, rfl, rfl⟩, by simp [intOf]; omega⟩; refine ⟨_, _, true, k + 1, n + 1, by omega, by omega, fun _ => rfl, rfl, rfl, ?_, rfl, rfl, rfl, ?_, ?_, rfl⟩)
              all_goals (first | rfl | (refine congrArg (Value.int .i64) ?_; omega))
          · have hc1 : ((c.toNat : Int) == 48) = false := beq_eq_false_iff_ne.2 (by omega)
            have hc2 : ((c.toNat : Int) != 48) = true := by rw [bne, hc1]; rfl
            go_wp2
            first
              | (refine ⟨⟨_, _, true, k + 1, n + 1, by omega, by omega, fun _ => rfl, rfl, rfl, ?_, rfl, rfl, rfl, ?_, ?_, rfl⟩, by simp [intOf]; omega⟩)
              | (refine ⟨⟨_, _, _, _, _, _, _, _, _, _, ?_, rfl, rfl, rfl, rfl, rfl, rfl, rfl, rfl, rfl, rfl⟩, by simp [intOf]; omega⟩; refine ⟨_, _, true, k + 1, n + 1, by omega, by omega, fun _ => rfl, rfl, rfl, ?_, rfl, rfl, rfl, ?_, ?_, rfl⟩)
            all_goals (first | rfl | (refine congrArg (Value.int .i64) ?_; omega))
        · have hor : bits BinOp.or IntKind.u8 (c.toNat : Int) 32 = (c.toNat : Int) := or32_low c hcl
          have hno : decide ((c.toNat : Int) ≤ 57) = false := decide_eq_false (by omega)
          go_wp2
          first
            | (refine ⟨⟨_, _, true, k + 1, n + 1, by omega, by omega, fun _ => rfl, rfl, rfl, ?_, rfl, rfl, rfl, ?_, ?_, rfl⟩, by simp [intOf]; omega⟩)
            | (refine ⟨⟨_, _, _, _, _, _, _, _, _, _, ?_, rfl, rfl, rfl, rfl, rfl, rfl, rfl, rfl, rfl, rfl⟩, by simp [intOf]; omega⟩; refine ⟨_, _, true, k + 1, n + 1, by omega, by omega, fun _ => rfl, rfl, rfl, ?_, rfl, rfl, rfl, ?_, ?_, rfl⟩)
          all_goals (first | rfl | (refine congrArg (Value.int .i64) ?_; omega))
        · have hor : bits BinOp.or IntKind.u8 (c.toNat : Int) 32 = (c.toNat : Int) + 32 := or32_up c hcl
          have hno : decide ((c.toNat : Int) ≤ 57) = false := decide_eq_false (by omega)
          go_wp2
          first
            | (refine ⟨⟨_, _, true, k + 1, n + 1, by omega, by omega, fun _ => rfl, rfl, rfl, ?_, rfl, rfl, rfl, ?_, ?_, rfl⟩, by simp [intOf]; omega⟩)
            | (refine ⟨⟨_, _, _, _, _, _, _, _, _, _, ?_, rfl, rfl, rfl, rfl, rfl, rfl, rfl, rfl, rfl, rfl⟩, by simp [intOf]; omega⟩; refine ⟨_, _, true, k + 1, n + 1, by omega, by omega, fun _ => rfl, rfl, rfl, ?_, rfl, rfl, rfl, ?_, ?_, rfl⟩)
          all_goals (first | rfl | (refine congrArg (Value.int .i64) ?_; omega))
      · have hke : k = r.length + 1 := by omega
        subst hke
        obtain rfl := hz (by omega)
        clear hlt hz
        go_wp2
        refine bodyPost_ret (v := .tuple #[.int .u64 M, .int .i64 0, .bool false, .bool false, .bool true, .int .i64 (((r.length + 1 : Nat) : Int) + 2), .bool false]) (by simp [results, Tryz.results242, go_sem]) rfl ?_
        exact ⟨⟨_, _, _, rfl⟩, rfl⟩

set_option maxHeartbeats 2000000 in
set_option maxRecDepth 1000000 in
theorem atof64_synt {w : World} (s : ByteArray)
    (hS : Calls Tryz.prog 241 #[.string s] w fun e w' => e = .returned (.tuple #[.float .f64 0, .int .i64 0, .bool false]) ∧ w' = w)
    (hR : Calls Tryz.prog 242 #[.string s] w fun e w' => (∃ m n t, e = .returned (.tuple #[.int .u64 m, .int .i64 0, .bool false, .bool t, .bool true, .int .i64 n, .bool false])) ∧ w' = w) :
    Calls Tryz.prog 220 #[.string s] w (AfEnds w) := by
  have HS := Lib.hid hS
  have HR := Lib.hid hR
  clear hS hR
  go_enter Tryz.func220, Tryz.ntmps220
  go_wp2_with fail
  refine HS.out.mono ?_
  rintro e w' ⟨rfl, rfl⟩
  go_wp2_with fail
  refine HR.out.mono ?_
  rintro e w' ⟨⟨m, n, t, rfl⟩, rfl⟩
  go_wp2
  go_ret3
  exact ⟨_, _, _, rfl, .inr (.inr rfl), gr_refl _ _⟩

theorem float_hex_any {w : World} (x : UInt8) (r : List UInt8) (hl : (x :: r).length ≤ 16) (hr : ∀ y ∈ (x :: r), digB 16 y) (hF : HasPF w) :
    Calls Tryz.prog 100 #[.string ⟨(48 :: 120 :: x :: r).toArray⟩, .int .i64 64] w (FlAny w) :=
  parseFloat_any _ (by rw [size_list]; simp only [List.length_cons] at hl ⊢; omega) hF.2.2.1 hF.2.2.2 (atof64_synt _ (special_digit 48 (120 :: x :: r) (by decide)) (readFloat_hex x r hl hr))

theorem digB_hex {y : UInt8} (h : digB 16 y) : isHexD y := h.1
theorem scalar_hex {w : World} {A : Option Addr} {c : Nat} (x : UInt8) (r : List UInt8) (h : IsB w A c (48 :: 120 :: x :: r)) (hr : ∀ y ∈ (x :: r), digB 16 y) (hl : (x :: r).length ≤ 16) (hv : val 16 0 (x :: r) ≤ 18446744073709551615) (hF : HasPF w) :
    Calls Tryz.prog 9 #[.slice A (48 :: 120 :: x :: r).length c] w (ScalarEnds w (48 :: 120 :: x :: r) (NumVals (val 16 0 (x :: r) : Nat))) := by
  have hE := hF.2.2.1.err
  have hl2 : (48 :: 120 :: x :: r).length ≤ 4096 := by simp only [List.length_cons] at hl ⊢; omega
  refine textScalar_num (k := 1) (neg := false) h hl2 (by decide) (by unfold Plain; decide) (by decide) (fun w1 A1 c1 h1 => parseIdent_no h1 (by unfold isAl; decide) (by decide) true)
    (fun w1 A1 c1 h1 => parseNumber_hex h1 (fun y hy => digB_hex (hr y hy))) _ (NumVals.shape _) (fun w1 p s0 hg => ?_)
  exact numVals_1 48 (120 :: x :: r) _ (by decide) hl2 (hE.kept hg) hv (fun w1 => pu16_64 x r (by omega) hr) (fun w1 => pu16_32 x r (by omega) hr)
    (fun p s0 w2 hg2 => tokFloat64_any 1 p s0 _ ((hF.kept hg).kept hg2).2.2.1 (fun w3 hg3 => float_hex_any x r hl hr (((hF.kept hg).kept hg2).kept hg3)))
    (fun p s0 w2 hg2 => tokFloat32_any 1 p s0 _ ((hF.kept hg).kept hg2).2.2.1 (fun w3 hg3 => float_hex_any x r hl hr (((hF.kept hg).kept hg2).kept hg3))) p s0

theorem scalar_oct {w : World} {A : Option Addr} {c : Nat} (x : UInt8) (r : List UInt8) (h : IsB w A c (48 :: x :: r)) (hx : 49 ≤ x.toNat) (hr : ∀ y ∈ (x :: r), digB 8 y) (hl : (x :: r).length ≤ 41) (hv : val 8 0 (x :: r) ≤ 18446744073709551615) (hF : HasPF w) :
    Calls Tryz.prog 9 #[.slice A (48 :: x :: r).length c] w (ScalarEnds w (48 :: x :: r) (NumVals (val 8 0 (x :: r) : Nat))) := by
  have hE := hF.2.2.1.err
  have hl2 : (48 :: x :: r).length ≤ 4096 := by simp only [List.length_cons] at hl ⊢; omega
  have hd : ∀ y ∈ (x :: r), isDig y := fun y hy => by have := digB8 (hr y hy); unfold isDig; omega
  have hfl : ∀ w3, HasPF w3 → Calls Tryz.prog 100 #[.string ⟨(48 :: x :: r).toArray⟩, .int .i64 64] w3 (FlAny w3) := fun w3 h3 => float_lead_any (x :: r) (fun _ => hx) hd hl h3
  refine textScalar_num (k := 2) (neg := false) h hl2 (by decide) (by unfold Plain; decide) (by decide) (fun w1 A1 c1 h1 => parseIdent_no h1 (by unfold isAl; decide) (by decide) true)
    (fun w1 A1 c1 h1 => parseNumber_oct h1 (fun y hy => digB8 (hr y hy))) _ (NumVals.shape _) (fun w1 p s0 hg => ?_)
  have h6 : ∀ w1, Calls Tryz.prog 137 #[.string ⟨(48 :: x :: r).toArray⟩, .int .i64 0, .int .i64 64] w1 (PuEnds w1 (val 8 0 (x :: r)) 18446744073709551615) := fun w1 => by
    cases r with
    | nil => exact pu8_64_one x (by simp) hr
    | cons y r => exact pu8_64 x y r (by omega) hr
  have h3 : ∀ w1, Calls Tryz.prog 137 #[.string ⟨(48 :: x :: r).toArray⟩, .int .i64 0, .int .i64 32] w1 (PuEnds w1 (val 8 0 (x :: r)) 4294967295) := fun w1 => by
    cases r with
    | nil => exact pu8_32_one x (by simp) hr
    | cons y r => exact pu8_32 x y r (by omega) hr
  exact numVals_2 48 (x :: r) _ (by decide) hl2 (hE.kept hg) hv h6 h3
    (fun p s0 w2 hg2 => tokFloat64_any 2 p s0 _ ((hF.kept hg).kept hg2).2.2.1 (fun w3 hg3 => hfl w3 (((hF.kept hg).kept hg2).kept hg3)))
    (fun p s0 w2 hg2 => tokFloat32_any 2 p s0 _ ((hF.kept hg).kept hg2).2.2.1 (fun w3 hg3 => hfl w3 (((hF.kept hg).kept hg2).kept hg3))) p s0
end Go.Proofs.YtlfeolfjlmelpaaGreatDoor
