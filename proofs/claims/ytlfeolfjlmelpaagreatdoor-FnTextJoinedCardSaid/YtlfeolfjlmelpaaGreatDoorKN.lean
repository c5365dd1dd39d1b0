/- strconv.ParseInt and strconv.ParseUint over internal/strconv.ParseUint. -/
import Derived.Test.YtlfeolfjlmelpaaGreatDoorKK
import Derived.Test.YtlfeolfjlmelpaaGreatDoorSh
import Derived.Lib.IfaceNeq
namespace Go.Proofs.YtlfeolfjlmelpaaGreatDoor
open Go.RowKit

/-- What ParseInt tells of the number m. -/
def PiEnds (w : World) (m lim : Int) (e : Ending) (w' : World) : Prop :=
  (∃ a er, e = .returned (.tuple #[.int .i64 a, er]) ∧ (-lim ≤ m ∧ m ≤ lim - 1 → a = m ∧ er = .nilIface) ∧ (¬ (-lim ≤ m ∧ m ≤ lim - 1) → er = .iface 245 (.int .i64 1))) ∧ w.grownBy w' none

theorem i64_in (a : Int) (h0 : -9223372036854775808 ≤ a) (h : a ≤ 9223372036854775807) : IntKind.i64.wrap a = a := IntWalk.i64_in a ⟨h0, h⟩
theorem neg_w64 (v : Nat) (h : v ≤ 9223372036854775808) : wrap64 (-(wrap64 (v : Int))) = -(v : Int) := by
  unfold wrap64; omega
theorem neg_i64 (v : Nat) (h : v ≤ 9223372036854775808) : IntKind.i64.wrap (-(IntKind.i64.wrap (v : Int))) = -(v : Int) := by
  by_cases h2 : v ≤ 9223372036854775807
  · rw [i64_in (v : Int) (by omega) (by omega), i64_in (-(v : Int)) (by omega) (by omega)]
  · have h3 : v = 9223372036854775808 := by omega
    subst h3
    rfl

set_option maxHeartbeats 2000000 in
set_option maxRecDepth 1000000 in
theorem piPos64 {w : World} (x : UInt8) (r : List UInt8) (v : Nat) (hx : x.toNat ≠ 43 ∧ x.toNat ≠ 45)
    (hC : Calls Tryz.prog 137 #[.string ⟨(x :: r).toArray⟩, .int .i64 0, .int .i64 64] w (PuEnds w v 18446744073709551615)) :
    Calls Tryz.prog 139 #[.string ⟨(x :: r).toArray⟩, .int .i64 0, .int .i64 64] w (PiEnds w (v : Int) 9223372036854775808) := by
  have f1 : ∀ h, ((((⟨(x :: r).toArray⟩ : ByteArray)[0]'h).toNat : Int) == 43) = false := fun h => by rw [str0]; exact beq_eq_false_iff_ne.2 (by omega)
  have f2 : ∀ h, ((((⟨(x :: r).toArray⟩ : ByteArray)[0]'h).toNat : Int) == 45) = false := fun h => by rw [str0]; exact beq_eq_false_iff_ne.2 (by omega)
  have HC := Lib.hid hC
  clear hC
  go_enter Tryz.func139, Tryz.ntmps139
  go_wp2_with fail
  refine HC.out.mono ?_
  rintro e w' ⟨he, hg⟩
  have HG := Lib.hid hg
  clear HC hg f1 f2
  by_cases hv : v ≤ 18446744073709551615
  · rw [if_pos hv] at he
    subst he
    have HV := Lib.hid hv
    clear hv
    go_upto_region 17 with fail
    obtain ⟨CO, hCO⟩ : ∃ c : Int, c = 9223372036854775808 := ⟨_, rfl⟩
    rw [← hCO]
    have HCO := Lib.hid hCO
    clear hCO
    by_cases hlim : (v : Int) < CO
    · have hlim2 : (v : Int) ≤ CO - 1 := by omega
      have hlim3 : ¬ CO ≤ (v : Int) := by omega
      have hw : IntKind.i64.wrap (v : Int) = (v : Int) := i64_in _ (by omega) (by have := HCO.out; omega)
      have HL := Lib.hid hlim
      go_wp2
      go_ret2
      exact ⟨⟨_, _, rfl, fun _ => ⟨rfl, rfl⟩, fun h => absurd ⟨by omega, by have := HL.out; have := HCO.out; omega⟩ h⟩, HG.out⟩
    · have HL := Lib.hid hlim
      have hlim3 : CO ≤ (v : Int) := by omega
      clear hlim
      go_wp2
      go_ret2
      exact ⟨⟨_, _, rfl, fun h => absurd h (by have := HL.out; have := HCO.out; omega), fun h => rfl⟩, HG.out⟩
  · rw [if_neg hv] at he
    subst he
    have HV := Lib.hid hv
    clear hv
    have hq1 : ∀ W, (binOp .neq 74 (.iface 245 (.int .i64 1)) (.iface 245 (.int .i64 1))).run Tryz.prog W = .ok (.bool false) W := fun W => Lib.run_neq_iface_int W 1 1 Tryz.underlying74 (by kernel_rfl) Tryz.underlying245
    go_upto_region 17 with fail
    clear hq1
    obtain ⟨CO, hCO⟩ : ∃ c : Int, c = 9223372036854775808 := ⟨_, rfl⟩
    rw [← hCO]
    have hcm : CO ≤ 18446744073709551615 := by omega
    have HCO := Lib.hid hCO
    clear hCO
    go_wp2
    go_ret2
    exact ⟨⟨_, _, rfl, fun h => absurd h (by have := HV.out; have := HCO.out; omega), fun h => rfl⟩, HG.out⟩

set_option maxHeartbeats 2000000 in
set_option maxRecDepth 1000000 in
theorem piPos32 {w : World} (x : UInt8) (r : List UInt8) (v : Nat) (hx : x.toNat ≠ 43 ∧ x.toNat ≠ 45)
    (hC : Calls Tryz.prog 137 #[.string ⟨(x :: r).toArray⟩, .int .i64 0, .int .i64 32] w (PuEnds w v 4294967295)) :
    Calls Tryz.prog 139 #[.string ⟨(x :: r).toArray⟩, .int .i64 0, .int .i64 32] w (PiEnds w (v : Int) 2147483648) := by
  have f1 : ∀ h, ((((⟨(x :: r).toArray⟩ : ByteArray)[0]'h).toNat : Int) == 43) = false := fun h => by rw [str0]; exact beq_eq_false_iff_ne.2 (by omega)
  have f2 : ∀ h, ((((⟨(x :: r).toArray⟩ : ByteArray)[0]'h).toNat : Int) == 45) = false := fun h => by rw [str0]; exact beq_eq_false_iff_ne.2 (by omega)
  have HC := Lib.hid hC
  clear hC
  go_enter Tryz.func139, Tryz.ntmps139
  go_wp2_with fail
  refine HC.out.mono ?_
  rintro e w' ⟨he, hg⟩
  have HG := Lib.hid hg
  clear HC hg f1 f2
  by_cases hv : v ≤ 4294967295
  · rw [if_pos hv] at he
    subst he
    have HV := Lib.hid hv
    clear hv
    go_upto_region 17 with fail
    obtain ⟨CO, hCO⟩ : ∃ c : Int, c = 2147483648 := ⟨_, rfl⟩
    rw [← hCO]
    have HCO := Lib.hid hCO
    clear hCO
    by_cases hlim : (v : Int) < CO
    · have hlim2 : (v : Int) ≤ CO - 1 := by omega
      have hlim3 : ¬ CO ≤ (v : Int) := by omega
      have hw : IntKind.i64.wrap (v : Int) = (v : Int) := i64_in _ (by omega) (by have := HCO.out; omega)
      have HL := Lib.hid hlim
      go_wp2
      go_ret2
      exact ⟨⟨_, _, rfl, fun _ => ⟨rfl, rfl⟩, fun h => absurd ⟨by omega, by have := HL.out; have := HCO.out; omega⟩ h⟩, HG.out⟩
    · have HL := Lib.hid hlim
      have hlim3 : CO ≤ (v : Int) := by omega
      clear hlim
      go_wp2
      go_ret2
      exact ⟨⟨_, _, rfl, fun h => absurd h (by have := HL.out; have := HCO.out; omega), fun h => rfl⟩, HG.out⟩
  · rw [if_neg hv] at he
    subst he
    have HV := Lib.hid hv
    clear hv
    have hq1 : ∀ W, (binOp .neq 74 (.iface 245 (.int .i64 1)) (.iface 245 (.int .i64 1))).run Tryz.prog W = .ok (.bool false) W := fun W => Lib.run_neq_iface_int W 1 1 Tryz.underlying74 (by kernel_rfl) Tryz.underlying245
    go_upto_region 17 with fail
    clear hq1
    obtain ⟨CO, hCO⟩ : ∃ c : Int, c = 2147483648 := ⟨_, rfl⟩
    rw [← hCO]
    have hcm : CO ≤ 4294967295 := by omega
    have HCO := Lib.hid hCO
    clear hCO
    go_wp2
    go_ret2
    exact ⟨⟨_, _, rfl, fun h => absurd h (by have := HV.out; have := HCO.out; omega), fun h => rfl⟩, HG.out⟩

set_option maxHeartbeats 2000000 in
set_option maxRecDepth 1000000 in
theorem piNeg64 {w : World} (x : UInt8) (r : List UInt8) (v : Nat)
    (hC : Calls Tryz.prog 137 #[.string ⟨(x :: r).toArray⟩, .int .i64 0, .int .i64 64] w (PuEnds w v 18446744073709551615)) :
    Calls Tryz.prog 139 #[.string ⟨(45 :: x :: r).toArray⟩, .int .i64 0, .int .i64 64] w (PiEnds w (-(v : Int)) 9223372036854775808) := by
  have f1 : ∀ h, ((((⟨(45 :: x :: r).toArray⟩ : ByteArray)[0]'h).toNat : Int) == 43) = false := fun h => rfl
  have f2 : ∀ h, ((((⟨(45 :: x :: r).toArray⟩ : ByteArray)[0]'h).toNat : Int) == 45) = true := fun h => rfl
  have f3 : (⟨(45 :: x :: r).toArray⟩ : ByteArray).extract 1 (r.length + 1 + 1) = ⟨(x :: r).toArray⟩ := str_cut _ 1
  have HC := Lib.hid hC
  clear hC
  go_enter Tryz.func139, Tryz.ntmps139
  go_wp2_with fail
  refine HC.out.mono ?_
  rintro e w' ⟨he, hg⟩
  have HG := Lib.hid hg
  clear HC hg f1 f2 f3
  by_cases hv : v ≤ 18446744073709551615
  · rw [if_pos hv] at he
    subst he
    have HV := Lib.hid hv
    clear hv
    go_upto_region 17 with fail
    obtain ⟨CO, hCO⟩ : ∃ c : Int, c = 9223372036854775808 := ⟨_, rfl⟩
    rw [← hCO]
    have HCO := Lib.hid hCO
    clear hCO
    by_cases hlim : (v : Int) ≤ CO
    · have hlim3 : ¬ CO < (v : Int) := by omega
      have HL := Lib.hid hlim
      go_wp2
      go_ret2
      refine ⟨⟨_, _, rfl, fun _ => ⟨?_, rfl⟩, fun h => absurd ⟨by have := HL.out; have := HCO.out; omega, by omega⟩ h⟩, HG.out⟩
      exact neg_w64 v (by have := HL.out; have := HCO.out; omega)
    · have HL := Lib.hid hlim
      have hlim3 : CO < (v : Int) := by omega
      clear hlim
      go_wp2
      go_ret2
      exact ⟨⟨_, _, rfl, fun h => absurd h (by have := HL.out; have := HCO.out; omega), fun h => rfl⟩, HG.out⟩
  · rw [if_neg hv] at he
    subst he
    have HV := Lib.hid hv
    clear hv
    have hq1 : ∀ W, (binOp .neq 74 (.iface 245 (.int .i64 1)) (.iface 245 (.int .i64 1))).run Tryz.prog W = .ok (.bool false) W := fun W => Lib.run_neq_iface_int W 1 1 Tryz.underlying74 (by kernel_rfl) Tryz.underlying245
    go_upto_region 17 with fail
    clear hq1
    obtain ⟨CO, hCO⟩ : ∃ c : Int, c = 9223372036854775808 := ⟨_, rfl⟩
    rw [← hCO]
    have hcm : CO < 18446744073709551615 := by omega
    have HCO := Lib.hid hCO
    clear hCO
    go_wp2
    go_ret2
    exact ⟨⟨_, _, rfl, fun h => absurd h (by have := HV.out; have := HCO.out; omega), fun h => rfl⟩, HG.out⟩

set_option maxHeartbeats 2000000 in
set_option maxRecDepth 1000000 in
theorem piNeg32 {w : World} (x : UInt8) (r : List UInt8) (v : Nat)
    (hC : Calls Tryz.prog 137 #[.string ⟨(x :: r).toArray⟩, .int .i64 0, .int .i64 32] w (PuEnds w v 4294967295)) :
    Calls Tryz.prog 139 #[.string ⟨(45 :: x :: r).toArray⟩, .int .i64 0, .int .i64 32] w (PiEnds w (-(v : Int)) 2147483648) := by
  have f1 : ∀ h, ((((⟨(45 :: x :: r).toArray⟩ : ByteArray)[0]'h).toNat : Int) == 43) = false := fun h => rfl
  have f2 : ∀ h, ((((⟨(45 :: x :: r).toArray⟩ : ByteArray)[0]'h).toNat : Int) == 45) = true := fun h => rfl
  have f3 : (⟨(45 :: x :: r).toArray⟩ : ByteArray).extract 1 (r.length + 1 + 1) = ⟨(x :: r).toArray⟩ := str_cut _ 1
  have HC := Lib.hid hC
  clear hC
  go_enter Tryz.func139, Tryz.ntmps139
  go_wp2_with fail
  refine HC.out.mono ?_
  rintro e w' ⟨he, hg⟩
  have HG := Lib.hid hg
  clear HC hg f1 f2 f3
  by_cases hv : v ≤ 4294967295
  · rw [if_pos hv] at he
    subst he
    have HV := Lib.hid hv
    clear hv
    go_upto_region 17 with fail
    obtain ⟨CO, hCO⟩ : ∃ c : Int, c = 2147483648 := ⟨_, rfl⟩
    rw [← hCO]
    have HCO := Lib.hid hCO
    clear hCO
    by_cases hlim : (v : Int) ≤ CO
    · have hlim3 : ¬ CO < (v : Int) := by omega
      have HL := Lib.hid hlim
      go_wp2
      go_ret2
      refine ⟨⟨_, _, rfl, fun _ => ⟨?_, rfl⟩, fun h => absurd ⟨by have := HL.out; have := HCO.out; omega, by omega⟩ h⟩, HG.out⟩
      exact neg_w64 v (by have := HL.out; have := HCO.out; omega)
    · have HL := Lib.hid hlim
      have hlim3 : CO < (v : Int) := by omega
      clear hlim
      go_wp2
      go_ret2
      exact ⟨⟨_, _, rfl, fun h => absurd h (by have := HL.out; have := HCO.out; omega), fun h => rfl⟩, HG.out⟩
  · rw [if_neg hv] at he
    subst he
    have HV := Lib.hid hv
    clear hv
    have hq1 : ∀ W, (binOp .neq 74 (.iface 245 (.int .i64 1)) (.iface 245 (.int .i64 1))).run Tryz.prog W = .ok (.bool false) W := fun W => Lib.run_neq_iface_int W 1 1 Tryz.underlying74 (by kernel_rfl) Tryz.underlying245
    go_upto_region 17 with fail
    clear hq1
    obtain ⟨CO, hCO⟩ : ∃ c : Int, c = 2147483648 := ⟨_, rfl⟩
    rw [← hCO]
    have hcm : CO < 4294967295 := by omega
    have HCO := Lib.hid hCO
    clear hCO
    go_wp2
    go_ret2
    exact ⟨⟨_, _, rfl, fun h => absurd h (by have := HV.out; have := HCO.out; omega), fun h => rfl⟩, HG.out⟩
end Go.Proofs.YtlfeolfjlmelpaaGreatDoor
