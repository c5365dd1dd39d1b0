/- internal/strconv.special at digits. -/
import Derived.Test.YtlfeolfjlmelpaaGreatDoorKK
namespace Go.Proofs.YtlfeolfjlmelpaaGreatDoor
open Go.RowKit

set_option maxHeartbeats 2000000 in
set_option maxRecDepth 1000000 in
theorem special_digit {w : World} (x : UInt8) (r : List UInt8) (hx : 48 ≤ x.toNat ∧ x.toNat ≤ 57) :
    Calls Tryz.prog 241 #[.string ⟨(x :: r).toArray⟩] w fun e w' => e = .returned (.tuple #[.float .f64 0, .int .i64 0, .bool false]) ∧ w' = w := by
  have f1 : ∀ h, ((((⟨(x :: r).toArray⟩ : ByteArray)[0]'h).toNat : Int) == 43) = false := fun h => by rw [str0]; exact beq_eq_false_iff_ne.2 (by omega)
  have f2 : ∀ h, ((((⟨(x :: r).toArray⟩ : ByteArray)[0]'h).toNat : Int) == 45) = false := fun h => by rw [str0]; exact beq_eq_false_iff_ne.2 (by omega)
  have f3 : ∀ h, ((((⟨(x :: r).toArray⟩ : ByteArray)[0]'h).toNat : Int) == 105) = false := fun h => by rw [str0]; exact beq_eq_false_iff_ne.2 (by omega)
  have f4 : ∀ h, ((((⟨(x :: r).toArray⟩ : ByteArray)[0]'h).toNat : Int) == 73) = false := fun h => by rw [str0]; exact beq_eq_false_iff_ne.2 (by omega)
  have f5 : ∀ h, ((((⟨(x :: r).toArray⟩ : ByteArray)[0]'h).toNat : Int) == 110) = false := fun h => by rw [str0]; exact beq_eq_false_iff_ne.2 (by omega)
  have f6 : ∀ h, ((((⟨(x :: r).toArray⟩ : ByteArray)[0]'h).toNat : Int) == 78) = false := fun h => by rw [str0]; exact beq_eq_false_iff_ne.2 (by omega)
  go_enter Tryz.func241, Tryz.ntmps241
  go_wp2
  go_ret3
  simp

set_option maxHeartbeats 2000000 in
set_option maxRecDepth 1000000 in
theorem prefixLen_digit {w : World} (x : UInt8) (r : List UInt8) (hx : 48 ≤ x.toNat ∧ x.toNat ≤ 57) :
    Calls Tryz.prog 272 #[.string ⟨(x :: r).toArray⟩, .string ⟨#[105, 110, 102, 105, 110, 105, 116, 121]⟩] w fun e w' => e = .returned (.int .i64 0) ∧ w' = w := by
  have h1 : ¬ (65 ≤ (x.toNat : Int)) := by omega
  have f1 : ∀ h, ((((⟨(x :: r).toArray⟩ : ByteArray)[0]'h).toNat : Int)) = (x.toNat : Int) := fun h => by rw [str0]
  have f2 : ∀ h, ((((⟨#[105, 110, 102, 105, 110, 105, 116, 121]⟩ : ByteArray)[0]'h).toNat : Int)) = 105 := fun h => rfl
  have f3 : ((x.toNat : Int) == 105) = false := beq_eq_false_iff_ne.2 (by omega)
  have f4 : ((x.toNat : Int) != 105) = true := by simp [f3, bne]
  have F1 := Lib.hid f1
  have F2 := Lib.hid f2
  have F3 := Lib.hid f4
  clear f1 f2 f3 f4
  go_enter Tryz.func272, Tryz.ntmps272
  go_wp2
  all_goals (
    go_loop [6, 7] (fun i _ => i = .int .i64 0) (fun _ _ => 0)
    case atStart => rfl
    case round =>
      subst hrel
      have f1 := F1.out
      have f2 := F2.out
      have f3 := F3.out
      go_wp2
      go_ret
      simp)

set_option maxHeartbeats 2000000 in
set_option maxRecDepth 1000000 in
theorem special_neg {w : World} (x : UInt8) (r : List UInt8) (hx : 48 ≤ x.toNat ∧ x.toNat ≤ 57) :
    Calls Tryz.prog 241 #[.string ⟨(45 :: x :: r).toArray⟩] w fun e w' => e = .returned (.tuple #[.float .f64 0, .int .i64 0, .bool false]) ∧ w' = w := by
  have HC := Lib.hid (@prefixLen_digit w x r hx)
  have f1 : ∀ h, ((((⟨(45 :: x :: r).toArray⟩ : ByteArray)[0]'h).toNat : Int) == 43) = false := fun h => rfl
  have f2 : ∀ h, ((((⟨(45 :: x :: r).toArray⟩ : ByteArray)[0]'h).toNat : Int) == 45) = true := fun h => rfl
  have f3 : (⟨(45 :: x :: r).toArray⟩ : ByteArray).extract 1 (r.length + 1 + 1) = ⟨(x :: r).toArray⟩ := str_cut _ 1
  go_enter Tryz.func241, Tryz.ntmps241
  go_wp2_with fail
  refine HC.out.mono ?_
  rintro e w' ⟨rfl, rfl⟩
  clear HC
  go_wp2
  go_ret3
  simp
end Go.Proofs.YtlfeolfjlmelpaaGreatDoor
