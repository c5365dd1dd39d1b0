/- Plain laws of the digits that readFloat reads. -/
import Derived.Test.YtlfeolfjlmelpaaGreatDoorKQ
import Derived.Test.YtlfeolfjlmelpaaGreatDoorKF
namespace Go.Proofs.YtlfeolfjlmelpaaGreatDoor
open Go.RowKit

/-- A digit behind the nineteenth that is not 0. -/
def trun (l : List UInt8) : Bool := (l.drop 19).any (fun c => c.toNat != 48)
/-- The number of the first nineteen digits. -/
def mant (l : List UInt8) : Nat := val 10 0 (l.take 19)
theorem dv_dig {c : UInt8} (h : isDig c) : dv c = c.toNat - 48 := if_pos h.2
theorem val_lt : ∀ (l : List UInt8) (n : Nat), (∀ y ∈ l, isDig y) → val 10 n l < (n + 1) * 10 ^ l.length
  | [], n, _ => by simp [val]
  | c :: r, n, h => by
    have h1 := val_lt r (n * 10 + dv c) (fun y hy => h y (by simp [hy]))
    have h2 := dv_dig (h c (by simp))
    have h3 := (h c (by simp)).2
    rw [val, List.length_cons, Nat.pow_succ]
    refine Nat.lt_of_lt_of_le h1 ?_
    rw [Nat.mul_comm (10 ^ r.length) 10, ← Nat.mul_assoc]
    exact Nat.mul_le_mul_right _ (by omega)
theorem mant_lt (l : List UInt8) (h : ∀ y ∈ l, isDig y) : mant l ≤ 9999999999999999999 := by
  have h1 := val_lt (l.take 19) 0 (fun y hy => h y (List.mem_of_mem_take hy))
  have h2 : (l.take 19).length ≤ 19 := by simp; omega
  have h3 : 10 ^ (l.take 19).length ≤ 10 ^ 19 := Nat.pow_le_pow_right (by decide) h2
  unfold mant
  omega
theorem mant_step (l : List UInt8) (k : Nat) (hk : k < l.length) (hd : isDig l[k]) : (k < 19 → (mant (l.take (k + 1)) : Int) = (mant (l.take k) : Int) * 10 + ((l[k].toNat : Int) - 48)) ∧ (19 ≤ k → mant (l.take (k + 1)) = mant (l.take k)) := by
  refine ⟨fun h => ?_, fun h => ?_⟩
  · unfold mant
    rw [List.take_take, List.take_take, Nat.min_eq_right (by omega : k + 1 ≤ 19), Nat.min_eq_right (by omega : k ≤ 19), val_take 10 l k hk, dv_dig hd]
    have := hd.1
    omega
  · unfold mant
    rw [List.take_take, List.take_take, Nat.min_eq_left (by omega : 19 ≤ k + 1), Nat.min_eq_left h]
theorem trun_step (l : List UInt8) (k : Nat) (hk : k < l.length) : (k < 19 → trun (l.take (k + 1)) = trun (l.take k)) ∧ (19 ≤ k → trun (l.take (k + 1)) = (trun (l.take k) || l[k].toNat != 48)) := by
  refine ⟨fun h => ?_, fun h => ?_⟩
  · unfold trun
    rw [List.drop_eq_nil_of_le (by simp; omega), List.drop_eq_nil_of_le (by simp; omega)]
  · unfold trun
    rw [List.take_succ_eq_append_getElem hk, List.drop_append_of_le_length (by simp; omega)]
    simp
theorem mant_pos (x : UInt8) (r : List UInt8) (h : 49 ≤ x.toNat ∧ x.toNat ≤ 57) : 1 ≤ mant (x :: r) := by
  unfold mant
  rw [List.take_succ_cons, val]
  have h1 := val_ge 10 (by decide) (r.take 18) (0 * 10 + dv x)
  have h2 : 1 ≤ dv x := by unfold dv; rw [if_pos h.2]; omega
  omega
end Go.Proofs.YtlfeolfjlmelpaaGreatDoor
