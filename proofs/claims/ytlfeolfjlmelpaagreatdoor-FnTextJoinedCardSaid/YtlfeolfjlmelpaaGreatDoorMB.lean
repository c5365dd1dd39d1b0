/- The decimal digits of a number: plain facts. -/
import Derived.Test.YtlfeolfjlmelpaaGreatDoorKR
namespace Go.Proofs.YtlfeolfjlmelpaaGreatDoor
open Go.RowKit

/-- The decimal digits of a number. -/
def decL (n : Nat) : List UInt8 := if h : n < 10 then [UInt8.ofNat (48 + n)] else decL (n / 10) ++ [UInt8.ofNat (48 + n % 10)]
termination_by n
decreasing_by omega

theorem decL_small {n : Nat} (h : n < 10) : decL n = [UInt8.ofNat (48 + n)] := by rw [decL, dif_pos h]
theorem decL_big {n : Nat} (h : ¬ n < 10) : decL n = decL (n / 10) ++ [UInt8.ofNat (48 + n % 10)] := by conv => lhs; rw [decL, dif_neg h]

theorem dchar_toNat {d : Nat} (h : d < 10) : (UInt8.ofNat (48 + d)).toNat = 48 + d := by
  rw [UInt8.toNat_ofNat']; omega
theorem decL_dig (n : Nat) : ∀ y ∈ decL n, isDig y := by
  induction n using Nat.strongRecOn with
  | ind n ih =>
    by_cases h : n < 10
    · rw [decL_small h]
      intro y hy
      simp only [List.mem_singleton] at hy
      subst hy
      unfold isDig
      rw [dchar_toNat h]; omega
    · rw [decL_big h]
      intro y hy
      simp only [List.mem_append, List.mem_singleton] at hy
      rcases hy with hy | rfl
      · exact ih (n / 10) (by omega) y hy
      · unfold isDig
        rw [dchar_toNat (by omega)]; omega
theorem val_decL (n : Nat) : val 10 0 (decL n) = n := by
  induction n using Nat.strongRecOn with
  | ind n ih =>
    by_cases h : n < 10
    · rw [decL_small h]
      simp only [val, dv]
      rw [dchar_toNat h, if_pos (by omega)]; omega
    · rw [decL_big h, val_append, ih (n / 10) (by omega)]
      simp only [val, dv]
      rw [dchar_toNat (by omega), if_pos (by omega)]; omega
theorem decL_ne (n : Nat) : decL n ≠ [] := by
  by_cases h : n < 10
  · rw [decL_small h]; simp
  · rw [decL_big h]; simp
theorem decL_len (n : Nat) : ∀ k, n < 10 ^ (k + 1) → (decL n).length ≤ k + 1 := by
  induction n using Nat.strongRecOn with
  | ind n ih =>
    intro k hk
    by_cases h : n < 10
    · rw [decL_small h]; simp
    · rw [decL_big h]
      match k, hk with
      | 0, hk => omega
      | k + 1, hk =>
        have := ih (n / 10) (by omega) k (by rw [Nat.pow_succ] at hk; omega)
        simp; omega
theorem decL_len_ge (n : Nat) : ∀ k, 10 ^ k ≤ n → k + 1 ≤ (decL n).length := by
  induction n using Nat.strongRecOn with
  | ind n ih =>
    intro k hk
    by_cases h : n < 10
    · match k, hk with
      | 0, hk => rw [decL_small h]; simp
      | k + 1, hk => have : 10 ≤ 10 ^ (k + 1) := by rw [Nat.pow_succ]; have := Nat.pow_le_pow_right (n := 10) (by decide) (Nat.zero_le k); omega
                     omega
    · rw [decL_big h]
      match k, hk with
      | 0, hk => simp
      | k + 1, hk =>
        have := ih (n / 10) (by omega) k (by rw [Nat.pow_succ] at hk; omega)
        simp; omega
/-- Its first digit is none but 0's own. -/
theorem decL_head (n : Nat) (h0 : 0 < n) : ∃ x r, decL n = x :: r ∧ 49 ≤ x.toNat ∧ x.toNat ≤ 57 := by
  induction n using Nat.strongRecOn with
  | ind n ih =>
    by_cases h : n < 10
    · exact ⟨_, [], decL_small h, by rw [dchar_toNat h]; omega, by rw [dchar_toNat h]; omega⟩
    · obtain ⟨x, r, h1, h2⟩ := ih (n / 10) (by omega) (by omega)
      exact ⟨x, r ++ [UInt8.ofNat (48 + n % 10)], by rw [decL_big h, h1]; rfl, h2⟩
theorem isDig_digB {y : UInt8} (h : isDig y) : digB 10 y := by
  unfold isDig at h
  refine ⟨.inl h, ?_⟩
  unfold dv
  rw [if_pos h.2]; omega
end Go.Proofs.YtlfeolfjlmelpaaGreatDoor
