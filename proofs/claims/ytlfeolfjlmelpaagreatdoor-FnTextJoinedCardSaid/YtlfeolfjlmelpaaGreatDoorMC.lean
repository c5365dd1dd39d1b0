/- laws.digits and laws.signed. -/
import Derived.Test.YtlfeolfjlmelpaaGreatDoorMB
import Derived.Test.YtlfeolfjlmelpaaGreatDoorKH
import Derived.Deep.RegionHeld3
namespace Go.Proofs.YtlfeolfjlmelpaaGreatDoor
open Go.RowKit

theorem str_app (a b : List UInt8) : (⟨a.toArray⟩ : ByteArray) ++ ⟨b.toArray⟩ = ⟨(a ++ b).toArray⟩ := by
  apply ByteArray.ext
  simp
theorem one_isB (w : World) (c : UInt8) (v : Value) (hv : v = by8 c) : IsB (w.alloc (.cells #[v] 5)) (some ⟨w.heap.size, 0, none⟩) 1 [c] := by
  subst hv
  refine ⟨by simp, by decide, fun _ => ⟨w.heap.size, 0, #[by8 c], (0, 0), rfl, blk_new w _, fun i hi => ?_⟩⟩
  have : i = 0 := by simpa using hi
  subst this
  rfl

set_option maxHeartbeats 2000000 in
set_option maxRecDepth 1000000 in
theorem digits_of (n : Nat) : ∀ (w : World), n ≤ 18446744073709551615 → Calls Tryz.prog 11 #[.int .u64 (n : Nat)] w fun e w' => e = .returned (.string ⟨(decL n).toArray⟩) ∧ w.grownBy w' none := by
  induction n using Nat.strongRecOn with
  | ind n ih =>
    intro w hn
    by_cases h : n < 10
    · rw [decL_small h]
      have hct := dchar_toNat h
      generalize UInt8.ofNat (48 + n) = ch at hct ⊢
      have hs : (convert 28 9 (.slice (some ⟨w.heap.size, 0, none⟩) 1 1)).run Tryz.prog (w.alloc (.cells #[.int .u8 (48 + (n : Int))] 5)) = .ok (.string ⟨#[ch]⟩) (w.alloc (.cells #[.int .u8 (48 + (n : Int))] 5)) := (one_isB w ch (.int .u8 (48 + (n : Int))) (by unfold by8; rw [hct]; rfl)).str
      have hg : w.grownBy (w.alloc (.cells #[.int .u8 (48 + (n : Int))] 5)) none := gr_alloc (gr_refl _ _) _
      have HG := Lib.hid hg
      clear hg hct
      go_enter Tryz.func11, Tryz.ntmps11
      go_wp2
      go_ret
      exact ⟨rfl, HG.out⟩
    · have h' : ¬ ((n : Int) < 10) := by omega
      have hct := dchar_toNat (show n % 10 < 10 by omega)
      have hih := fun w => ih (n / 10) (by omega) w (by omega)
      rw [show ((n / 10 : Nat) : Int) = (n : Int) / 10 by omega] at hih
      rw [decL_big h]
      have hLl : (decL (n / 10)).length ≤ 20 := decL_len (n / 10) 19 (by omega)
      generalize decL (n / 10) = L at hih hLl ⊢
      generalize UInt8.ofNat (48 + n % 10) = ch at hct ⊢
      have hV : Value.int .u8 (48 + (n : Int) % 10) = by8 ch := by unfold by8; rw [hct]; congr 1
      have hs : ∀ W : World, (convert 28 9 (.slice (some ⟨W.heap.size, 0, none⟩) 1 1)).run Tryz.prog (W.alloc (.cells #[.int .u8 (48 + (n : Int) % 10)] 5)) = .ok (.string ⟨#[ch]⟩) (W.alloc (.cells #[.int .u8 (48 + (n : Int) % 10)] 5)) := fun W => (one_isB W ch (.int .u8 (48 + (n : Int) % 10)) hV).str
      have hsD : (convert 28 9 (.slice (some ⟨w.heap.size, 0, none⟩) 1 1)).run Tryz.prog (w.alloc (.cells #[.int .u8 (48 + (n : Int) % 10)] 5)).drew = .ok (.string ⟨#[ch]⟩) (w.alloc (.cells #[.int .u8 (48 + (n : Int) % 10)] 5)).drew := ((one_isB w ch (.int .u8 (48 + (n : Int) % 10)) hV).kept0 (gr_drew (gr_refl _ _))).str
      have ISB := Lib.hid ((one_isB w ch (.int .u8 (48 + (n : Int) % 10)) hV).kept0 (gr_drew (gr_refl _ _)))
      have IH := Lib.hid hih
      clear ih hih hct hV
      have w1 : IntKind.u64.wrap ((n : Int) / 10) = (n : Int) / 10 := u64_in _ (by omega) (by omega)
      have w2 : (n : Int).tmod 10 = (n : Int) % 10 := Int.tmod_eq_emod_of_nonneg (by omega)
      have w3 : IntKind.u64.wrap (48 + (n : Int) % 10) = 48 + (n : Int) % 10 := u64_in _ (by omega) (by omega)
      have w4 : IntKind.u8.wrap (48 + (n : Int) % 10) = 48 + (n : Int) % 10 := IntWalk.u8_in _ ⟨by omega, by omega⟩
      go_enter Tryz.func11, Tryz.ntmps11
      go_wp2_with fail
      go_region_held (fun w' => w.grownBy w' none) (first | assumption | exact gr_drew (gr_refl _ _) | exact gr_alloc (by assumption) _ | exact gr_drew (gr_alloc (gr_refl _ _) _)) (first
        | (go_at_call 11; (with_reducible refine (IH.out _).mono ?_); rintro e w' ⟨rfl, hg⟩; have hz := gr_trans (show w.grownBy _ none by assumption) hg; (try (have hs3 : (convert 28 9 (.slice (some ⟨w.heap.size, 0, none⟩) 1 1)).run Tryz.prog w' = .ok (.string ⟨#[ch]⟩) w' := (ISB.out.kept0 hg).str)); clear hg))
      all_goals (go_wp2; go_ret; refine ⟨?_, by assumption⟩; rw [← str_app]; rfl)

/-- A whole number with its sign. -/
def sgnL (n : Int) : List UInt8 := if n < 0 then 45 :: decL n.natAbs else decL n.natAbs

set_option maxHeartbeats 2000000 in
set_option maxRecDepth 1000000 in
theorem signed_of (n : Int) (w : World) (h0 : -9223372036854775808 ≤ n) (h1 : n ≤ 9223372036854775807) : Calls Tryz.prog 10 #[.int .i64 n] w fun e w' => e = .returned (.string ⟨(sgnL n).toArray⟩) ∧ w.grownBy w' none := by
  by_cases h : n < 0
  · have hD := digits_of n.natAbs w (by omega)
    rw [show ((n.natAbs : Nat) : Int) = -n by omega] at hD
    have hl : (decL n.natAbs).length ≤ 20 := decL_len n.natAbs 19 (by omega)
    unfold sgnL
    rw [if_pos h]
    generalize decL n.natAbs = L at hD hl ⊢
    have w1 : IntKind.u64.wrap n = n + 18446744073709551616 := by rw [wrap_u64']; omega
    have w2 : IntKind.u64.wrap (-(n + 18446744073709551616)) = -n := by rw [wrap_u64']; omega
    have HD := Lib.hid hD
    clear hD
    go_enter Tryz.func10, Tryz.ntmps10
    go_wp2_with fail
    (with_reducible refine HD.out.mono ?_)
    rintro e w' ⟨rfl, hg⟩
    have HG := Lib.hid hg
    clear hg HD
    go_wp2
    go_ret
    exact ⟨by have := str_app [45] L; simp only [List.singleton_append] at this; rw [← this]; rfl, HG.out⟩
  · have hD := digits_of n.natAbs w (by omega)
    rw [show ((n.natAbs : Nat) : Int) = n by omega] at hD
    unfold sgnL
    rw [if_neg h]
    generalize decL n.natAbs = L at hD ⊢
    have w1 : IntKind.u64.wrap n = n := u64_in _ (by omega) (by omega)
    have HD := Lib.hid hD
    clear hD
    go_enter Tryz.func10, Tryz.ntmps10
    go_wp2_with fail
    (with_reducible refine HD.out.mono ?_)
    rintro e w' ⟨rfl, hg⟩
    have HG := Lib.hid hg
    clear hg HD
    go_wp2
    go_ret
    exact ⟨rfl, HG.out⟩
end Go.Proofs.YtlfeolfjlmelpaaGreatDoor
