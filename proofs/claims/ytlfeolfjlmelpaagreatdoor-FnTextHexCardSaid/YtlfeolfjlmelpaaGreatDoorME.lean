/- TextScalar at a whole number of at most nineteen digits. -/
import Derived.Test.YtlfeolfjlmelpaaGreatDoorMD
import Derived.Test.YtlfeolfjlmelpaaGreatDoorMC
namespace Go.Proofs.YtlfeolfjlmelpaaGreatDoor
open Go.RowKit

theorem trun_short {l : List UInt8} (h : l.length ≤ 19) : trun l = false := by
  unfold trun
  rw [List.drop_eq_nil_of_le h]; rfl
theorem mant_le64 {l : List UInt8} (h : ∀ y ∈ l, isDig y) : mant l ≤ 18446744073709551615 := Nat.le_trans (mant_lt l h) (by decide)

theorem float_pos {w : World} (x : UInt8) (r : List UInt8) (hx : 49 ≤ x.toNat ∧ x.toNat ≤ 57) (hr : ∀ y ∈ x :: r, isDig y) (hl : (x :: r).length ≤ 19) (hF : HasF w) :
    Calls Tryz.prog 100 #[.string ⟨(x :: r).toArray⟩, .int .i64 64] w (FlEnds w) := by
  refine parseFloat_of _ ?_
  refine atof64_plain _ (mant (x :: r)) 0 _ false (mant_le64 hr) (by decide) (.inl rfl) hF (special_digit x r ⟨by omega, hx.2⟩) ((readFloat_pos x r (by omega) hx hr).mono ?_)
  rintro e w' ⟨rfl, rfl⟩
  refine ⟨?_, rfl⟩
  rw [trun_short hl, Nat.min_eq_left hl, Int.sub_self]
  rfl
theorem float_neg {w : World} (x : UInt8) (r : List UInt8) (hx : 49 ≤ x.toNat ∧ x.toNat ≤ 57) (hr : ∀ y ∈ x :: r, isDig y) (hl : (x :: r).length ≤ 19) (hF : HasF w) :
    Calls Tryz.prog 100 #[.string ⟨(45 :: x :: r).toArray⟩, .int .i64 64] w (FlEnds w) := by
  refine parseFloat_of _ ?_
  refine atof64_plain _ (mant (x :: r)) 0 _ true (mant_le64 hr) (by decide) (.inl rfl) hF (special_neg x r ⟨by omega, hx.2⟩) ((readFloat_neg x r (by omega) hx hr).mono ?_)
  rintro e w' ⟨rfl, rfl⟩
  refine ⟨?_, rfl⟩
  rw [trun_short hl, Nat.min_eq_left hl, Int.sub_self]
  rfl
theorem float_zero {w : World} (hF : HasF w) : Calls Tryz.prog 100 #[.string ⟨#[48]⟩, .int .i64 64] w (FlEnds w) := by
  refine parseFloat_of _ ?_
  refine atof64_plain _ 0 0 _ false (by decide) (by decide) (.inl rfl) hF (special_digit 48 [] (by decide)) ((readFloat_lead [] (by decide) (fun h => absurd h (by decide)) (fun y hy => by cases hy)).mono ?_)
  rintro e w' ⟨rfl, rfl⟩
  exact ⟨rfl, rfl⟩

theorem scalar_zero {w : World} {A : Option Addr} {c : Nat} (h : IsB w A c [48]) (hE : ErrVar 1 w) (hF : HasF w) :
    Calls Tryz.prog 9 #[.slice A ([48] : List UInt8).length c] w (ScalarEnds w [48] (NumVals 0)) := by
  refine textScalar_num (k := 0) (neg := false) h (by decide) (by decide) (by unfold Plain; decide) (by decide) (fun w1 A1 c1 h1 => parseIdent_no h1 (by unfold isAl; decide) (by decide) true)
    (fun w1 A1 c1 h1 => parseNumber_zero h1) _ (NumVals.shape 0) (fun w1 p s0 hg => ?_)
  exact numVals_0 48 [] 0 (by decide) (by decide) (hE.kept hg) (by decide) (fun _ => pu0_64) (fun _ => pu0_32)
    (fun p s0 w2 hg2 => tokFloat64 0 p s0 _ (fun w3 hg3 => float_zero (((hF.kept hg).kept hg2).kept hg3)))
    (fun p s0 w2 hg2 => tokFloat32 0 p s0 _ (fun w3 hg3 => float_zero (((hF.kept hg).kept hg2).kept hg3))) p s0

theorem dig_facts {x : UInt8} (hx : 48 ≤ x.toNat ∧ x.toNat ≤ 57) : (Plain x ∧ x.toNat ≠ 123 ∧ x.toNat ≠ 60 ∧ x.toNat ≠ 91) ∧ (x.toNat ≠ 34 ∧ x.toNat ≠ 39) ∧ ¬ isAl x ∧ x.toNat ≠ 45 ∧ x.toNat ≠ 43 := by
  unfold Plain isAl
  refine ⟨⟨⟨?_, ?_, ?_, ?_, ?_⟩, ?_, ?_, ?_⟩, ⟨?_, ?_⟩, ?_, ?_, ?_⟩ <;> omega

/-- A decimal number without a sign. -/
theorem scalar_dec {w : World} {A : Option Addr} {c : Nat} (x : UInt8) (r : List UInt8) (h : IsB w A c (x :: r)) (hx : 49 ≤ x.toNat ∧ x.toNat ≤ 57) (hr : ∀ y ∈ x :: r, isDig y) (hl : (x :: r).length ≤ 4095) (hv : val 10 0 (x :: r) ≤ 18446744073709551615)
    (hE : ErrVar 1 w) (hF : ∀ w1, w.grownBy w1 none → Calls Tryz.prog 100 #[.string ⟨(x :: r).toArray⟩, .int .i64 64] w1 (FlEnds w1)) :
    Calls Tryz.prog 9 #[.slice A (x :: r).length c] w (ScalarEnds w (x :: r) (NumVals (val 10 0 (x :: r) : Nat))) := by
  obtain ⟨d1, d2, d3, d4, d5⟩ := dig_facts (x := x) ⟨by omega, hx.2⟩
  refine textScalar_num (k := 0) (neg := false) h (by omega) (by decide) d1 d2 (fun w1 A1 c1 h1 => parseIdent_no h1 d3 d4 true)
    (fun w1 A1 c1 h1 => parseNumber_dec h1 hx (fun y hy => hr y (by simp [hy]))) _ (NumVals.shape _) (fun w1 p s0 hg => ?_)
  have hB : ∀ y ∈ x :: r, digB 10 y := fun y hy => isDig_digB (hr y hy)
  exact numVals_0 x r _ ⟨d5, d4⟩ (by omega) (hE.kept hg) hv (fun w1 => pu10_64 x r (by omega) hx hB) (fun w1 => pu10_32 x r (by omega) hx hB)
    (fun p s0 w2 hg2 => tokFloat64 0 p s0 _ (fun w3 hg3 => hF w3 (gr_trans (gr_trans hg hg2) hg3)))
    (fun p s0 w2 hg2 => tokFloat32 0 p s0 _ (fun w3 hg3 => hF w3 (gr_trans (gr_trans hg hg2) hg3))) p s0
/-- A decimal number with a minus. -/
theorem scalar_neg {w : World} {A : Option Addr} {c : Nat} (x : UInt8) (r : List UInt8) (h : IsB w A c (45 :: x :: r)) (hx : 49 ≤ x.toNat ∧ x.toNat ≤ 57) (hr : ∀ y ∈ x :: r, isDig y) (hl : (x :: r).length ≤ 4090) (hv : 1 ≤ val 10 0 (x :: r))
    (hE : ErrVar 1 w) (hE7 : ErrVar 7 w) (hF : ∀ w1, w.grownBy w1 none → Calls Tryz.prog 100 #[.string ⟨(45 :: x :: r).toArray⟩, .int .i64 64] w1 (FlEnds w1)) :
    Calls Tryz.prog 9 #[.slice A (45 :: x :: r).length c] w (ScalarEnds w (45 :: x :: r) (NumVals (-(val 10 0 (x :: r) : Nat)))) := by
  obtain ⟨d1, d2, d3, d4, d5⟩ := dig_facts (x := x) ⟨by omega, hx.2⟩
  have hl2 : (45 :: x :: r).length ≤ 4091 := by simp only [List.length_cons] at hl ⊢; omega
  refine textScalar_num (k := 0) (neg := true) h (by omega) (by decide) (by unfold Plain; decide) (by decide) (fun w1 A1 c1 h1 => parseIdent_neg h1 d3)
    (fun w1 A1 c1 h1 => parseNumber_neg h1 hx (fun y hy => hr y (by simp [hy]))) _ (NumVals.shape _) (fun w1 p s0 hg => ?_)
  have hB : ∀ y ∈ x :: r, digB 10 y := fun y hy => isDig_digB (hr y hy)
  exact numVals_128 x r _ (by omega) (hE.kept hg) (hE7.kept hg) hv (fun w1 => pu10_64 x r (by omega) hx hB) (fun w1 => pu10_32 x r (by omega) hx hB)
    (fun p s0 w2 hg2 => tokFloat64 128 p s0 _ (fun w3 hg3 => hF w3 (gr_trans (gr_trans hg hg2) hg3)))
    (fun p s0 w2 hg2 => tokFloat32 128 p s0 _ (fun w3 hg3 => hF w3 (gr_trans (gr_trans hg hg2) hg3))) p s0

theorem scalar_int (n : Int) (h0 : -9223372036854775808 ≤ n) (h1 : n ≤ 9223372036854775807) {w : World} {A : Option Addr} {c : Nat} (h : IsB w A c (sgnL n)) (hE : ErrVar 1 w) (hE7 : ErrVar 7 w) (hF : HasF w) :
    Calls Tryz.prog 9 #[.slice A (sgnL n).length c] w (ScalarEnds w (sgnL n) (NumVals n)) := by
  have hlen : (decL n.natAbs).length ≤ 19 := decL_len n.natAbs 18 (by omega)
  have hval := val_decL n.natAbs
  have hdig := decL_dig n.natAbs
  unfold sgnL at h ⊢
  by_cases hn : n < 0
  · rw [if_pos hn] at h ⊢
    obtain ⟨x, r, hxr, hx⟩ := decL_head n.natAbs (by omega)
    rw [hxr] at h hlen hval hdig ⊢
    have := scalar_neg x r h hx hdig (by omega) (by omega) hE hE7 (fun w1 hg => float_neg x r hx hdig hlen (hF.kept hg))
    rw [hval, show (-((n.natAbs : Nat) : Int)) = n by omega] at this
    exact this
  · rw [if_neg hn] at h ⊢
    by_cases hz : n = 0
    · subst hz
      rw [show decL (Int.natAbs 0) = [48] from decL_small (by decide)] at h ⊢
      exact scalar_zero h hE hF
    · obtain ⟨x, r, hxr, hx⟩ := decL_head n.natAbs (by omega)
      rw [hxr] at h hlen hval hdig ⊢
      have := scalar_dec x r h hx hdig (by omega) (by omega) hE (fun w1 hg => float_pos x r hx hdig hlen (hF.kept hg))
      rw [hval, show ((n.natAbs : Nat) : Int) = n by omega] at this
      exact this
end Go.Proofs.YtlfeolfjlmelpaaGreatDoor
