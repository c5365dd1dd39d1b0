/- (*internal/strconv.decimal).Shift to the right, by any count. -/
import Derived.Test.YtlfeolfjlmelpaaGreatDoorNI
namespace Go.Proofs.YtlfeolfjlmelpaaGreatDoor
open Go.RowKit

/-- Block g is a decimal in order, its point between lo and hi. -/
def DSt (w0 : World) (g : Nat) (ng : Bool) (lo hi : Int) (wr : World) : Prop :=
  ∃ (es : Nat → Nat) (m : Nat) (dp : Int) (tr : Bool), IsD wr g es (m : Nat) dp ng tr ∧ 1 ≤ m ∧ m ≤ 800 ∧ Digs es m ∧ 49 ≤ es 0 ∧ lo ≤ dp ∧ dp ≤ hi ∧ w0.grownBy wr (some g)
def SEnds (w0 : World) (g : Nat) (ng : Bool) (lo hi : Int) (e : Ending) (w' : World) : Prop := e = .returned (.tuple #[]) ∧ DSt w0 g ng lo hi w'

set_option maxHeartbeats 2000000 in
set_option maxRecDepth 1000000 in
theorem shiftR_any {w : World} {g : Nat} {ng : Bool} {lo hi : Int} (n : Nat) (h : DSt w g ng lo hi w) (hn : 1 ≤ n) (hn2 : n ≤ 50000) (hlo : -20000 ≤ lo) (hhi : hi ≤ 20000) :
    Calls Tryz.prog 265 #[.pointer (some ⟨g, 0, none⟩), .int .i64 (-(n : Nat))] w (SEnds w g ng (lo - (n : Nat) - 20) hi) := by
  have H := Lib.hid h
  obtain ⟨es0, m0, dp0, tr0, a1, a2, a3, a4, a5, a6, a7, a8⟩ := h
  have c800 := a1.cnd
  have e0 : ((m0 : Int) == 0) = false := beq_eq_false_iff_ne.2 (by omega)
  obtain ⟨K, hK⟩ : ∃ K : Int, K = -(n : Int) := ⟨_, rfl⟩
  rw [← hK]
  have k1 : K ≤ -1 := by omega
  have HKK := Lib.hid hK
  have kd1 : decide (K < 0) = true := decide_eq_true (by omega)
  have kd2 : decide (0 < K) = false := decide_eq_false (by omega)
  clear a1 a4 a8 hK
  go_enter Tryz.func265, Tryz.ntmps265
  go_wp2_with fail
  go_loopg [1] n (fun gk x wr => ∃ X : Int, x = .int .i64 X ∧ Hid (X = -(gk : Int)) ∧ 1 ≤ gk ∧ gk ≤ n ∧ DSt w g ng (lo - ((n : Int) - (gk : Int))) hi wr)
  case atStart =>
    obtain ⟨es0, m0, dp0, tr0, b1, b2, b3, b4, b5, b6, b7, b8⟩ := H.out
    exact ⟨K, rfl, HKK, hn, Nat.le_refl _, es0, m0, dp0, tr0, b1, b2, b3, b4, b5, by omega, b7, b8⟩
  case round =>
    obtain ⟨X, rfl, hX, hg1, hgn, es, m, dp, tr, b1, b2, b3, b4, b5, b6, b7, b8⟩ := hrel
    have HG := Lib.hid b8
    by_cases h60 : 60 < gk
    · have hC : Calls Tryz.prog 290 #[.pointer (some ⟨g, 0, none⟩), .int .u64 60] wr (RSEnds wr g es 60 dp ng) := rshift_of (k := 60) b1 b3 b2 b4 b5 (by omega) (by omega) (by omega) (by omega)
      have hx1 : X < -60 := by have := hX.out; omega
      have HC := Lib.hid hC
      have hx2 : -50000 ≤ X := by have := hX.out; omega
      clear b1 b4 b8 hC c800
      go_wp2_with fail
      (with_reducible refine HC.out.mono ?_)
      rintro e W' ⟨rfl, fs, m', r, tr', f1, f2, f3, f4, f5, f6, f7, -, -, f8⟩
      have HN := Lib.hid (show DSt w g ng (lo - ((n : Int) - ((gk - 60 : Nat) : Int))) hi W' from ⟨fs, m', _, tr', f1, f2, f3, f4, f5, by omega, by omega, gr_trans HG.out f8⟩)
      clear f1 f4 f8
      go_wp2_with fail
      go_roundg (gk - 60)
      case measure => omega
      case rel => exact ⟨X + 60, rfl, (by have := hX.out; show X + 60 = -((gk - 60 : Nat) : Int); omega), by omega, by omega, HN.out⟩
    · have hC := rshift_of (k := gk) b1 b3 b2 b4 b5 hg1 (by omega) (by omega) (by omega)
      have hneg : -X = (gk : Int) := by have := hX.out; omega
      have hu : IntKind.u64.wrap (gk : Int) = (gk : Int) := u64_in _ (by omega) (by omega)
      have hx1 : -60 ≤ X := by have := hX.out; omega
      have hx2 : X ≤ -1 := by have := hX.out; omega
      have HC := Lib.hid hC
      clear b1 b4 b8 hC c800
      go_wp2_with fail
      (with_reducible refine HC.out.mono ?_)
      rintro e W' ⟨rfl, fs, m', r, tr', f1, f2, f3, f4, f5, f6, f7, -, -, f8⟩
      have HN := Lib.hid (show DSt w g ng (lo - (n : Nat) - 20) hi W' from ⟨fs, m', _, tr', f1, f2, f3, f4, f5, by omega, by omega, gr_trans HG.out f8⟩)
      clear f1 f4 f8
      go_wp2
      go_end0
      exact ⟨rfl, HN.out⟩
end Go.Proofs.YtlfeolfjlmelpaaGreatDoor
