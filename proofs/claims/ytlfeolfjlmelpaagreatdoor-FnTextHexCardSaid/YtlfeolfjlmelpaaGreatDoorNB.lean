/- internal/strconv.trim. -/
import Derived.Test.YtlfeolfjlmelpaaGreatDoorNA
import Derived.Test.YtlfeolfjlmelpaaGreatDoorKO
namespace Go.Proofs.YtlfeolfjlmelpaaGreatDoor
open Go.RowKit

def TrimRel (w : World) (g : Nat) (ds : Nat → Nat) (nd : Nat) (dp : Int) (ng tr : Bool) (k : Nat) (wr : World) : Prop :=
  k ≤ nd ∧ IsD wr g ds (k : Nat) dp ng tr ∧ (∀ i, k ≤ i → i < nd → ds i = 48) ∧ w.grownBy wr (some g)
def TrimEnds (w : World) (g : Nat) (ds : Nat → Nat) (nd : Nat) (dp : Int) (ng tr : Bool) (e : Ending) (w' : World) : Prop :=
  e = .returned (.tuple #[]) ∧ ∃ k : Nat, k ≤ nd ∧ IsD w' g ds (k : Nat) (if k = 0 then 0 else dp) ng tr ∧ (0 < k → ds (k - 1) ≠ 48) ∧ (∀ i, k ≤ i → i < nd → ds i = 48) ∧ w.grownBy w' (some g)

set_option maxHeartbeats 2000000 in
set_option maxRecDepth 1000000 in
theorem trim_of {w : World} {g : Nat} {ds : Nat → Nat} {nd : Nat} {dp : Int} {ng tr : Bool} (h : IsD w g ds (nd : Nat) dp ng tr) (hnd : nd ≤ 800) :
    Calls Tryz.prog 288 #[.pointer (some ⟨g, 0, none⟩)] w (TrimEnds w g ds nd dp ng tr) := by
  have H := Lib.hid h
  clear h
  go_enter Tryz.func288, Tryz.ntmps288
  go_wp2_with fail
  go_loopg [] nd (fun k wr => TrimRel w g ds nd dp ng tr k wr)
  case atStart => exact ⟨Nat.le_refl _, H.out, fun i h1 h2 => by omega, gr_refl _ _⟩
  case round =>
    obtain ⟨hk, hD, hz, hg⟩ := hrel
    have c800 := hD.cnd
    have c801 := hD.cdp
    have HD := Lib.hid hD
    have HZ := Lib.hid hz
    have HG := Lib.hid hg
    have hfr := hD.free 800
    have hfr1 := hD.free 801
    by_cases h0 : gk = 0
    · subst h0
      clear hD hz hg
      go_wp2_with fail
      go_quiet (fail)
      go_wp2
      go_end0
      exact ⟨rfl, 0, Nat.zero_le _, (HD.out.kept (gr_drewN (gr_refl _ _) _)).setDp 0, fun h => absurd h (by decide), fun i _ h2 => HZ.out i (Nat.zero_le _) h2, gr_set (gr_drewN HG.out _) (.inr rfl) _⟩
    · have hd : decide (0 < gk) = true := decide_eq_true (by omega)
      have cd := hD.d (gk - 1) (by omega)
      have hw : IntKind.i64.wrap ((gk : Int) - 1) = (gk : Int) - 1 := i64_in _ (by omega) (by omega)
      have hn : ((gk : Int) - 1).toNat = gk - 1 := by omega
      have i0 : (0 : Int) ≤ (gk : Int) - 1 := by omega
      have i1 : (gk : Int) - 1 < 800 := by omega
      clear hD hz hg
      by_cases h48 : ds (gk - 1) = 48
      · rw [h48] at cd
        have H48 := Lib.hid h48
        clear h48
        go_wp2_with fail
        go_quiet (fail)
        go_wp2
        go_roundg (gk - 1)
        case measure => omega
        case rel =>
          have e1 : ((gk - 1 : Nat) : Int) = (gk : Int) - 1 := by omega
          refine ⟨by omega, ?_, fun i h1 h2 => ?_, gr_set (gr_drewN HG.out _) (.inr rfl) _⟩
          · rw [e1]; exact (HD.out.kept (gr_drewN (gr_refl _ _) _)).setNd _
          · by_cases hi : i = gk - 1
            · rw [hi]; exact H48.out
            · exact HZ.out i (by omega) h2
      · have hb : (((ds (gk - 1) : Nat) : Int) == 48) = false := beq_eq_false_iff_ne.2 (by omega)
        have H48 := Lib.hid h48
        clear h48
        go_wp2_with fail
        go_quiet (fail)
        go_wp2
        go_end0
        refine ⟨rfl, gk, hk, ?_, fun _ => H48.out, HZ.out, gr_drewN HG.out _⟩
        rw [if_neg h0]
        exact HD.out.kept (gr_drewN (gr_refl _ _) _)
end Go.Proofs.YtlfeolfjlmelpaaGreatDoor
