/- internal/strconv.atof64 at a decimal number that is not cut off. -/
import Derived.Test.YtlfeolfjlmelpaaGreatDoorKV
import Derived.Test.YtlfeolfjlmelpaaGreatDoorKT
namespace Go.Proofs.YtlfeolfjlmelpaaGreatDoor
open Go.RowKit

set_option maxHeartbeats 2000000 in
set_option maxRecDepth 1000000 in
theorem exact_any {w : World} (d p : Nat) (neg : Bool) (hc : p = 0 ∨ 4503599627370496 ≤ d) (h13 : w.cell? ⟨13, 0, none⟩ = some (.int .u64 52)) :
    Calls Tryz.prog 252 #[.int .u64 d, .int .i64 p, .bool neg] w fun e w' => (∃ f ok, e = .returned (.tuple #[.float .f64 f, .bool ok])) ∧ w' = w := by
  by_cases hd : 4503599627370496 ≤ d
  · have hq : ((d : Int) / 4503599627370496 != 0) = true := by
      have : ((d : Int) / 4503599627370496 == 0) = false := beq_eq_false_iff_ne.2 (by omega)
      rw [bne, this]; rfl
    clear hc
    go_enter Tryz.func252, Tryz.ntmps252
    go_wp2
    go_ret2
    exact ⟨⟨_, _, rfl⟩, rfl⟩
  · have hq : ((d : Int) / 4503599627370496 != 0) = false := by
      have : ((d : Int) / 4503599627370496 == 0) = true := beq_iff_eq.2 (by omega)
      rw [bne, this]; rfl
    obtain rfl : p = 0 := by omega
    clear hc
    have hneg : ∀ f, ∃ g, ∀ w, (Op.unary UnOp.neg (Value.float FloatKind.f64 f)).run Tryz.prog w = .ok (.float .f64 g) w := fun f => ⟨_, fun _ => rfl⟩
    obtain ⟨G, hG⟩ := hneg (floatOfInt FloatKind.f64 (d : Int))
    clear hneg
    cases neg
    all_goals (
      go_enter Tryz.func252, Tryz.ntmps252
      go_wp2
      go_ret2
      exact ⟨⟨_, _, rfl⟩, rfl⟩)
end Go.Proofs.YtlfeolfjlmelpaaGreatDoor
