/- internal/strconv's uscale: it answers. -/
import Derived.Test.YtlfeolfjlmelpaaGreatDoorKK
import Derived.Test.YtlfeolfjlmelpaaGreatDoorSh
import Derived.Deep.RegionWith
namespace Go.Proofs.YtlfeolfjlmelpaaGreatDoor
open Go.RowKit

/-- A float, and no error. -/
def FlEnds (w : World) (e : Ending) (w' : World) : Prop :=
  ∃ f, e = .returned (.tuple #[.float .f64 f, .nilIface]) ∧ w.grownBy w' none

set_option maxHeartbeats 2000000 in
set_option maxRecDepth 1000000 in
theorem pack64_any {w : World} (m x : Int) (hx : -3000 ≤ x ∧ x < 972) :
    Calls Tryz.prog 282 #[.int .u64 m, .int .i64 x] w (FlEnds w) := by
  have hrun : ∀ n w, (Extern.MathFloatBits.float64frombits #[.int .u64 n]).run Tryz.prog w = .ok (.float .f64 n.toNat) w := fun _ _ => rfl
  obtain ⟨hx1, hx2⟩ := hx
  have HG := Lib.hid (gr_refl w none)
  go_enter Tryz.func282, Tryz.ntmps282
  go_wp2_with fail
  all_goals (
    rw [run_callFunc_extern Tryz.func251 (by kernel_rfl) (by kernel_rfl) (by kernel_rfl) (e := Extern.MathFloatBits.float64frombits) (by kernel_rfl)]
    rw [hrun]
    simp only [Result.andThen]
    rw [Oper.upon_value]
    go_wp2
    go_ret2
    exact ⟨_, rfl, HG.out⟩)

/-- The scaler's block. -/
def HasSc (w : World) (g : Nat) (hi lo s : Int) : Prop := w.heap[g]? = some (.cells #[.int .u64 hi, .int .u64 lo, .int .i64 s] 335 (0, 0))

/-- 1 for true. -/
def b2 (b : Bool) : Int := if b then 1 else 0
theorem bool2u (b : Bool) (w : World) : Calls Tryz.prog 250 #[.bool b] w fun e w' => e = .returned (.int .u64 (b2 b)) ∧ w' = w := by
  cases b
  all_goals (
    go_enter Tryz.func250, Tryz.ntmps250
    go_wp2
    go_ret
    simp [b2])

set_option maxHeartbeats 2000000 in
set_option maxRecDepth 1000000 in
theorem uscale_8 {w : World} (x hi lo : Nat) (g : Nat) (hx : x < 18446744073709551616) (hh : hi < 18446744073709551616) (hlo : lo < 18446744073709551616) (hs : HasSc w g hi lo 8) :
    Calls Tryz.prog 277 #[.int .u64 x, .pointer (some ⟨g, 0, none⟩)] w fun e w' => (∃ u : Int, e = .returned (.int .u64 u)) ∧ ∃ q, w' = w.drewN q := by
  have h0 := blk_cell hs 0
  have h1 := blk_cell hs 1
  have h2 := blk_cell hs 2
  have hm1 := Tryz.bits_Mul64 x hi hx hh w
  have hm2 := Tryz.bits_Mul64 x lo hx hlo w
  have hA' : x * hi / 18446744073709551616 < 18446744073709551616 := Nat.div_lt_of_lt_mul (Nat.mul_lt_mul'' hx hh)
  generalize x * hi / 18446744073709551616 = A at hm1 hA'
  generalize x * hi % 18446744073709551616 = B at hm1
  generalize x * lo / 18446744073709551616 = C at hm2
  generalize x * lo % 18446744073709551616 = D at hm2
  have HM1 := Lib.hid hm1
  have HM2 := Lib.hid hm2
  clear hm1 hm2
  have hb8 : bits BinOp.and IntKind.i64 8 63 = 8 := by decide
  go_enter Tryz.func277, Tryz.ntmps277
  go_wp2_with fail
  refine HM1.out.mono ?_
  rintro e w' ⟨rfl, rfl⟩
  clear HM1
  go_wp2_with fail
  · go_ret
    exact ⟨⟨_, rfl⟩, 0, rfl⟩
  · refine HM2.out.mono ?_
    rintro e w' ⟨rfl, rfl⟩
    clear HM2
    go_wp2_with (go_at_call 250; refine (bool2u _ _).mono ?_; rintro e w' ⟨rfl, rfl⟩)
    all_goals go_region_with (go_at_call 250; refine (bool2u _ _).mono ?_; rintro e w' ⟨rfl, rfl⟩)
    all_goals go_wp2
    all_goals (go_ret; exact ⟨⟨_, rfl⟩, 1, rfl⟩)
end Go.Proofs.YtlfeolfjlmelpaaGreatDoor
