/- internal/strconv.atof64 at a decimal number that is not cut off. -/
import Derived.Test.YtlfeolfjlmelpaaGreatDoorKW
namespace Go.Proofs.YtlfeolfjlmelpaaGreatDoor
open Go.RowKit

/-- What the float reader's tables hold. -/
def HasF (w : World) : Prop := HasP10 w ∧ w.cell? ⟨13, 0, none⟩ = some (.int .u64 52) ∧ w.cell? ⟨12, 0, none⟩ = some (.bool true)
theorem HasF.kept {w w' : World} (h : HasF w) (hg : w.grownBy w' none) : HasF w' := ⟨h.1.kept hg, gr_cell hg h.2.1, gr_cell hg h.2.2⟩

set_option maxHeartbeats 4000000 in
set_option maxRecDepth 1000000 in
theorem atof64_plain {w : World} (s : ByteArray) (d p : Nat) (n : Int) (neg : Bool) (hd2 : d ≤ 18446744073709551615) (hp : p ≤ 22) (hc : p = 0 ∨ 4503599627370496 ≤ d) (hF : HasF w)
    (hS : Calls Tryz.prog 241 #[.string s] w fun e w' => e = .returned (.tuple #[.float .f64 0, .int .i64 0, .bool false]) ∧ w' = w)
    (hR : Calls Tryz.prog 242 #[.string s] w fun e w' => e = .returned (.tuple #[.int .u64 d, .int .i64 p, .bool neg, .bool false, .bool false, .int .i64 n, .bool true]) ∧ w' = w) :
    Calls Tryz.prog 220 #[.string s] w fun e w' => ∃ f, e = .returned (.tuple #[.float .f64 f, .int .i64 n, .nilIface]) ∧ w.grownBy w' none := by
  have hrun : ∀ n w, (Extern.MathFloatBits.float64frombits #[.int .u64 n]).run Tryz.prog w = .ok (.float .f64 n.toNat) w := fun _ _ => rfl
  obtain ⟨hP, h13, h12⟩ := hF
  have HX := Lib.hid (@exact_any w d p neg hc h13)
  have HS := Lib.hid hS
  have HR := Lib.hid hR
  have HPF := Lib.hid (fun sg h1 => @parseFloat64_any w d p sg h1 hd2 hp hP)
  have HG := Lib.hid (gr_refl w none)
  have HRun := Lib.hid hrun
  clear hS hR hP h13 hc hrun
  go_enter Tryz.func220, Tryz.ntmps220
  go_wp2_with fail
  refine HS.out.mono ?_
  rintro e w' ⟨rfl, rfl⟩
  go_wp2_with fail
  refine HR.out.mono ?_
  rintro e w' ⟨rfl, rfl⟩
  go_wp2_with fail
  refine (bool2u _ _).mono ?_
  rintro e w' ⟨rfl, rfl⟩
  by_cases h0 : d = 0
  · subst h0
    go_wp2_with fail
    rw [run_callFunc_extern Tryz.func251 (by kernel_rfl) (by kernel_rfl) (by kernel_rfl) (e := Extern.MathFloatBits.float64frombits) (by kernel_rfl)]
    rw [HRun.out]
    simp only [Result.andThen]
    rw [Oper.upon_value]
    go_wp2
    go_ret3
    exact ⟨_, rfl, HG.out⟩
  · have h01 : ((d : Int) == 0) = false := beq_eq_false_iff_ne.2 (by omega)
    have h02 : 1 ≤ d := by omega
    clear h0
    go_wp2_with fail
    refine HX.out.mono ?_
    rintro e w' ⟨⟨f, ok, rfl⟩, rfl⟩
    cases ok
    · go_wp2_with fail
      refine (HPF.out _ h02).mono ?_
      rintro e w' ⟨f2, rfl, hg⟩
      have HG2 := Lib.hid hg
      clear hg
      go_wp2
      go_ret3
      exact ⟨_, rfl, HG2.out⟩
    · go_wp2
      go_ret3
      exact ⟨_, rfl, HG.out⟩

set_option maxHeartbeats 1000000 in
set_option maxRecDepth 1000000 in
theorem parseFloat_of {w : World} (s : ByteArray)
    (hA : Calls Tryz.prog 220 #[.string s] w fun e w' => ∃ f, e = .returned (.tuple #[.float .f64 f, .int .i64 (s.size : Nat), .nilIface]) ∧ w.grownBy w' none) :
    Calls Tryz.prog 100 #[.string s, .int .i64 64] w (FlEnds w) := by
  have h194 : Calls Tryz.prog 194 #[.string s, .int .i64 64] w fun e w' => ∃ f, e = .returned (.tuple #[.float .f64 f, .int .i64 (s.size : Nat), .nilIface]) ∧ w.grownBy w' none := by
    have HA := Lib.hid hA
    clear hA
    go_enter Tryz.func194, Tryz.ntmps194
    go_wp2_with fail
    refine HA.out.mono ?_
    rintro e w' ⟨f, rfl, hg⟩
    have HG := Lib.hid hg
    clear hg HA
    go_wp2
    go_ret3
    exact ⟨_, rfl, HG.out⟩
  have h148 : Calls Tryz.prog 148 #[.string s, .int .i64 64] w (FlEnds w) := by
    have HA := Lib.hid h194
    clear hA h194
    go_enter Tryz.func148, Tryz.ntmps148
    go_wp2_with fail
    refine HA.out.mono ?_
    rintro e w' ⟨f, rfl, hg⟩
    have HG := Lib.hid hg
    clear hg HA
    go_wp2
    go_ret2
    exact ⟨_, rfl, HG.out⟩
  have HA := Lib.hid h148
  clear hA h194 h148
  go_enter Tryz.func100, Tryz.ntmps100
  go_wp2_with fail
  refine HA.out.mono ?_
  rintro e w' ⟨f, rfl, hg⟩
  have HG := Lib.hid hg
  clear hg HA
  go_wp2
  go_ret2
  exact ⟨_, rfl, HG.out⟩
end Go.Proofs.YtlfeolfjlmelpaaGreatDoor
