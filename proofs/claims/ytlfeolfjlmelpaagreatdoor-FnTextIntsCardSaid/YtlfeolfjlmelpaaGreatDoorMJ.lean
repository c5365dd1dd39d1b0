/- laws.FnTextInts: the tied card: for every whole number of 64 bits the call returns true and the argument reads as it did. Conditions: those of the row alone (the listed package-level variables start as the program's text lays them). -/
import Derived.Test.YtlfeolfjlmelpaaGreatDoorMH
import Derived.Test.YtlfeolfjlmelpaaGreatDoorMI
namespace Go.Proofs.YtlfeolfjlmelpaaGreatDoor.Ints
open Go Go.ChangeShapes Go.WideShapes Go.ChangeAt Go.RowKit Go.Lib

theorem holds : Rows.fnTextIntsRow.holds Tryz.pinned (OpenSpec.ofChange Rows.fnTextIntsSpec) :=
  OpenClaim.holds_of_wide 4 Tryz.f4 rfl rfl rfl rfl rfl rfl rfl ⟨rfl, rfl, rfl, rfl, rfl⟩ rfl rfl rfl rfl rfl c_named Tryz.func4 c_facts c_inst c_wrap
    (fun os started H enc _ => lifted os started H enc)

theorem card_holds : Rows.FnTextIntsCardSaid :=
  Claim7.holds_tied_plain_at .later [] _ true _ true holds (fun _ h => by cases h) c_wf (fun _ h => by cases h) fnTextInts_row_tie rfl ⟨rfl, rfl⟩ c_main rfl
    (fun f fn hf hfn => by
      obtain rfl : f = 4 := Option.some.inj (c_named.symm.trans hf) |>.symm
      obtain rfl : fn = Tryz.f4 := (Option.some.inj (Tryz.func4.symm.trans hfn)).symm
      exact ⟨c_looks, fun j t ht => by
        rw [Tryz.params4] at ht
        have hm : t ∈ [2] := by simpa using Array.mem_of_getElem? ht
        have hall : ([2].all fun u => !Tryz.prog.wantsStandIn u) = true := by kernel_rfl
        exact (show Tryz.prog.wantsStandIn t = false by simpa using List.all_eq_true.1 hall t hm)⟩)
    c_goes
#print axioms card_holds
end Go.Proofs.YtlfeolfjlmelpaaGreatDoor.Ints
