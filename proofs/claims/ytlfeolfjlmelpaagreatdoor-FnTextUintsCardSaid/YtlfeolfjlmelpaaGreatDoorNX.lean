/- laws.FnTextUints: the tied card: for every whole number of 64 bits without a sign the call returns true and the argument reads as it did. Conditions: those of the row alone (the listed package-level variables start as the program's text lays them). -/
import Derived.Test.YtlfeolfjlmelpaaGreatDoorNV
import Derived.Test.YtlfeolfjlmelpaaGreatDoorNW
namespace Go.Proofs.YtlfeolfjlmelpaaGreatDoor.Uints
open Go Go.ChangeShapes Go.WideShapes Go.ChangeAt Go.RowKit Go.Lib

theorem holds : Rows.fnTextUintsRow.holds Tryz.pinned (OpenSpec.ofChange Rows.fnTextUintsSpec) :=
  OpenClaim.holds_of_wide 5 Tryz.f5 rfl rfl rfl rfl rfl rfl rfl ⟨rfl, rfl, rfl, rfl, rfl⟩ rfl rfl rfl rfl rfl c_named Tryz.func5 c_facts c_inst c_wrap
    (fun os started H enc _ => lifted os started H enc)

theorem card_holds : Rows.FnTextUintsCardSaid :=
  Claim7.holds_tied_plain_at .later [] _ true _ true holds (fun _ h => by cases h) c_wf (fun _ h => by cases h) fnTextUints_row_tie rfl ⟨rfl, rfl⟩ c_main rfl
    (fun f fn hf hfn => by
      obtain rfl : f = 5 := Option.some.inj (c_named.symm.trans hf) |>.symm
      obtain rfl : fn = Tryz.f5 := (Option.some.inj (Tryz.func5.symm.trans hfn)).symm
      exact ⟨c_looks, fun j t ht => by
        rw [Tryz.params5] at ht
        have hm : t ∈ [22] := by simpa using Array.mem_of_getElem? ht
        have hall : ([22].all fun u => !Tryz.prog.wantsStandIn u) = true := by kernel_rfl
        exact (show Tryz.prog.wantsStandIn t = false by simpa using List.all_eq_true.1 hall t hm)⟩)
    c_goes
#print axioms card_holds
end Go.Proofs.YtlfeolfjlmelpaaGreatDoor.Uints
