/- laws.FnTextJoined: the tied card: for every list of strings and every list of bytes the call returns true and the arguments read as they did. Conditions: those of the row alone (the listed package-level variables start as the program's text lays them). -/
import Derived.Test.YtlfeolfjlmelpaaGreatDoorPU
import Derived.Test.YtlfeolfjlmelpaaGreatDoorPV
namespace Go.Proofs.YtlfeolfjlmelpaaGreatDoor.Joined
open Go Go.ChangeShapes Go.WideShapes Go.ChangeAt Go.RowKit Go.Lib

theorem holds : Rows.fnTextJoinedRow.holds Tryz.pinned (OpenSpec.ofChange Rows.fnTextJoinedSpec) :=
  OpenClaim.holds_of_wide 6 Tryz.f6 rfl rfl rfl rfl rfl rfl rfl ⟨rfl, rfl, rfl, rfl, rfl⟩ rfl rfl rfl rfl rfl c_named Tryz.func6 c_facts c_inst c_wrap
    (fun os started H enc _ => lifted os started H enc)

theorem card_holds : Rows.FnTextJoinedCardSaid :=
  Claim7.holds_tied_plain_at .later [] _ true _ true holds (fun _ h => by cases h) c_wf (fun _ h => by cases h) fnTextJoined_row_tie rfl ⟨rfl, rfl⟩ c_main rfl
    (fun f fn hf hfn => by
      obtain rfl : f = 6 := Option.some.inj (c_named.symm.trans hf) |>.symm
      obtain rfl : fn = Tryz.f6 := (Option.some.inj (Tryz.func6.symm.trans hfn)).symm
      exact ⟨c_looks, fun j t ht => by
        rw [Tryz.params6] at ht
        have hm : t ∈ [34, 28] := by simpa using Array.mem_of_getElem? ht
        have hall : ([34, 28].all fun u => !Tryz.prog.wantsStandIn u) = true := by kernel_rfl
        exact (show Tryz.prog.wantsStandIn t = false by simpa using List.all_eq_true.1 hall t hm)⟩)
    c_goes
#print axioms card_holds
end Go.Proofs.YtlfeolfjlmelpaaGreatDoor.Joined
