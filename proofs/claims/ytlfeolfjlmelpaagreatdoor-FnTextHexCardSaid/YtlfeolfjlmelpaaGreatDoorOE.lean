/- laws.FnTextHex: the tied card: for every whole number of 64 bits without a sign, either base and either case of the letters the call returns true and the arguments read as they did. Conditions: those of the row alone (the listed package-level variables start as the program's text lays them). -/
import Derived.Test.YtlfeolfjlmelpaaGreatDoorOC
import Derived.Test.YtlfeolfjlmelpaaGreatDoorOD
namespace Go.Proofs.YtlfeolfjlmelpaaGreatDoor.Hex
open Go Go.ChangeShapes Go.WideShapes Go.ChangeAt Go.RowKit Go.Lib

theorem holds : Rows.fnTextHexRow.holds Tryz.pinned (OpenSpec.ofChange Rows.fnTextHexSpec) :=
  OpenClaim.holds_of_wide 3 Tryz.f3 rfl rfl rfl rfl rfl rfl rfl ⟨rfl, rfl, rfl, rfl, rfl⟩ rfl rfl rfl rfl rfl c_named Tryz.func3 c_facts c_inst c_wrap
    (fun os started H enc _ => lifted os started H enc)

theorem card_holds : Rows.FnTextHexCardSaid :=
  Claim7.holds_tied_plain_at .later [] _ true _ true holds (fun _ h => by cases h) c_wf (fun _ h => by cases h) fnTextHex_row_tie rfl ⟨rfl, rfl⟩ c_main rfl
    (fun f fn hf hfn => by
      obtain rfl : f = 3 := Option.some.inj (c_named.symm.trans hf) |>.symm
      obtain rfl : fn = Tryz.f3 := (Option.some.inj (Tryz.func3.symm.trans hfn)).symm
      exact ⟨c_looks, fun j t ht => by
        rw [Tryz.params3] at ht
        have hm : t ∈ [22, 4, 4] := by simpa using Array.mem_of_getElem? ht
        have hall : ([22, 4, 4].all fun u => !Tryz.prog.wantsStandIn u) = true := by kernel_rfl
        exact (show Tryz.prog.wantsStandIn t = false by simpa using List.all_eq_true.1 hall t hm)⟩)
    c_goes
#print axioms card_holds
end Go.Proofs.YtlfeolfjlmelpaaGreatDoor.Hex
