/- laws.FnTextHex: the closed facts of its row. -/
import Derived.Test.YtlfeolfjlmelpaaGreatDoorRows
import Derived.Test.YtlfeolfjlmelpaaGreatDoorCards
import Derived.ProofKit
import Derived.SevenTiedAt
namespace Go.Proofs.YtlfeolfjlmelpaaGreatDoor.Hex
open Go Go.ChangeShapes Go.WideShapes Go.ChangeAt Go.RowKit
theorem c_named : Tryz.pinned.checked.prog.funcNamed Rows.fnTextHexRow.func = some 3 := by kernel_rfl
theorem c_facts : joinedFacts Tryz.pinned.checked.prog 3 Tryz.f3 Rows.fnTextHexSpec Rows.fnTextHexRow = true := by kernel_rfl
theorem c_inst : Tryz.f3.isInstance Tryz.pinned.checked.prog Rows.fnTextHexRow.origin Rows.fnTextHexRow.targs := of_decide_eq_true (by kernel_rfl)
theorem c_wrap : Tryz.f3.isWrapper Tryz.pinned.checked.prog Rows.fnTextHexRow.wrapper Rows.fnTextHexRow.mainSum := by unfold Func.isWrapper; first | (rw [if_pos (by decide +kernel)]; kernel_rfl) | (rw [if_neg (by decide +kernel)]; exact ⟨rfl, rfl⟩)
theorem c_wf : Rows.fnTextHexRow.wfByText (OpenSpec.ofChange Rows.fnTextHexSpec) = true := by kernel_rfl
theorem c_goes : false = Rows.fnTextHexRow.goesBy Tryz.pinned.checked.prog := by kernel_rfl
theorem c_looks : true = Tryz.pinned.checked.prog.looks [] := by kernel_rfl
theorem c_main : Tryz.pinned.checked.prog.mainIs = some (Rows.fnTextHexCard.stood.harness.1, Rows.fnTextHexCard.stood.harness.2.toList) := by kernel_rfl
end Go.Proofs.YtlfeolfjlmelpaaGreatDoor.Hex
