/- laws.FnTextInts: the closed facts of its row. -/
import Derived.Test.YtlfeolfjlmelpaaGreatDoorRows
import Derived.Test.YtlfeolfjlmelpaaGreatDoorCards
import Derived.ProofKit
import Derived.SevenTiedAt
namespace Go.Proofs.YtlfeolfjlmelpaaGreatDoor.Ints
open Go Go.ChangeShapes Go.WideShapes Go.ChangeAt Go.RowKit
theorem c_named : Tryz.pinned.checked.prog.funcNamed Rows.fnTextIntsRow.func = some 4 := by kernel_rfl
theorem c_facts : joinedFacts Tryz.pinned.checked.prog 4 Tryz.f4 Rows.fnTextIntsSpec Rows.fnTextIntsRow = true := by kernel_rfl
theorem c_inst : Tryz.f4.isInstance Tryz.pinned.checked.prog Rows.fnTextIntsRow.origin Rows.fnTextIntsRow.targs := of_decide_eq_true (by kernel_rfl)
theorem c_wrap : Tryz.f4.isWrapper Tryz.pinned.checked.prog Rows.fnTextIntsRow.wrapper Rows.fnTextIntsRow.mainSum := by unfold Func.isWrapper; first | (rw [if_pos (by decide +kernel)]; kernel_rfl) | (rw [if_neg (by decide +kernel)]; exact ⟨rfl, rfl⟩)
theorem c_wf : Rows.fnTextIntsRow.wfByText (OpenSpec.ofChange Rows.fnTextIntsSpec) = true := by kernel_rfl
theorem c_goes : false = Rows.fnTextIntsRow.goesBy Tryz.pinned.checked.prog := by kernel_rfl
theorem c_looks : true = Tryz.pinned.checked.prog.looks [] := by kernel_rfl
theorem c_main : Tryz.pinned.checked.prog.mainIs = some (Rows.fnTextIntsCard.stood.harness.1, Rows.fnTextIntsCard.stood.harness.2.toList) := by kernel_rfl
end Go.Proofs.YtlfeolfjlmelpaaGreatDoor.Ints
