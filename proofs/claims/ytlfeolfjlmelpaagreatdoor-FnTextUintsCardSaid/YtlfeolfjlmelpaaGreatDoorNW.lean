/- laws.FnTextUints: the closed facts of its row. -/
import Derived.Test.YtlfeolfjlmelpaaGreatDoorRows
import Derived.Test.YtlfeolfjlmelpaaGreatDoorCards
import Derived.ProofKit
import Derived.SevenTiedAt
namespace Go.Proofs.YtlfeolfjlmelpaaGreatDoor.Uints
open Go Go.ChangeShapes Go.WideShapes Go.ChangeAt Go.RowKit
theorem c_named : Tryz.pinned.checked.prog.funcNamed Rows.fnTextUintsRow.func = some 5 := by kernel_rfl
theorem c_facts : joinedFacts Tryz.pinned.checked.prog 5 Tryz.f5 Rows.fnTextUintsSpec Rows.fnTextUintsRow = true := by kernel_rfl
theorem c_inst : Tryz.f5.isInstance Tryz.pinned.checked.prog Rows.fnTextUintsRow.origin Rows.fnTextUintsRow.targs := of_decide_eq_true (by kernel_rfl)
theorem c_wrap : Tryz.f5.isWrapper Tryz.pinned.checked.prog Rows.fnTextUintsRow.wrapper Rows.fnTextUintsRow.mainSum := by unfold Func.isWrapper; first | (rw [if_pos (by decide +kernel)]; kernel_rfl) | (rw [if_neg (by decide +kernel)]; exact ⟨rfl, rfl⟩)
theorem c_wf : Rows.fnTextUintsRow.wfByText (OpenSpec.ofChange Rows.fnTextUintsSpec) = true := by kernel_rfl
theorem c_goes : false = Rows.fnTextUintsRow.goesBy Tryz.pinned.checked.prog := by kernel_rfl
theorem c_looks : true = Tryz.pinned.checked.prog.looks [] := by kernel_rfl
theorem c_main : Tryz.pinned.checked.prog.mainIs = some (Rows.fnTextUintsCard.stood.harness.1, Rows.fnTextUintsCard.stood.harness.2.toList) := by kernel_rfl
end Go.Proofs.YtlfeolfjlmelpaaGreatDoor.Uints
