/- laws.FnTextJoined: the closed facts of its row. -/
import Derived.Test.YtlfeolfjlmelpaaGreatDoorRows
import Derived.Test.YtlfeolfjlmelpaaGreatDoorCards
import Derived.ProofKit
import Derived.SevenTiedAt
namespace Go.Proofs.YtlfeolfjlmelpaaGreatDoor.Joined
open Go Go.ChangeShapes Go.WideShapes Go.ChangeAt Go.RowKit
theorem c_named : Tryz.pinned.checked.prog.funcNamed Rows.fnTextJoinedRow.func = some 6 := by kernel_rfl
theorem c_facts : joinedFacts Tryz.pinned.checked.prog 6 Tryz.f6 Rows.fnTextJoinedSpec Rows.fnTextJoinedRow = true := by kernel_rfl
theorem c_inst : Tryz.f6.isInstance Tryz.pinned.checked.prog Rows.fnTextJoinedRow.origin Rows.fnTextJoinedRow.targs := of_decide_eq_true (by kernel_rfl)
theorem c_wrap : Tryz.f6.isWrapper Tryz.pinned.checked.prog Rows.fnTextJoinedRow.wrapper Rows.fnTextJoinedRow.mainSum := by unfold Func.isWrapper; first | (rw [if_pos (by decide +kernel)]; kernel_rfl) | (rw [if_neg (by decide +kernel)]; exact ⟨rfl, rfl⟩)
theorem c_wf : Rows.fnTextJoinedRow.wfByText (OpenSpec.ofChange Rows.fnTextJoinedSpec) = true := by kernel_rfl
theorem c_goes : false = Rows.fnTextJoinedRow.goesBy Tryz.pinned.checked.prog := by kernel_rfl
theorem c_looks : true = Tryz.pinned.checked.prog.looks [] := by kernel_rfl
theorem c_main : Tryz.pinned.checked.prog.mainIs = some (Rows.fnTextJoinedCard.stood.harness.1, Rows.fnTextJoinedCard.stood.harness.2.toList) := by kernel_rfl
end Go.Proofs.YtlfeolfjlmelpaaGreatDoor.Joined
