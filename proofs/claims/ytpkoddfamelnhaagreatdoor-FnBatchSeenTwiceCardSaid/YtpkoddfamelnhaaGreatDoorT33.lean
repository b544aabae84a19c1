/- Part 33 of the proof of fnBatchSeenTwice_card. Conditions: none. -/
import Derived.Test.YtpkoddfamelnhaaGreatDoorRows
import Derived.Stop.Joined
import Derived.ProofKit
set_option linter.unusedVariables false
set_option linter.unusedSimpArgs false
namespace Go.Proofs.YtpkoddfamelnhaaGreatDoor
open Go
set_option maxRecDepth 100000
theorem twice_facts : joinedFacts Tryz.pinned.checked.prog 4 Tryz.f4 Rows.fnBatchSeenTwiceSpec Rows.fnBatchSeenTwiceRow = true := by kernel_rfl
end Go.Proofs.YtpkoddfamelnhaaGreatDoor
