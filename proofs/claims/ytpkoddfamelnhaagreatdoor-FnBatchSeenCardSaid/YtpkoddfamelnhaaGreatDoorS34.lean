/- Part 34 of the proof of fnBatchSeen_card. Conditions: none. -/
import Derived.Test.YtpkoddfamelnhaaGreatDoorRows
import Derived.Stop.Joined
import Derived.ProofKit
namespace Go.Proofs.YtpkoddfamelnhaaGreatDoor
open Go
set_option maxRecDepth 100000
theorem seen_facts : joinedFacts Tryz.pinned.checked.prog 3 Tryz.f3 Rows.fnBatchSeenSpec Rows.fnBatchSeenRow = true := by kernel_rfl
end Go.Proofs.YtpkoddfamelnhaaGreatDoor
