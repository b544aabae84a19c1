/- Part 31 of the proof of fnBatchHistory_card. Conditions: none. -/
import Derived.Test.YtpkoddfamelnhaaGreatDoorRows
import Derived.Stop.Joined
import Derived.ProofKit
set_option linter.unusedVariables false
set_option linter.unusedSimpArgs false
namespace Go.Proofs.YtpkoddfamelnhaaGreatDoor
open Go
set_option maxRecDepth 100000
theorem hist_facts :joinedFacts Tryz.pinned.checked.prog 5 Tryz.f5 Rows.fnBatchHistorySpec Rows.fnBatchHistoryRow=true:=by kernel_rfl
end Go.Proofs.YtpkoddfamelnhaaGreatDoor
