/- FnBatchSeenTwice returns true for every input, and its arguments read behind the call as they read before. Conditions: the three sentinels that the row lists hold what the program's text lays; the card ties them. -/
import Derived.Test.YtpkoddfamelnhaaGreatDoorT32
import Derived.Test.YtpkoddfamelnhaaGreatDoorT33
import Derived.Test.YtpkoddfamelnhaaGreatDoorCards
import Derived.Test.YtpkoddfamelnhaaGreatDoorTie
import Derived.SevenTiedAt
set_option linter.unusedVariables false
set_option linter.unusedSimpArgs false
namespace Go.Proofs.YtpkoddfamelnhaaGreatDoor
open Go Go.Tr
set_option maxRecDepth 100000
theorem twice_row : Rows.FnBatchSeenTwiceSaid :=
 OpenClaim.holds_of_wide 4 Tryz.f4 rfl rfl rfl rfl rfl rfl rfl ⟨rfl, rfl, rfl, rfl, rfl⟩ rfl rfl rfl rfl rfl (by kernel_rfl) Tryz.func4 twice_facts
  (of_decide_eq_true (by kernel_rfl)) (by unfold Func.isWrapper; first | (rw [if_pos (by decide +kernel)]; kernel_rfl) | (rw [if_neg (by decide +kernel)]; exact ⟨rfl, rfl⟩))
  (fun os started H enc _ => twice_lifted os started H enc)
theorem fnBatchSeenTwice_card : Rows.FnBatchSeenTwiceCardSaid :=
 Claim7.holds_tied_plain_at .later [] [.sentinel, .sentinel, .sentinel] true (true, "85af0a34b39241749dd267ce1bfd26b3b516e4683ad2cbb4a2ab8c80e232848f") false
  twice_row (fun _ h => by cases h) (by kernel_rfl) (fun _ h => by cases h) fnBatchSeenTwice_row_tie rfl ⟨rfl, rfl⟩ (by kernel_rfl) rfl
  (fun f fn hf hfn => by
   obtain rfl : f = 4 := Option.some.inj ((show Tryz.prog.funcNamed "pub-tessella/laws.FnBatchSeenTwice" = some 4 by kernel_rfl).symm.trans hf) |>.symm
   obtain rfl : fn = Tryz.f4 := (Option.some.inj (Tryz.func4.symm.trans hfn)).symm
   exact ⟨by kernel_rfl, fun j t ht => by
    rw [Tryz.params4] at ht
    have hm : t ∈ [22, 22, 9] := by simpa using Array.mem_of_getElem? ht
    have hall : ([22, 22, 9].all fun u => !Tryz.prog.wantsStandIn u) = true := by kernel_rfl
    exact (show Tryz.prog.wantsStandIn t = false by simpa using List.all_eq_true.1 hall t hm)⟩)
  (by kernel_rfl)
end Go.Proofs.YtpkoddfamelnhaaGreatDoor
