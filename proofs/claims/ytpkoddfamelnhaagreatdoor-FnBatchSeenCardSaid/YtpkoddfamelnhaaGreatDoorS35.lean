/- FnBatchSeen returns true for every input, and its arguments read behind the call as they read before. Conditions: the three sentinels that the row lists hold what the program's text lays; the card ties them. -/
import Derived.Test.YtpkoddfamelnhaaGreatDoorS33
import Derived.Test.YtpkoddfamelnhaaGreatDoorS34
import Derived.Test.YtpkoddfamelnhaaGreatDoorCards
import Derived.Test.YtpkoddfamelnhaaGreatDoorTie
import Derived.SevenTiedAt
namespace Go.Proofs.YtpkoddfamelnhaaGreatDoor
open Go Go.Tr
set_option maxRecDepth 100000
theorem seen_row : Rows.FnBatchSeenSaid :=
 OpenClaim.holds_of_wide 3 Tryz.f3 rfl rfl rfl rfl rfl rfl rfl ⟨rfl, rfl, rfl, rfl, rfl⟩ rfl rfl rfl rfl rfl (by kernel_rfl) Tryz.func3 seen_facts
  (of_decide_eq_true (by kernel_rfl)) (by unfold Func.isWrapper; first | (rw [if_pos (by decide +kernel)]; kernel_rfl) | (rw [if_neg (by decide +kernel)]; exact ⟨rfl, rfl⟩))
  (fun os started H enc _ => seen_lifted os started H enc)
theorem fnBatchSeen_card : Rows.FnBatchSeenCardSaid :=
 Claim7.holds_tied_plain_at .later [] [.sentinel, .sentinel, .sentinel] true (true, "85af0a34b39241749dd267ce1bfd26b3b516e4683ad2cbb4a2ab8c80e232848f") false
  seen_row (fun _ h => by cases h) (by kernel_rfl) (fun _ h => by cases h) fnBatchSeen_row_tie rfl ⟨rfl, rfl⟩ (by kernel_rfl) rfl
  (fun f fn hf hfn => by
   obtain rfl : f = 3 := Option.some.inj ((show Tryz.prog.funcNamed "pub-tessella/laws.FnBatchSeen" = some 3 by kernel_rfl).symm.trans hf) |>.symm
   obtain rfl : fn = Tryz.f3 := (Option.some.inj (Tryz.func3.symm.trans hfn)).symm
   exact ⟨by kernel_rfl, fun j t ht => by
    rw [Tryz.params3] at ht
    have hm : t ∈ [22, 9] := by simpa using Array.mem_of_getElem? ht
    have hall : ([22, 9].all fun u => !Tryz.prog.wantsStandIn u) = true := by kernel_rfl
    exact (show Tryz.prog.wantsStandIn t = false by simpa using List.all_eq_true.1 hall t hm)⟩)
  (by kernel_rfl)
end Go.Proofs.YtpkoddfamelnhaaGreatDoor
