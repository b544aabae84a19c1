/- FnBatchHistory returns true for every input, and its arguments read behind the call as they read before; the three sentinels hold what the program's text lays. -/
import Derived.Test.YtpkoddfamelnhaaGreatDoorH30
import Derived.Test.YtpkoddfamelnhaaGreatDoorH31
import Derived.Test.YtpkoddfamelnhaaGreatDoorCards
import Derived.Test.YtpkoddfamelnhaaGreatDoorTie
import Derived.SevenTiedAt
set_option linter.unusedVariables false
set_option linter.unusedSimpArgs false
namespace Go.Proofs.YtpkoddfamelnhaaGreatDoor
open Go Go.Tr
set_option maxRecDepth 100000
theorem hist_row :Rows.FnBatchHistorySaid:=
 OpenClaim.holds_of_wide 5 Tryz.f5 rfl rfl rfl rfl rfl rfl rfl ⟨rfl,rfl,rfl,rfl,rfl⟩ rfl rfl rfl rfl rfl (by kernel_rfl) Tryz.func5 hist_facts
  (of_decide_eq_true (by kernel_rfl)) (by unfold Func.isWrapper;first|(rw[if_pos (by decide +kernel)];kernel_rfl)|(rw[if_neg (by decide +kernel)];exact⟨rfl,rfl⟩))
  (fun os started H enc _=>hist_lifted os started H enc)
theorem fnBatchHistory_card :Rows.FnBatchHistoryCardSaid:=
 Claim7.holds_tied_plain_at .later [] [.sentinel,.sentinel,.sentinel] true (true, "85af0a34b39241749dd267ce1bfd26b3b516e4683ad2cbb4a2ab8c80e232848f") false
  hist_row (fun _ h=>by cases h) (by kernel_rfl) (fun _ h=>by cases h) fnBatchHistory_row_tie rfl ⟨rfl,rfl⟩ (by kernel_rfl) rfl
  (fun f fn hf hfn => by
   obtain rfl:f=5:=Option.some.inj ((show Tryz.prog.funcNamed "pub-tessella/laws.FnBatchHistory" =some 5 by kernel_rfl).symm.trans hf)|>.symm
   obtain rfl:fn=Tryz.f5:=(Option.some.inj (Tryz.func5.symm.trans hfn)).symm
   exact⟨by kernel_rfl,fun j t ht=>by
    rw[Tryz.params5]at ht
    have hm:t∈[57,5,9]:=by simpa using Array.mem_of_getElem? ht
    have hall:([57,5,9].all fun u=> !Tryz.prog.wantsStandIn u)=true:=by kernel_rfl
    exact(show Tryz.prog.wantsStandIn t=false by simpa using List.all_eq_true.1 hall t hm)⟩)
  (by kernel_rfl)
end Go.Proofs.YtpkoddfamelnhaaGreatDoor
