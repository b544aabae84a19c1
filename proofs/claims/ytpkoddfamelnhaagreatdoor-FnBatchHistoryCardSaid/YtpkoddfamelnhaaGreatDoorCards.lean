/-
  DERIVED. GIVEN WITH THE SEED: THE CARDS: each row of YtpkoddfamelnhaaGreatDoorRows.lean that lists a variable, with what it lists TIED to the program's text (the seventh form; the later family's looks); each row that meets fmt, with fmt's text TOLD by the authors' own Lean function (tested against real Go, not proved from fmt's source: count such statements apart). THE CARD IS WHAT COUNTS. Prove the row's statement (the work); the ties are given (YtpkoddfamelnhaaGreatDoorTie.lean); close each card by the builder's one call (the guide's Derived/Test/ToyasCard.lean, 'card_holds'). Laid BY PROGRAM, IN A SANDBOX (cutbox-door.mjs). By AI agents, Wed Nov 11 2026. No macro, syntax, notation, axiom, sorry.
-/
import Derived.Test.YtpkoddfamelnhaaGreatDoorRows
import GoSem.ClaimSeven
namespace Go.Proofs.YtpkoddfamelnhaaGreatDoor
namespace Rows

/-- THE TIED CARD OF 'laws.FnBatchSeen'. -/
def fnBatchSeenCard : Claim7 := { stood := { row := fnBatchSeenRow, standIns := [], harness := (true, "85af0a34b39241749dd267ce1bfd26b3b516e4683ad2cbb4a2ab8c80e232848f"), looks := false }, kinds := [], alts := [], laidByText := true, laidKinds := [.sentinel, .sentinel, .sentinel], laidTests := true, laidLooks := .later }
def FnBatchSeenCardSaid : Prop := Claim7.holds Tryz.pinned (.plain (OpenSpec.ofChange fnBatchSeenSpec)) fnBatchSeenCard

/-- THE TIED CARD OF 'laws.FnBatchSeenTwice'. -/
def fnBatchSeenTwiceCard : Claim7 := { stood := { row := fnBatchSeenTwiceRow, standIns := [], harness := (true, "85af0a34b39241749dd267ce1bfd26b3b516e4683ad2cbb4a2ab8c80e232848f"), looks := false }, kinds := [], alts := [], laidByText := true, laidKinds := [.sentinel, .sentinel, .sentinel], laidTests := true, laidLooks := .later }
def FnBatchSeenTwiceCardSaid : Prop := Claim7.holds Tryz.pinned (.plain (OpenSpec.ofChange fnBatchSeenTwiceSpec)) fnBatchSeenTwiceCard

/-- THE TIED CARD OF 'laws.FnBatchHistory'. -/
def fnBatchHistoryCard : Claim7 := { stood := { row := fnBatchHistoryRow, standIns := [], harness := (true, "85af0a34b39241749dd267ce1bfd26b3b516e4683ad2cbb4a2ab8c80e232848f"), looks := false }, kinds := [], alts := [], laidByText := true, laidKinds := [.sentinel, .sentinel, .sentinel], laidTests := true, laidLooks := .later }
def FnBatchHistoryCardSaid : Prop := Claim7.holds Tryz.pinned (.plain (OpenSpec.ofChange fnBatchHistorySpec)) fnBatchHistoryCard

/-- THE SECOND FORM's CARD OF 'laws.FnBatchSeen'. -/
def fnBatchSeenUptoCard : Claim7 := { stood := { row := fnBatchSeenUptoRow, standIns := [], harness := (true, "85af0a34b39241749dd267ce1bfd26b3b516e4683ad2cbb4a2ab8c80e232848f"), looks := false }, kinds := [], alts := [], laidByText := true, laidKinds := [.sentinel, .sentinel, .sentinel], laidTests := true, laidLooks := .later }
def FnBatchSeenUptoCardSaid : Prop := Claim7.holds Tryz.pinned (.plain (OpenSpec.upto fnBatchSeenSpec)) fnBatchSeenUptoCard

/-- THE SECOND FORM's CARD OF 'laws.FnBatchSeenTwice'. -/
def fnBatchSeenTwiceUptoCard : Claim7 := { stood := { row := fnBatchSeenTwiceUptoRow, standIns := [], harness := (true, "85af0a34b39241749dd267ce1bfd26b3b516e4683ad2cbb4a2ab8c80e232848f"), looks := false }, kinds := [], alts := [], laidByText := true, laidKinds := [.sentinel, .sentinel, .sentinel], laidTests := true, laidLooks := .later }
def FnBatchSeenTwiceUptoCardSaid : Prop := Claim7.holds Tryz.pinned (.plain (OpenSpec.upto fnBatchSeenTwiceSpec)) fnBatchSeenTwiceUptoCard

/-- THE SECOND FORM's CARD OF 'laws.FnBatchHistory'. -/
def fnBatchHistoryUptoCard : Claim7 := { stood := { row := fnBatchHistoryUptoRow, standIns := [], harness := (true, "85af0a34b39241749dd267ce1bfd26b3b516e4683ad2cbb4a2ab8c80e232848f"), looks := false }, kinds := [], alts := [], laidByText := true, laidKinds := [.sentinel, .sentinel, .sentinel], laidTests := true, laidLooks := .later }
def FnBatchHistoryUptoCardSaid : Prop := Claim7.holds Tryz.pinned (.plain (OpenSpec.upto fnBatchHistorySpec)) fnBatchHistoryUptoCard
end Rows
end Go.Proofs.YtpkoddfamelnhaaGreatDoor
