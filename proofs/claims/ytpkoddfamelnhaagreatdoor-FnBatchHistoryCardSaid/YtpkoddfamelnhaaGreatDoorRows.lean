/-
  NARROWER THAN 'FOR EVERY INPUT', by the rows' own cells (each row's printed sentence says how): FnBatchSeen: laid · FnBatchSeenTwice: laid · FnBatchHistory: laid.
  DERIVED. THE GIVEN ROWS OF THIS SEAT. 3 by the template 'for every input the law returns true; each argument reads behind the call as it read before'; 0 by the template 'total and deterministic' (their statements: YtpkoddfamelnhaaGreatDoorTotals.lean).
  GIVEN WITH THE SEED: the statements are not yours to turn. If you find one false, say at which input.
  Laid BY PROGRAM, IN A SANDBOX (cutbox-rows.mjs): the forced cells as the released guide's own fill.sh prints them over the translation bd0e8a0774d5288c… (all of the seat's roots in one cut). By AI agents, Wed Nov 11 2026. No macro, syntax, notation, axiom, sorry.
-/
import Derived.Test.YtpkoddfamelnhaaGreatDoorChecked
import GoSem.Claim
import GoSem.ClaimJoined
import GoSem.ClaimMapViews
import Derived.JoinedTies
import Derived.KernelRfl
namespace Go.Proofs.YtpkoddfamelnhaaGreatDoor
/- THE CELL 'sum', in the pinned program and in every row, IS THE sha256 OF THE DUMP (.gsa) THAT YtpkoddfamelnhaaGreatDoorProg.lean LOADS. Nothing in Lean hashes anything: it is a label: what it is worth is what the hold of that sum in a sandbox is worth. -/
noncomputable def Tryz.pinned : Pinned := { name := "ytpkoddfamelnhaagreatdoor", sum := "bd0e8a0774d5288cb39c1d559a66defd7d6f3fdcb77531c9b0481f2a742bb9e5", checked := Tryz.checked }
namespace Rows
def none {H : Type} : Left H := { results := [], args := [] }

/- WHAT THE LISTED PACKAGE-LEVEL VARIABLES READ AS WHEN THE CALL BEGINS. Each datum BY PROGRAM (the guide's laid-datum.mjs) off the statement by which the dump's own 'gosem.cut.vars' lays the variable. In a bare row this is a premise. The card (YtpkoddfamelnhaaGreatDoorCards.lean) ties it to the program's text. -/
def laid_pub_tessella_pub_pebble_inner_base_ErrCorruption {H : Type} : DataW H := .iface "*errors.errorString" (.ptr (.agg [.lit (.string [112, 101, 98, 98, 108, 101, 58, 32, 99, 111, 114, 114, 117, 112, 116, 105, 111, 110])]))
def laid_pub_tessella_pub_pebble_ErrInvalidBatch {H : Type} : DataW H := .iface "*errors.errorString" (.ptr (.agg [.lit (.string [112, 101, 98, 98, 108, 101, 58, 32, 105, 110, 118, 97, 108, 105, 100, 32, 98, 97, 116, 99, 104])]))
def laid_pub_tessella_pub_pebble_ErrBatchTooLarge {H : Type} : DataW H := .iface "*errors.errorString" (.ptr (.agg [.lit (.string [112, 101, 98, 98, 108, 101, 58, 32, 98, 97, 116, 99, 104, 32, 116, 111, 111, 32, 108, 97, 114, 103, 101])]))

/-- 'laws.FnBatchSeen': WHATEVER THE INPUT: true; the input reads as it did. -/
def fnBatchSeenSpec : ChangeSpec := { name := "fnBatchSeen", fn := fun _ => fun
  | [d1, d2] => { results := [.lit (.bool true)], args := [d1, d2] }
  | _ => none }
def fnBatchSeenRow : OpenClaim := { program := "ytpkoddfamelnhaagreatdoor", sum := "bd0e8a0774d5288cb39c1d559a66defd7d6f3fdcb77531c9b0481f2a742bb9e5", func := "pub-tessella/laws.FnBatchSeen", spec := "fnBatchSeen", inPlace := ["internal/bytealg.Compare"], unfollowed := true, recurses := true, named := ["pub-tessella/pub/pebble.ErrBatchTooLarge", "encoding/binary.BigEndian", "encoding/binary.LittleEndian", "pub-tessella/pub/pebble.ErrInvalidBatch", "pub-tessella/pub/pebble/inner/base.ErrCorruption"], apart := false, laid := [("pub-tessella/pub/pebble/inner/base.ErrCorruption", laid_pub_tessella_pub_pebble_inner_base_ErrCorruption), ("pub-tessella/pub/pebble.ErrInvalidBatch", laid_pub_tessella_pub_pebble_ErrInvalidBatch), ("pub-tessella/pub/pebble.ErrBatchTooLarge", laid_pub_tessella_pub_pebble_ErrBatchTooLarge)] }
def FnBatchSeenSaid : Prop := fnBatchSeenRow.holds Tryz.pinned (OpenSpec.ofChange fnBatchSeenSpec)

/-- ITS FALSE NEIGHBOUR: 'it returns false'. Refute it at one input. -/
def fnBatchSeenWrong : ChangeSpec := { name := "fnBatchSeen", fn := fun _ => fun
  | [d1, d2] => { results := [.lit (.bool false)], args := [d1, d2] }
  | _ => none }
def FnBatchSeenWrongFalsely : Prop := fnBatchSeenRow.holds Tryz.pinned (OpenSpec.ofChange fnBatchSeenWrong)

/-- 'laws.FnBatchSeenTwice': WHATEVER THE INPUT: true; the input reads as it did. -/
def fnBatchSeenTwiceSpec : ChangeSpec := { name := "fnBatchSeenTwice", fn := fun _ => fun
  | [d1, d2, d3] => { results := [.lit (.bool true)], args := [d1, d2, d3] }
  | _ => none }
def fnBatchSeenTwiceRow : OpenClaim := { program := "ytpkoddfamelnhaagreatdoor", sum := "bd0e8a0774d5288cb39c1d559a66defd7d6f3fdcb77531c9b0481f2a742bb9e5", func := "pub-tessella/laws.FnBatchSeenTwice", spec := "fnBatchSeenTwice", inPlace := ["internal/bytealg.Compare"], unfollowed := true, recurses := true, named := ["pub-tessella/pub/pebble.ErrBatchTooLarge", "encoding/binary.BigEndian", "encoding/binary.LittleEndian", "pub-tessella/pub/pebble.ErrInvalidBatch", "pub-tessella/pub/pebble/inner/base.ErrCorruption"], apart := false, laid := [("pub-tessella/pub/pebble/inner/base.ErrCorruption", laid_pub_tessella_pub_pebble_inner_base_ErrCorruption), ("pub-tessella/pub/pebble.ErrInvalidBatch", laid_pub_tessella_pub_pebble_ErrInvalidBatch), ("pub-tessella/pub/pebble.ErrBatchTooLarge", laid_pub_tessella_pub_pebble_ErrBatchTooLarge)] }
def FnBatchSeenTwiceSaid : Prop := fnBatchSeenTwiceRow.holds Tryz.pinned (OpenSpec.ofChange fnBatchSeenTwiceSpec)

/-- ITS FALSE NEIGHBOUR: 'it returns false'. Refute it at one input. -/
def fnBatchSeenTwiceWrong : ChangeSpec := { name := "fnBatchSeenTwice", fn := fun _ => fun
  | [d1, d2, d3] => { results := [.lit (.bool false)], args := [d1, d2, d3] }
  | _ => none }
def FnBatchSeenTwiceWrongFalsely : Prop := fnBatchSeenTwiceRow.holds Tryz.pinned (OpenSpec.ofChange fnBatchSeenTwiceWrong)

/-- 'laws.FnBatchHistory': WHATEVER THE INPUT: true; the input reads as it did. -/
def fnBatchHistorySpec : ChangeSpec := { name := "fnBatchHistory", fn := fun _ => fun
  | [d1, d2, d3] => { results := [.lit (.bool true)], args := [d1, d2, d3] }
  | _ => none }
def fnBatchHistoryRow : OpenClaim := { program := "ytpkoddfamelnhaagreatdoor", sum := "bd0e8a0774d5288cb39c1d559a66defd7d6f3fdcb77531c9b0481f2a742bb9e5", func := "pub-tessella/laws.FnBatchHistory", spec := "fnBatchHistory", inPlace := ["internal/bytealg.Compare"], unfollowed := true, recurses := true, named := ["pub-tessella/pub/pebble.ErrBatchTooLarge", "encoding/binary.BigEndian", "encoding/binary.LittleEndian", "pub-tessella/pub/pebble.ErrInvalidBatch", "pub-tessella/pub/pebble/inner/base.ErrCorruption"], apart := false, laid := [("pub-tessella/pub/pebble/inner/base.ErrCorruption", laid_pub_tessella_pub_pebble_inner_base_ErrCorruption), ("pub-tessella/pub/pebble.ErrInvalidBatch", laid_pub_tessella_pub_pebble_ErrInvalidBatch), ("pub-tessella/pub/pebble.ErrBatchTooLarge", laid_pub_tessella_pub_pebble_ErrBatchTooLarge)] }
def FnBatchHistorySaid : Prop := fnBatchHistoryRow.holds Tryz.pinned (OpenSpec.ofChange fnBatchHistorySpec)

/-- ITS FALSE NEIGHBOUR: 'it returns false'. Refute it at one input. -/
def fnBatchHistoryWrong : ChangeSpec := { name := "fnBatchHistory", fn := fun _ => fun
  | [d1, d2, d3] => { results := [.lit (.bool false)], args := [d1, d2, d3] }
  | _ => none }
def FnBatchHistoryWrongFalsely : Prop := fnBatchHistoryRow.holds Tryz.pinned (OpenSpec.ofChange fnBatchHistoryWrong)

/- THE SECOND FORM. 'bulk': how many values and letters a reading holds, each counted each time it is reached (what is shared counts as often as it is met; a slice's spare places count too). A statement '..UptoSaid' is the law's where the arguments, and the package variables that the reading takes, are together of bulk at most 1048576: NARROWER than '..Said'. Prove '..Said' where nothing that the law and all that it calls make is longer than what came in: it says more and counts as full. Else prove '..UptoSaid'. A law counts once. -/
mutual
def uptoBulk {H : Type} : DataW H → Nat
  | .lit (.string bytes) => bytes.length + 1
  | .lit _ => 1
  | .nil => 1
  | .ptr d => uptoBulk d + 1
  | .slice elems spare => uptoBulkAll elems + uptoBulkAll spare + 1
  | .agg parts => uptoBulkAll parts + 1
  | .iface _ d => uptoBulk d + 1
  | .map entries => uptoBulkEntries entries + 1
  | .held _ => 1
def uptoBulkAll {H : Type} : List (DataW H) → Nat
  | [] => 0
  | d :: r => uptoBulk d + uptoBulkAll r
def uptoBulkEntries {H : Type} : List (Lit × DataW H) → Nat
  | [] => 0
  | x :: r => uptoBulkEntry x + uptoBulkEntries r
def uptoBulkEntry {H : Type} : Lit × DataW H → Nat
  | (.string bytes, d) => bytes.length + uptoBulk d + 1
  | (_, d) => uptoBulk d + 1
 end
def uptoSmall : (H : Type) → List (DataW H) → Bool := fun _ ds => decide (uptoBulkAll ds ≤ 1048576)
def OpenSpec.upto (s : _root_.Go.ChangeSpec) : _root_.Go.OpenSpec := { _root_.Go.OpenSpec.ofChange s with cond := some uptoSmall }

/-- 'laws.FnBatchSeen', WHERE WHAT IT READS IS OF BULK AT MOST 1048576: true; the input reads as it did. -/
def fnBatchSeenUptoRow : OpenClaim := { program := "ytpkoddfamelnhaagreatdoor", sum := "bd0e8a0774d5288cb39c1d559a66defd7d6f3fdcb77531c9b0481f2a742bb9e5", func := "pub-tessella/laws.FnBatchSeen", spec := "fnBatchSeen", inPlace := ["internal/bytealg.Compare"], unfollowed := true, recurses := true, named := ["pub-tessella/pub/pebble.ErrBatchTooLarge", "encoding/binary.BigEndian", "encoding/binary.LittleEndian", "pub-tessella/pub/pebble.ErrInvalidBatch", "pub-tessella/pub/pebble/inner/base.ErrCorruption"], apart := false, laid := [("pub-tessella/pub/pebble/inner/base.ErrCorruption", laid_pub_tessella_pub_pebble_inner_base_ErrCorruption), ("pub-tessella/pub/pebble.ErrInvalidBatch", laid_pub_tessella_pub_pebble_ErrInvalidBatch), ("pub-tessella/pub/pebble.ErrBatchTooLarge", laid_pub_tessella_pub_pebble_ErrBatchTooLarge)], narrowed := true }
def FnBatchSeenUptoSaid : Prop := fnBatchSeenUptoRow.holds Tryz.pinned (OpenSpec.upto fnBatchSeenSpec)

/-- 'laws.FnBatchSeenTwice', WHERE WHAT IT READS IS OF BULK AT MOST 1048576: true; the input reads as it did. -/
def fnBatchSeenTwiceUptoRow : OpenClaim := { program := "ytpkoddfamelnhaagreatdoor", sum := "bd0e8a0774d5288cb39c1d559a66defd7d6f3fdcb77531c9b0481f2a742bb9e5", func := "pub-tessella/laws.FnBatchSeenTwice", spec := "fnBatchSeenTwice", inPlace := ["internal/bytealg.Compare"], unfollowed := true, recurses := true, named := ["pub-tessella/pub/pebble.ErrBatchTooLarge", "encoding/binary.BigEndian", "encoding/binary.LittleEndian", "pub-tessella/pub/pebble.ErrInvalidBatch", "pub-tessella/pub/pebble/inner/base.ErrCorruption"], apart := false, laid := [("pub-tessella/pub/pebble/inner/base.ErrCorruption", laid_pub_tessella_pub_pebble_inner_base_ErrCorruption), ("pub-tessella/pub/pebble.ErrInvalidBatch", laid_pub_tessella_pub_pebble_ErrInvalidBatch), ("pub-tessella/pub/pebble.ErrBatchTooLarge", laid_pub_tessella_pub_pebble_ErrBatchTooLarge)], narrowed := true }
def FnBatchSeenTwiceUptoSaid : Prop := fnBatchSeenTwiceUptoRow.holds Tryz.pinned (OpenSpec.upto fnBatchSeenTwiceSpec)

/-- 'laws.FnBatchHistory', WHERE WHAT IT READS IS OF BULK AT MOST 1048576: true; the input reads as it did. -/
def fnBatchHistoryUptoRow : OpenClaim := { program := "ytpkoddfamelnhaagreatdoor", sum := "bd0e8a0774d5288cb39c1d559a66defd7d6f3fdcb77531c9b0481f2a742bb9e5", func := "pub-tessella/laws.FnBatchHistory", spec := "fnBatchHistory", inPlace := ["internal/bytealg.Compare"], unfollowed := true, recurses := true, named := ["pub-tessella/pub/pebble.ErrBatchTooLarge", "encoding/binary.BigEndian", "encoding/binary.LittleEndian", "pub-tessella/pub/pebble.ErrInvalidBatch", "pub-tessella/pub/pebble/inner/base.ErrCorruption"], apart := false, laid := [("pub-tessella/pub/pebble/inner/base.ErrCorruption", laid_pub_tessella_pub_pebble_inner_base_ErrCorruption), ("pub-tessella/pub/pebble.ErrInvalidBatch", laid_pub_tessella_pub_pebble_ErrInvalidBatch), ("pub-tessella/pub/pebble.ErrBatchTooLarge", laid_pub_tessella_pub_pebble_ErrBatchTooLarge)], narrowed := true }
def FnBatchHistoryUptoSaid : Prop := fnBatchHistoryUptoRow.holds Tryz.pinned (OpenSpec.upto fnBatchHistorySpec)

end Rows
end Go.Proofs.YtpkoddfamelnhaaGreatDoor
