/-
  NARROWER THAN 'FOR EVERY INPUT', by the rows' own cells (each row's printed sentence says how): FnTellListTransactionsRequest: loops, laid · FnTellStopReplicaRequest: loops, laid · FnTellBeginQuorumEpochRequest: loops, laid · FnTellCreateTopicsRequest: loops, laid · FnTellShareFetchRequest: loops, laid.
  DERIVED. THE GIVEN ROWS OF THIS SEAT. 5 by the template 'for every input the law returns true; each argument reads behind the call as it read before'; 0 by the template 'total and deterministic' (their statements: YtmmieooipcfbiaaGreatDoorTotals.lean).
  GIVEN WITH THE SEED: the statements are not yours to turn. If you find one false, say at which input.
  Laid BY PROGRAM, IN A SANDBOX (cutbox-rows.mjs): the forced cells as the released guide's own fill.sh prints them over the translation 085a2cdeecdd25ea… (all of the seat's roots in one cut). By AI agents, Wed Nov 11 2026. No macro, syntax, notation, axiom, sorry.
-/
import Derived.Test.YtmmieooipcfbiaaGreatDoorChecked
import GoSem.Claim
import GoSem.ClaimJoined
import GoSem.ClaimMapViews
import Derived.JoinedTies
import Derived.KernelRfl
namespace Go.Proofs.YtmmieooipcfbiaaGreatDoor
/- THE CELL 'sum', in the pinned program and in every row, IS THE sha256 OF THE DUMP (.gsa) THAT YtmmieooipcfbiaaGreatDoorProg.lean LOADS. Nothing in Lean hashes anything: it is a label: what it is worth is what the hold of that sum in a sandbox is worth. -/
noncomputable def Tryz.pinned : Pinned := { name := "ytmmieooipcfbiaagreatdoor", sum := "085a2cdeecdd25ea9c51a9244cd8a64a1718a8be20e5598b1848bb3b5dbdc810", checked := Tryz.checked }
namespace Rows
def none {H : Type} : Left H := { results := [], args := [] }

/- WHAT THE LISTED PACKAGE-LEVEL VARIABLES READ AS WHEN THE CALL BEGINS. Each datum BY PROGRAM (the guide's laid-datum.mjs) off the statement by which the dump's own 'gosem.cut.vars' lays the variable. In a bare row this is a premise. The card (YtmmieooipcfbiaaGreatDoorCards.lean) ties it to the program's text. -/
def laid_pub_mailsack_pub_kmsg_inner_kbin_ErrNotEnoughData {H : Type} : DataW H := .iface "*errors.errorString" (.ptr (.agg [.lit (.string [114, 101, 115, 112, 111, 110, 115, 101, 32, 100, 105, 100, 32, 110, 111, 116, 32, 99, 111, 110, 116, 97, 105, 110, 32, 101, 110, 111, 117, 103, 104, 32, 100, 97, 116, 97, 32, 116, 111, 32, 98, 101, 32, 118, 97, 108, 105, 100])]))

/-- 'laws.FnTellListTransactionsRequest': WHATEVER THE INPUT: true; the input reads as it did. -/
def fnTellListTransactionsRequestSpec : ChangeSpec := { name := "fnTellListTransactionsRequest", fn := fun _ => fun
  | [d1, d2] => { results := [.lit (.bool true)], args := [d1, d2] }
  | _ => none }
def fnTellListTransactionsRequestRow : OpenClaim := { program := "ytmmieooipcfbiaagreatdoor", sum := "085a2cdeecdd25ea9c51a9244cd8a64a1718a8be20e5598b1848bb3b5dbdc810", func := "pub-mailsack/laws.FnTellListTransactionsRequest", spec := "fnTellListTransactionsRequest", inPlace := ["internal/reflectlite.ValueOf", "internal/reflectlite.Swapper", "(internal/reflectlite.Value).Len"], unfollowed := true, recurses := true, named := ["encoding/binary.BigEndian", "pub-mailsack/pub/kmsg/inner/kbin.ErrNotEnoughData"], loops := true, apart := false, laid := [("pub-mailsack/pub/kmsg/inner/kbin.ErrNotEnoughData", laid_pub_mailsack_pub_kmsg_inner_kbin_ErrNotEnoughData)] }
def FnTellListTransactionsRequestSaid : Prop := fnTellListTransactionsRequestRow.holds Tryz.pinned (OpenSpec.ofChange fnTellListTransactionsRequestSpec)

/-- ITS FALSE NEIGHBOUR: 'it returns false'. Refute it at one input. -/
def fnTellListTransactionsRequestWrong : ChangeSpec := { name := "fnTellListTransactionsRequest", fn := fun _ => fun
  | [d1, d2] => { results := [.lit (.bool false)], args := [d1, d2] }
  | _ => none }
def FnTellListTransactionsRequestWrongFalsely : Prop := fnTellListTransactionsRequestRow.holds Tryz.pinned (OpenSpec.ofChange fnTellListTransactionsRequestWrong)

/-- 'laws.FnTellStopReplicaRequest': WHATEVER THE INPUT: true; the input reads as it did. -/
def fnTellStopReplicaRequestSpec : ChangeSpec := { name := "fnTellStopReplicaRequest", fn := fun _ => fun
  | [d1, d2] => { results := [.lit (.bool true)], args := [d1, d2] }
  | _ => none }
def fnTellStopReplicaRequestRow : OpenClaim := { program := "ytmmieooipcfbiaagreatdoor", sum := "085a2cdeecdd25ea9c51a9244cd8a64a1718a8be20e5598b1848bb3b5dbdc810", func := "pub-mailsack/laws.FnTellStopReplicaRequest", spec := "fnTellStopReplicaRequest", inPlace := ["internal/reflectlite.ValueOf", "internal/reflectlite.Swapper", "(internal/reflectlite.Value).Len"], unfollowed := true, recurses := true, named := ["encoding/binary.BigEndian", "pub-mailsack/pub/kmsg/inner/kbin.ErrNotEnoughData"], loops := true, apart := false, laid := [("pub-mailsack/pub/kmsg/inner/kbin.ErrNotEnoughData", laid_pub_mailsack_pub_kmsg_inner_kbin_ErrNotEnoughData)] }
def FnTellStopReplicaRequestSaid : Prop := fnTellStopReplicaRequestRow.holds Tryz.pinned (OpenSpec.ofChange fnTellStopReplicaRequestSpec)

/-- ITS FALSE NEIGHBOUR: 'it returns false'. Refute it at one input. -/
def fnTellStopReplicaRequestWrong : ChangeSpec := { name := "fnTellStopReplicaRequest", fn := fun _ => fun
  | [d1, d2] => { results := [.lit (.bool false)], args := [d1, d2] }
  | _ => none }
def FnTellStopReplicaRequestWrongFalsely : Prop := fnTellStopReplicaRequestRow.holds Tryz.pinned (OpenSpec.ofChange fnTellStopReplicaRequestWrong)

/-- 'laws.FnTellBeginQuorumEpochRequest': WHATEVER THE INPUT: true; the input reads as it did. -/
def fnTellBeginQuorumEpochRequestSpec : ChangeSpec := { name := "fnTellBeginQuorumEpochRequest", fn := fun _ => fun
  | [d1, d2] => { results := [.lit (.bool true)], args := [d1, d2] }
  | _ => none }
def fnTellBeginQuorumEpochRequestRow : OpenClaim := { program := "ytmmieooipcfbiaagreatdoor", sum := "085a2cdeecdd25ea9c51a9244cd8a64a1718a8be20e5598b1848bb3b5dbdc810", func := "pub-mailsack/laws.FnTellBeginQuorumEpochRequest", spec := "fnTellBeginQuorumEpochRequest", inPlace := ["internal/reflectlite.ValueOf", "internal/reflectlite.Swapper", "(internal/reflectlite.Value).Len"], unfollowed := true, recurses := true, named := ["encoding/binary.BigEndian", "pub-mailsack/pub/kmsg/inner/kbin.ErrNotEnoughData"], loops := true, apart := false, laid := [("pub-mailsack/pub/kmsg/inner/kbin.ErrNotEnoughData", laid_pub_mailsack_pub_kmsg_inner_kbin_ErrNotEnoughData)] }
def FnTellBeginQuorumEpochRequestSaid : Prop := fnTellBeginQuorumEpochRequestRow.holds Tryz.pinned (OpenSpec.ofChange fnTellBeginQuorumEpochRequestSpec)

/-- ITS FALSE NEIGHBOUR: 'it returns false'. Refute it at one input. -/
def fnTellBeginQuorumEpochRequestWrong : ChangeSpec := { name := "fnTellBeginQuorumEpochRequest", fn := fun _ => fun
  | [d1, d2] => { results := [.lit (.bool false)], args := [d1, d2] }
  | _ => none }
def FnTellBeginQuorumEpochRequestWrongFalsely : Prop := fnTellBeginQuorumEpochRequestRow.holds Tryz.pinned (OpenSpec.ofChange fnTellBeginQuorumEpochRequestWrong)

/-- 'laws.FnTellCreateTopicsRequest': WHATEVER THE INPUT: true; the input reads as it did. -/
def fnTellCreateTopicsRequestSpec : ChangeSpec := { name := "fnTellCreateTopicsRequest", fn := fun _ => fun
  | [d1, d2] => { results := [.lit (.bool true)], args := [d1, d2] }
  | _ => none }
def fnTellCreateTopicsRequestRow : OpenClaim := { program := "ytmmieooipcfbiaagreatdoor", sum := "085a2cdeecdd25ea9c51a9244cd8a64a1718a8be20e5598b1848bb3b5dbdc810", func := "pub-mailsack/laws.FnTellCreateTopicsRequest", spec := "fnTellCreateTopicsRequest", inPlace := ["internal/reflectlite.ValueOf", "internal/reflectlite.Swapper", "(internal/reflectlite.Value).Len"], unfollowed := true, recurses := true, named := ["encoding/binary.BigEndian", "pub-mailsack/pub/kmsg/inner/kbin.ErrNotEnoughData"], loops := true, apart := false, laid := [("pub-mailsack/pub/kmsg/inner/kbin.ErrNotEnoughData", laid_pub_mailsack_pub_kmsg_inner_kbin_ErrNotEnoughData)] }
def FnTellCreateTopicsRequestSaid : Prop := fnTellCreateTopicsRequestRow.holds Tryz.pinned (OpenSpec.ofChange fnTellCreateTopicsRequestSpec)

/-- ITS FALSE NEIGHBOUR: 'it returns false'. Refute it at one input. -/
def fnTellCreateTopicsRequestWrong : ChangeSpec := { name := "fnTellCreateTopicsRequest", fn := fun _ => fun
  | [d1, d2] => { results := [.lit (.bool false)], args := [d1, d2] }
  | _ => none }
def FnTellCreateTopicsRequestWrongFalsely : Prop := fnTellCreateTopicsRequestRow.holds Tryz.pinned (OpenSpec.ofChange fnTellCreateTopicsRequestWrong)

/-- 'laws.FnTellShareFetchRequest': WHATEVER THE INPUT: true; the input reads as it did. -/
def fnTellShareFetchRequestSpec : ChangeSpec := { name := "fnTellShareFetchRequest", fn := fun _ => fun
  | [d1, d2] => { results := [.lit (.bool true)], args := [d1, d2] }
  | _ => none }
def fnTellShareFetchRequestRow : OpenClaim := { program := "ytmmieooipcfbiaagreatdoor", sum := "085a2cdeecdd25ea9c51a9244cd8a64a1718a8be20e5598b1848bb3b5dbdc810", func := "pub-mailsack/laws.FnTellShareFetchRequest", spec := "fnTellShareFetchRequest", inPlace := ["internal/reflectlite.ValueOf", "internal/reflectlite.Swapper", "(internal/reflectlite.Value).Len"], unfollowed := true, recurses := true, named := ["encoding/binary.BigEndian", "pub-mailsack/pub/kmsg/inner/kbin.ErrNotEnoughData"], loops := true, apart := false, laid := [("pub-mailsack/pub/kmsg/inner/kbin.ErrNotEnoughData", laid_pub_mailsack_pub_kmsg_inner_kbin_ErrNotEnoughData)] }
def FnTellShareFetchRequestSaid : Prop := fnTellShareFetchRequestRow.holds Tryz.pinned (OpenSpec.ofChange fnTellShareFetchRequestSpec)

/-- ITS FALSE NEIGHBOUR: 'it returns false'. Refute it at one input. -/
def fnTellShareFetchRequestWrong : ChangeSpec := { name := "fnTellShareFetchRequest", fn := fun _ => fun
  | [d1, d2] => { results := [.lit (.bool false)], args := [d1, d2] }
  | _ => none }
def FnTellShareFetchRequestWrongFalsely : Prop := fnTellShareFetchRequestRow.holds Tryz.pinned (OpenSpec.ofChange fnTellShareFetchRequestWrong)

/- THE SECOND FORM. 'bulk': how many values and letters a reading holds, each counted each time it is reached (what is shared counts as often as it is met; a slice's spare places count too). A statement '..UptoSaid' is the law's where the arguments, and the package variables that the reading takes, are together of bulk at most 1048576: NARROWER than '..Said'. Prove '..Said' where nothing that the law and all that it calls make is longer than what came in: it says more and counts as full. Else prove '..UptoSaid'. A law counts once. -/
mutual
def uptoBulk {H : Type} : DataW H → Nat
  | .lit (.string bytes) => bytes.length + 1
  | .lit _ => 1
  | .nil => 1
  | .ptr d => uptoBulk d + 1
  | .slice elems spare => uptoBulkAll elems + uptoBulkAll spare + 1
  | .agg parts => uptoBulkAll parts + 1
  | .iface _ d => uptoBulk d + 1
  | .map entries => uptoBulkEntries entries + 1
  | .held _ => 1
def uptoBulkAll {H : Type} : List (DataW H) → Nat
  | [] => 0
  | d :: r => uptoBulk d + uptoBulkAll r
def uptoBulkEntries {H : Type} : List (Lit × DataW H) → Nat
  | [] => 0
  | x :: r => uptoBulkEntry x + uptoBulkEntries r
def uptoBulkEntry {H : Type} : Lit × DataW H → Nat
  | (.string bytes, d) => bytes.length + uptoBulk d + 1
  | (_, d) => uptoBulk d + 1
 end
def uptoSmall : (H : Type) → List (DataW H) → Bool := fun _ ds => decide (uptoBulkAll ds ≤ 1048576)
def OpenSpec.upto (s : _root_.Go.ChangeSpec) : _root_.Go.OpenSpec := { _root_.Go.OpenSpec.ofChange s with cond := some uptoSmall }

/-- 'laws.FnTellListTransactionsRequest', WHERE WHAT IT READS IS OF BULK AT MOST 1048576: true; the input reads as it did. -/
def fnTellListTransactionsRequestUptoRow : OpenClaim := { program := "ytmmieooipcfbiaagreatdoor", sum := "085a2cdeecdd25ea9c51a9244cd8a64a1718a8be20e5598b1848bb3b5dbdc810", func := "pub-mailsack/laws.FnTellListTransactionsRequest", spec := "fnTellListTransactionsRequest", inPlace := ["internal/reflectlite.ValueOf", "internal/reflectlite.Swapper", "(internal/reflectlite.Value).Len"], unfollowed := true, recurses := true, named := ["encoding/binary.BigEndian", "pub-mailsack/pub/kmsg/inner/kbin.ErrNotEnoughData"], loops := true, apart := false, laid := [("pub-mailsack/pub/kmsg/inner/kbin.ErrNotEnoughData", laid_pub_mailsack_pub_kmsg_inner_kbin_ErrNotEnoughData)], narrowed := true }
def FnTellListTransactionsRequestUptoSaid : Prop := fnTellListTransactionsRequestUptoRow.holds Tryz.pinned (OpenSpec.upto fnTellListTransactionsRequestSpec)

/-- 'laws.FnTellStopReplicaRequest', WHERE WHAT IT READS IS OF BULK AT MOST 1048576: true; the input reads as it did. -/
def fnTellStopReplicaRequestUptoRow : OpenClaim := { program := "ytmmieooipcfbiaagreatdoor", sum := "085a2cdeecdd25ea9c51a9244cd8a64a1718a8be20e5598b1848bb3b5dbdc810", func := "pub-mailsack/laws.FnTellStopReplicaRequest", spec := "fnTellStopReplicaRequest", inPlace := ["internal/reflectlite.ValueOf", "internal/reflectlite.Swapper", "(internal/reflectlite.Value).Len"], unfollowed := true, recurses := true, named := ["encoding/binary.BigEndian", "pub-mailsack/pub/kmsg/inner/kbin.ErrNotEnoughData"], loops := true, apart := false, laid := [("pub-mailsack/pub/kmsg/inner/kbin.ErrNotEnoughData", laid_pub_mailsack_pub_kmsg_inner_kbin_ErrNotEnoughData)], narrowed := true }
def FnTellStopReplicaRequestUptoSaid : Prop := fnTellStopReplicaRequestUptoRow.holds Tryz.pinned (OpenSpec.upto fnTellStopReplicaRequestSpec)

/-- 'laws.FnTellBeginQuorumEpochRequest', WHERE WHAT IT READS IS OF BULK AT MOST 1048576: true; the input reads as it did. -/
def fnTellBeginQuorumEpochRequestUptoRow : OpenClaim := { program := "ytmmieooipcfbiaagreatdoor", sum := "085a2cdeecdd25ea9c51a9244cd8a64a1718a8be20e5598b1848bb3b5dbdc810", func := "pub-mailsack/laws.FnTellBeginQuorumEpochRequest", spec := "fnTellBeginQuorumEpochRequest", inPlace := ["internal/reflectlite.ValueOf", "internal/reflectlite.Swapper", "(internal/reflectlite.Value).Len"], unfollowed := true, recurses := true, named := ["encoding/binary.BigEndian", "pub-mailsack/pub/kmsg/inner/kbin.ErrNotEnoughData"], loops := true, apart := false, laid := [("pub-mailsack/pub/kmsg/inner/kbin.ErrNotEnoughData", laid_pub_mailsack_pub_kmsg_inner_kbin_ErrNotEnoughData)], narrowed := true }
def FnTellBeginQuorumEpochRequestUptoSaid : Prop := fnTellBeginQuorumEpochRequestUptoRow.holds Tryz.pinned (OpenSpec.upto fnTellBeginQuorumEpochRequestSpec)

/-- 'laws.FnTellCreateTopicsRequest', WHERE WHAT IT READS IS OF BULK AT MOST 1048576: true; the input reads as it did. -/
def fnTellCreateTopicsRequestUptoRow : OpenClaim := { program := "ytmmieooipcfbiaagreatdoor", sum := "085a2cdeecdd25ea9c51a9244cd8a64a1718a8be20e5598b1848bb3b5dbdc810", func := "pub-mailsack/laws.FnTellCreateTopicsRequest", spec := "fnTellCreateTopicsRequest", inPlace := ["internal/reflectlite.ValueOf", "internal/reflectlite.Swapper", "(internal/reflectlite.Value).Len"], unfollowed := true, recurses := true, named := ["encoding/binary.BigEndian", "pub-mailsack/pub/kmsg/inner/kbin.ErrNotEnoughData"], loops := true, apart := false, laid := [("pub-mailsack/pub/kmsg/inner/kbin.ErrNotEnoughData", laid_pub_mailsack_pub_kmsg_inner_kbin_ErrNotEnoughData)], narrowed := true }
def FnTellCreateTopicsRequestUptoSaid : Prop := fnTellCreateTopicsRequestUptoRow.holds Tryz.pinned (OpenSpec.upto fnTellCreateTopicsRequestSpec)

/-- 'laws.FnTellShareFetchRequest', WHERE WHAT IT READS IS OF BULK AT MOST 1048576: true; the input reads as it did. -/
def fnTellShareFetchRequestUptoRow : OpenClaim := { program := "ytmmieooipcfbiaagreatdoor", sum := "085a2cdeecdd25ea9c51a9244cd8a64a1718a8be20e5598b1848bb3b5dbdc810", func := "pub-mailsack/laws.FnTellShareFetchRequest", spec := "fnTellShareFetchRequest", inPlace := ["internal/reflectlite.ValueOf", "internal/reflectlite.Swapper", "(internal/reflectlite.Value).Len"], unfollowed := true, recurses := true, named := ["encoding/binary.BigEndian", "pub-mailsack/pub/kmsg/inner/kbin.ErrNotEnoughData"], loops := true, apart := false, laid := [("pub-mailsack/pub/kmsg/inner/kbin.ErrNotEnoughData", laid_pub_mailsack_pub_kmsg_inner_kbin_ErrNotEnoughData)], narrowed := true }
def FnTellShareFetchRequestUptoSaid : Prop := fnTellShareFetchRequestUptoRow.holds Tryz.pinned (OpenSpec.upto fnTellShareFetchRequestSpec)

end Rows
end Go.Proofs.YtmmieooipcfbiaaGreatDoor
