/-
  NARROWER THAN 'FOR EVERY INPUT', by the rows' own cells (each row's printed sentence says how): FnTellLeaveGroupResponse: loops, laid · FnTellDeleteRecordsRequest: loops, laid · FnTellCreateDelegationTokenResponse: loops, laid · FnTellCreateACLsRequest: loops, laid · FnTellDeleteTopicsRequest: loops, laid · FnTellListOffsetsResponse: loops, laid.
  DERIVED. THE GIVEN ROWS OF THIS SEAT. 6 by the template 'for every input the law returns true; each argument reads behind the call as it read before'; 0 by the template 'total and deterministic' (their statements: YteofeendidabgaaGreatDoorTotals.lean).
  GIVEN WITH THE SEED: the statements are not yours to turn. If you find one false, say at which input.
  Laid BY PROGRAM, IN A SANDBOX (cutbox-rows.mjs): the forced cells as the released guide's own fill.sh prints them over the translation c31282a88f672573… (all of the seat's roots in one cut). By AI agents, Wed Nov 11 2026. No macro, syntax, notation, axiom, sorry.
-/
import Derived.Test.YteofeendidabgaaGreatDoorChecked
import GoSem.Claim
import GoSem.ClaimJoined
import GoSem.ClaimMapViews
import Derived.JoinedTies
import Derived.KernelRfl
namespace Go.Proofs.YteofeendidabgaaGreatDoor
/- THE CELL 'sum', in the pinned program and in every row, IS THE sha256 OF THE DUMP (.gsa) THAT YteofeendidabgaaGreatDoorProg.lean LOADS. Nothing in Lean hashes anything: it is a label: what it is worth is what the hold of that sum in a sandbox is worth. -/
noncomputable def Tryz.pinned : Pinned := { name := "yteofeendidabgaagreatdoor", sum := "c31282a88f672573a56a3869b33032f24cb502d179f43ecf15f64a37b35b42db", checked := Tryz.checked }
namespace Rows
def none {H : Type} : Left H := { results := [], args := [] }

/- WHAT THE LISTED PACKAGE-LEVEL VARIABLES READ AS WHEN THE CALL BEGINS. Each datum BY PROGRAM (the guide's laid-datum.mjs) off the statement by which the dump's own 'gosem.cut.vars' lays the variable. In a bare row this is a premise. The card (YteofeendidabgaaGreatDoorCards.lean) ties it to the program's text. -/
def laid_pub_mailsack_pub_kmsg_inner_kbin_ErrNotEnoughData {H : Type} : DataW H := .iface "*errors.errorString" (.ptr (.agg [.lit (.string [114, 101, 115, 112, 111, 110, 115, 101, 32, 100, 105, 100, 32, 110, 111, 116, 32, 99, 111, 110, 116, 97, 105, 110, 32, 101, 110, 111, 117, 103, 104, 32, 100, 97, 116, 97, 32, 116, 111, 32, 98, 101, 32, 118, 97, 108, 105, 100])]))

/-- 'laws.FnTellLeaveGroupResponse': WHATEVER THE INPUT: true; the input reads as it did. -/
def fnTellLeaveGroupResponseSpec : ChangeSpec := { name := "fnTellLeaveGroupResponse", fn := fun _ => fun
  | [d1, d2] => { results := [.lit (.bool true)], args := [d1, d2] }
  | _ => none }
def fnTellLeaveGroupResponseRow : OpenClaim := { program := "yteofeendidabgaagreatdoor", sum := "c31282a88f672573a56a3869b33032f24cb502d179f43ecf15f64a37b35b42db", func := "pub-mailsack/laws.FnTellLeaveGroupResponse", spec := "fnTellLeaveGroupResponse", inPlace := ["internal/reflectlite.ValueOf", "internal/reflectlite.Swapper", "(internal/reflectlite.Value).Len"], unfollowed := true, recurses := true, named := ["encoding/binary.BigEndian", "pub-mailsack/pub/kmsg/inner/kbin.ErrNotEnoughData"], loops := true, apart := false, laid := [("pub-mailsack/pub/kmsg/inner/kbin.ErrNotEnoughData", laid_pub_mailsack_pub_kmsg_inner_kbin_ErrNotEnoughData)] }
def FnTellLeaveGroupResponseSaid : Prop := fnTellLeaveGroupResponseRow.holds Tryz.pinned (OpenSpec.ofChange fnTellLeaveGroupResponseSpec)

/-- ITS FALSE NEIGHBOUR: 'it returns false'. Refute it at one input. -/
def fnTellLeaveGroupResponseWrong : ChangeSpec := { name := "fnTellLeaveGroupResponse", fn := fun _ => fun
  | [d1, d2] => { results := [.lit (.bool false)], args := [d1, d2] }
  | _ => none }
def FnTellLeaveGroupResponseWrongFalsely : Prop := fnTellLeaveGroupResponseRow.holds Tryz.pinned (OpenSpec.ofChange fnTellLeaveGroupResponseWrong)

/-- 'laws.FnTellDeleteRecordsRequest': WHATEVER THE INPUT: true; the input reads as it did. -/
def fnTellDeleteRecordsRequestSpec : ChangeSpec := { name := "fnTellDeleteRecordsRequest", fn := fun _ => fun
  | [d1, d2] => { results := [.lit (.bool true)], args := [d1, d2] }
  | _ => none }
def fnTellDeleteRecordsRequestRow : OpenClaim := { program := "yteofeendidabgaagreatdoor", sum := "c31282a88f672573a56a3869b33032f24cb502d179f43ecf15f64a37b35b42db", func := "pub-mailsack/laws.FnTellDeleteRecordsRequest", spec := "fnTellDeleteRecordsRequest", inPlace := ["internal/reflectlite.ValueOf", "internal/reflectlite.Swapper", "(internal/reflectlite.Value).Len"], unfollowed := true, recurses := true, named := ["encoding/binary.BigEndian", "pub-mailsack/pub/kmsg/inner/kbin.ErrNotEnoughData"], loops := true, apart := false, laid := [("pub-mailsack/pub/kmsg/inner/kbin.ErrNotEnoughData", laid_pub_mailsack_pub_kmsg_inner_kbin_ErrNotEnoughData)] }
def FnTellDeleteRecordsRequestSaid : Prop := fnTellDeleteRecordsRequestRow.holds Tryz.pinned (OpenSpec.ofChange fnTellDeleteRecordsRequestSpec)

/-- ITS FALSE NEIGHBOUR: 'it returns false'. Refute it at one input. -/
def fnTellDeleteRecordsRequestWrong : ChangeSpec := { name := "fnTellDeleteRecordsRequest", fn := fun _ => fun
  | [d1, d2] => { results := [.lit (.bool false)], args := [d1, d2] }
  | _ => none }
def FnTellDeleteRecordsRequestWrongFalsely : Prop := fnTellDeleteRecordsRequestRow.holds Tryz.pinned (OpenSpec.ofChange fnTellDeleteRecordsRequestWrong)

/-- 'laws.FnTellCreateDelegationTokenResponse': WHATEVER THE INPUT: true; the input reads as it did. -/
def fnTellCreateDelegationTokenResponseSpec : ChangeSpec := { name := "fnTellCreateDelegationTokenResponse", fn := fun _ => fun
  | [d1, d2] => { results := [.lit (.bool true)], args := [d1, d2] }
  | _ => none }
def fnTellCreateDelegationTokenResponseRow : OpenClaim := { program := "yteofeendidabgaagreatdoor", sum := "c31282a88f672573a56a3869b33032f24cb502d179f43ecf15f64a37b35b42db", func := "pub-mailsack/laws.FnTellCreateDelegationTokenResponse", spec := "fnTellCreateDelegationTokenResponse", inPlace := ["internal/reflectlite.ValueOf", "internal/reflectlite.Swapper", "(internal/reflectlite.Value).Len"], unfollowed := true, recurses := true, named := ["encoding/binary.BigEndian", "pub-mailsack/pub/kmsg/inner/kbin.ErrNotEnoughData"], loops := true, apart := false, laid := [("pub-mailsack/pub/kmsg/inner/kbin.ErrNotEnoughData", laid_pub_mailsack_pub_kmsg_inner_kbin_ErrNotEnoughData)] }
def FnTellCreateDelegationTokenResponseSaid : Prop := fnTellCreateDelegationTokenResponseRow.holds Tryz.pinned (OpenSpec.ofChange fnTellCreateDelegationTokenResponseSpec)

/-- ITS FALSE NEIGHBOUR: 'it returns false'. Refute it at one input. -/
def fnTellCreateDelegationTokenResponseWrong : ChangeSpec := { name := "fnTellCreateDelegationTokenResponse", fn := fun _ => fun
  | [d1, d2] => { results := [.lit (.bool false)], args := [d1, d2] }
  | _ => none }
def FnTellCreateDelegationTokenResponseWrongFalsely : Prop := fnTellCreateDelegationTokenResponseRow.holds Tryz.pinned (OpenSpec.ofChange fnTellCreateDelegationTokenResponseWrong)

/-- 'laws.FnTellCreateACLsRequest': WHATEVER THE INPUT: true; the input reads as it did. -/
def fnTellCreateACLsRequestSpec : ChangeSpec := { name := "fnTellCreateACLsRequest", fn := fun _ => fun
  | [d1, d2] => { results := [.lit (.bool true)], args := [d1, d2] }
  | _ => none }
def fnTellCreateACLsRequestRow : OpenClaim := { program := "yteofeendidabgaagreatdoor", sum := "c31282a88f672573a56a3869b33032f24cb502d179f43ecf15f64a37b35b42db", func := "pub-mailsack/laws.FnTellCreateACLsRequest", spec := "fnTellCreateACLsRequest", inPlace := ["internal/reflectlite.ValueOf", "internal/reflectlite.Swapper", "(internal/reflectlite.Value).Len"], unfollowed := true, recurses := true, named := ["encoding/binary.BigEndian", "pub-mailsack/pub/kmsg/inner/kbin.ErrNotEnoughData"], loops := true, apart := false, laid := [("pub-mailsack/pub/kmsg/inner/kbin.ErrNotEnoughData", laid_pub_mailsack_pub_kmsg_inner_kbin_ErrNotEnoughData)] }
def FnTellCreateACLsRequestSaid : Prop := fnTellCreateACLsRequestRow.holds Tryz.pinned (OpenSpec.ofChange fnTellCreateACLsRequestSpec)

/-- ITS FALSE NEIGHBOUR: 'it returns false'. Refute it at one input. -/
def fnTellCreateACLsRequestWrong : ChangeSpec := { name := "fnTellCreateACLsRequest", fn := fun _ => fun
  | [d1, d2] => { results := [.lit (.bool false)], args := [d1, d2] }
  | _ => none }
def FnTellCreateACLsRequestWrongFalsely : Prop := fnTellCreateACLsRequestRow.holds Tryz.pinned (OpenSpec.ofChange fnTellCreateACLsRequestWrong)

/-- 'laws.FnTellDeleteTopicsRequest': WHATEVER THE INPUT: true; the input reads as it did. -/
def fnTellDeleteTopicsRequestSpec : ChangeSpec := { name := "fnTellDeleteTopicsRequest", fn := fun _ => fun
  | [d1, d2] => { results := [.lit (.bool true)], args := [d1, d2] }
  | _ => none }
def fnTellDeleteTopicsRequestRow : OpenClaim := { program := "yteofeendidabgaagreatdoor", sum := "c31282a88f672573a56a3869b33032f24cb502d179f43ecf15f64a37b35b42db", func := "pub-mailsack/laws.FnTellDeleteTopicsRequest", spec := "fnTellDeleteTopicsRequest", inPlace := ["internal/reflectlite.ValueOf", "internal/reflectlite.Swapper", "(internal/reflectlite.Value).Len"], unfollowed := true, recurses := true, named := ["encoding/binary.BigEndian", "pub-mailsack/pub/kmsg/inner/kbin.ErrNotEnoughData"], loops := true, apart := false, laid := [("pub-mailsack/pub/kmsg/inner/kbin.ErrNotEnoughData", laid_pub_mailsack_pub_kmsg_inner_kbin_ErrNotEnoughData)] }
def FnTellDeleteTopicsRequestSaid : Prop := fnTellDeleteTopicsRequestRow.holds Tryz.pinned (OpenSpec.ofChange fnTellDeleteTopicsRequestSpec)

/-- ITS FALSE NEIGHBOUR: 'it returns false'. Refute it at one input. -/
def fnTellDeleteTopicsRequestWrong : ChangeSpec := { name := "fnTellDeleteTopicsRequest", fn := fun _ => fun
  | [d1, d2] => { results := [.lit (.bool false)], args := [d1, d2] }
  | _ => none }
def FnTellDeleteTopicsRequestWrongFalsely : Prop := fnTellDeleteTopicsRequestRow.holds Tryz.pinned (OpenSpec.ofChange fnTellDeleteTopicsRequestWrong)

/-- 'laws.FnTellListOffsetsResponse': WHATEVER THE INPUT: true; the input reads as it did. -/
def fnTellListOffsetsResponseSpec : ChangeSpec := { name := "fnTellListOffsetsResponse", fn := fun _ => fun
  | [d1, d2] => { results := [.lit (.bool true)], args := [d1, d2] }
  | _ => none }
def fnTellListOffsetsResponseRow : OpenClaim := { program := "yteofeendidabgaagreatdoor", sum := "c31282a88f672573a56a3869b33032f24cb502d179f43ecf15f64a37b35b42db", func := "pub-mailsack/laws.FnTellListOffsetsResponse", spec := "fnTellListOffsetsResponse", inPlace := ["internal/reflectlite.ValueOf", "internal/reflectlite.Swapper", "(internal/reflectlite.Value).Len"], unfollowed := true, recurses := true, named := ["encoding/binary.BigEndian", "pub-mailsack/pub/kmsg/inner/kbin.ErrNotEnoughData"], loops := true, apart := false, laid := [("pub-mailsack/pub/kmsg/inner/kbin.ErrNotEnoughData", laid_pub_mailsack_pub_kmsg_inner_kbin_ErrNotEnoughData)] }
def FnTellListOffsetsResponseSaid : Prop := fnTellListOffsetsResponseRow.holds Tryz.pinned (OpenSpec.ofChange fnTellListOffsetsResponseSpec)

/-- ITS FALSE NEIGHBOUR: 'it returns false'. Refute it at one input. -/
def fnTellListOffsetsResponseWrong : ChangeSpec := { name := "fnTellListOffsetsResponse", fn := fun _ => fun
  | [d1, d2] => { results := [.lit (.bool false)], args := [d1, d2] }
  | _ => none }
def FnTellListOffsetsResponseWrongFalsely : Prop := fnTellListOffsetsResponseRow.holds Tryz.pinned (OpenSpec.ofChange fnTellListOffsetsResponseWrong)

/- THE SECOND FORM. 'bulk': how many values and letters a reading holds, each counted each time it is reached (what is shared counts as often as it is met; a slice's spare places count too). A statement '..UptoSaid' is the law's where the arguments, and the package variables that the reading takes, are together of bulk at most 1048576: NARROWER than '..Said'. Prove '..Said' where nothing that the law and all that it calls make is longer than what came in: it says more and counts as full. Else prove '..UptoSaid'. A law counts once. -/
mutual
def uptoBulk {H : Type} : DataW H → Nat
  | .lit (.string bytes) => bytes.length + 1
  | .lit _ => 1
  | .nil => 1
  | .ptr d => uptoBulk d + 1
  | .slice elems spare => uptoBulkAll elems + uptoBulkAll spare + 1
  | .agg parts => uptoBulkAll parts + 1
  | .iface _ d => uptoBulk d + 1
  | .map entries => uptoBulkEntries entries + 1
  | .held _ => 1
def uptoBulkAll {H : Type} : List (DataW H) → Nat
  | [] => 0
  | d :: r => uptoBulk d + uptoBulkAll r
def uptoBulkEntries {H : Type} : List (Lit × DataW H) → Nat
  | [] => 0
  | x :: r => uptoBulkEntry x + uptoBulkEntries r
def uptoBulkEntry {H : Type} : Lit × DataW H → Nat
  | (.string bytes, d) => bytes.length + uptoBulk d + 1
  | (_, d) => uptoBulk d + 1
 end
def uptoSmall : (H : Type) → List (DataW H) → Bool := fun _ ds => decide (uptoBulkAll ds ≤ 1048576)
def OpenSpec.upto (s : _root_.Go.ChangeSpec) : _root_.Go.OpenSpec := { _root_.Go.OpenSpec.ofChange s with cond := some uptoSmall }

/-- 'laws.FnTellLeaveGroupResponse', WHERE WHAT IT READS IS OF BULK AT MOST 1048576: true; the input reads as it did. -/
def fnTellLeaveGroupResponseUptoRow : OpenClaim := { program := "yteofeendidabgaagreatdoor", sum := "c31282a88f672573a56a3869b33032f24cb502d179f43ecf15f64a37b35b42db", func := "pub-mailsack/laws.FnTellLeaveGroupResponse", spec := "fnTellLeaveGroupResponse", inPlace := ["internal/reflectlite.ValueOf", "internal/reflectlite.Swapper", "(internal/reflectlite.Value).Len"], unfollowed := true, recurses := true, named := ["encoding/binary.BigEndian", "pub-mailsack/pub/kmsg/inner/kbin.ErrNotEnoughData"], loops := true, apart := false, laid := [("pub-mailsack/pub/kmsg/inner/kbin.ErrNotEnoughData", laid_pub_mailsack_pub_kmsg_inner_kbin_ErrNotEnoughData)], narrowed := true }
def FnTellLeaveGroupResponseUptoSaid : Prop := fnTellLeaveGroupResponseUptoRow.holds Tryz.pinned (OpenSpec.upto fnTellLeaveGroupResponseSpec)

/-- 'laws.FnTellDeleteRecordsRequest', WHERE WHAT IT READS IS OF BULK AT MOST 1048576: true; the input reads as it did. -/
def fnTellDeleteRecordsRequestUptoRow : OpenClaim := { program := "yteofeendidabgaagreatdoor", sum := "c31282a88f672573a56a3869b33032f24cb502d179f43ecf15f64a37b35b42db", func := "pub-mailsack/laws.FnTellDeleteRecordsRequest", spec := "fnTellDeleteRecordsRequest", inPlace := ["internal/reflectlite.ValueOf", "internal/reflectlite.Swapper", "(internal/reflectlite.Value).Len"], unfollowed := true, recurses := true, named := ["encoding/binary.BigEndian", "pub-mailsack/pub/kmsg/inner/kbin.ErrNotEnoughData"], loops := true, apart := false, laid := [("pub-mailsack/pub/kmsg/inner/kbin.ErrNotEnoughData", laid_pub_mailsack_pub_kmsg_inner_kbin_ErrNotEnoughData)], narrowed := true }
def FnTellDeleteRecordsRequestUptoSaid : Prop := fnTellDeleteRecordsRequestUptoRow.holds Tryz.pinned (OpenSpec.upto fnTellDeleteRecordsRequestSpec)

/-- 'laws.FnTellCreateDelegationTokenResponse', WHERE WHAT IT READS IS OF BULK AT MOST 1048576: true; the input reads as it did. -/
def fnTellCreateDelegationTokenResponseUptoRow : OpenClaim := { program := "yteofeendidabgaagreatdoor", sum := "c31282a88f672573a56a3869b33032f24cb502d179f43ecf15f64a37b35b42db", func := "pub-mailsack/laws.FnTellCreateDelegationTokenResponse", spec := "fnTellCreateDelegationTokenResponse", inPlace := ["internal/reflectlite.ValueOf", "internal/reflectlite.Swapper", "(internal/reflectlite.Value).Len"], unfollowed := true, recurses := true, named := ["encoding/binary.BigEndian", "pub-mailsack/pub/kmsg/inner/kbin.ErrNotEnoughData"], loops := true, apart := false, laid := [("pub-mailsack/pub/kmsg/inner/kbin.ErrNotEnoughData", laid_pub_mailsack_pub_kmsg_inner_kbin_ErrNotEnoughData)], narrowed := true }
def FnTellCreateDelegationTokenResponseUptoSaid : Prop := fnTellCreateDelegationTokenResponseUptoRow.holds Tryz.pinned (OpenSpec.upto fnTellCreateDelegationTokenResponseSpec)

/-- 'laws.FnTellCreateACLsRequest', WHERE WHAT IT READS IS OF BULK AT MOST 1048576: true; the input reads as it did. -/
def fnTellCreateACLsRequestUptoRow : OpenClaim := { program := "yteofeendidabgaagreatdoor", sum := "c31282a88f672573a56a3869b33032f24cb502d179f43ecf15f64a37b35b42db", func := "pub-mailsack/laws.FnTellCreateACLsRequest", spec := "fnTellCreateACLsRequest", inPlace := ["internal/reflectlite.ValueOf", "internal/reflectlite.Swapper", "(internal/reflectlite.Value).Len"], unfollowed := true, recurses := true, named := ["encoding/binary.BigEndian", "pub-mailsack/pub/kmsg/inner/kbin.ErrNotEnoughData"], loops := true, apart := false, laid := [("pub-mailsack/pub/kmsg/inner/kbin.ErrNotEnoughData", laid_pub_mailsack_pub_kmsg_inner_kbin_ErrNotEnoughData)], narrowed := true }
def FnTellCreateACLsRequestUptoSaid : Prop := fnTellCreateACLsRequestUptoRow.holds Tryz.pinned (OpenSpec.upto fnTellCreateACLsRequestSpec)

/-- 'laws.FnTellDeleteTopicsRequest', WHERE WHAT IT READS IS OF BULK AT MOST 1048576: true; the input reads as it did. -/
def fnTellDeleteTopicsRequestUptoRow : OpenClaim := { program := "yteofeendidabgaagreatdoor", sum := "c31282a88f672573a56a3869b33032f24cb502d179f43ecf15f64a37b35b42db", func := "pub-mailsack/laws.FnTellDeleteTopicsRequest", spec := "fnTellDeleteTopicsRequest", inPlace := ["internal/reflectlite.ValueOf", "internal/reflectlite.Swapper", "(internal/reflectlite.Value).Len"], unfollowed := true, recurses := true, named := ["encoding/binary.BigEndian", "pub-mailsack/pub/kmsg/inner/kbin.ErrNotEnoughData"], loops := true, apart := false, laid := [("pub-mailsack/pub/kmsg/inner/kbin.ErrNotEnoughData", laid_pub_mailsack_pub_kmsg_inner_kbin_ErrNotEnoughData)], narrowed := true }
def FnTellDeleteTopicsRequestUptoSaid : Prop := fnTellDeleteTopicsRequestUptoRow.holds Tryz.pinned (OpenSpec.upto fnTellDeleteTopicsRequestSpec)

/-- 'laws.FnTellListOffsetsResponse', WHERE WHAT IT READS IS OF BULK AT MOST 1048576: true; the input reads as it did. -/
def fnTellListOffsetsResponseUptoRow : OpenClaim := { program := "yteofeendidabgaagreatdoor", sum := "c31282a88f672573a56a3869b33032f24cb502d179f43ecf15f64a37b35b42db", func := "pub-mailsack/laws.FnTellListOffsetsResponse", spec := "fnTellListOffsetsResponse", inPlace := ["internal/reflectlite.ValueOf", "internal/reflectlite.Swapper", "(internal/reflectlite.Value).Len"], unfollowed := true, recurses := true, named := ["encoding/binary.BigEndian", "pub-mailsack/pub/kmsg/inner/kbin.ErrNotEnoughData"], loops := true, apart := false, laid := [("pub-mailsack/pub/kmsg/inner/kbin.ErrNotEnoughData", laid_pub_mailsack_pub_kmsg_inner_kbin_ErrNotEnoughData)], narrowed := true }
def FnTellListOffsetsResponseUptoSaid : Prop := fnTellListOffsetsResponseUptoRow.holds Tryz.pinned (OpenSpec.upto fnTellListOffsetsResponseSpec)

end Rows
end Go.Proofs.YteofeendidabgaaGreatDoor
