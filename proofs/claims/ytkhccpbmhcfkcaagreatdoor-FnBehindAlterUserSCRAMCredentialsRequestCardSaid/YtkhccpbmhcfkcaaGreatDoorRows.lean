/-
  NARROWER THAN 'FOR EVERY INPUT', by the rows' own cells (each row's printed sentence says how): FnBehindUpdateFeaturesResponse: loops, laid · FnBehindDescribeConfigsRequest: loops, laid · FnBehindAlterUserSCRAMCredentialsRequest: loops, laid · FnFrameDescribeLogDirsRequest: loops, laid · FnFrameDescribeACLsRequest: loops, laid · FnFrameSyncGroupRequest: loops, laid.
  DERIVED. THE GIVEN ROWS OF THIS SEAT. 6 by the template 'for every input the law returns true; each argument reads behind the call as it read before'; 0 by the template 'total and deterministic' (their statements: YtkhccpbmhcfkcaaGreatDoorTotals.lean).
  GIVEN WITH THE SEED: the statements are not yours to turn. If you find one false, say at which input.
  Laid BY PROGRAM, IN A SANDBOX (cutbox-rows.mjs): the forced cells as the released guide's own fill.sh prints them over the translation 0be30543438689b3… (all of the seat's roots in one cut). By AI agents, Wed Nov 11 2026. No macro, syntax, notation, axiom, sorry.
-/
import Derived.Test.YtkhccpbmhcfkcaaGreatDoorChecked
import GoSem.Claim
import GoSem.ClaimJoined
import GoSem.ClaimMapViews
import Derived.JoinedTies
import Derived.KernelRfl
namespace Go.Proofs.YtkhccpbmhcfkcaaGreatDoor
/- THE CELL 'sum', in the pinned program and in every row, IS THE sha256 OF THE DUMP (.gsa) THAT YtkhccpbmhcfkcaaGreatDoorProg.lean LOADS. Nothing in Lean hashes anything: it is a label: what it is worth is what the hold of that sum in a sandbox is worth. -/
noncomputable def Tryz.pinned : Pinned := { name := "ytkhccpbmhcfkcaagreatdoor", sum := "0be30543438689b38136ff560e2dc60ad8a9fcdb9cc53b8675b268d4f9130fc1", checked := Tryz.checked }
namespace Rows
def none {H : Type} : Left H := { results := [], args := [] }

/- WHAT THE LISTED PACKAGE-LEVEL VARIABLES READ AS WHEN THE CALL BEGINS. Each datum BY PROGRAM (the guide's laid-datum.mjs) off the statement by which the dump's own 'gosem.cut.vars' lays the variable. In a bare row this is a premise. The card (YtkhccpbmhcfkcaaGreatDoorCards.lean) ties it to the program's text. -/
def laid_pub_mailsack_pub_kmsg_inner_kbin_ErrNotEnoughData {H : Type} : DataW H := .iface "*errors.errorString" (.ptr (.agg [.lit (.string [114, 101, 115, 112, 111, 110, 115, 101, 32, 100, 105, 100, 32, 110, 111, 116, 32, 99, 111, 110, 116, 97, 105, 110, 32, 101, 110, 111, 117, 103, 104, 32, 100, 97, 116, 97, 32, 116, 111, 32, 98, 101, 32, 118, 97, 108, 105, 100])]))

/-- 'laws.FnBehindUpdateFeaturesResponse': WHATEVER THE INPUT: true; the input reads as it did. -/
def fnBehindUpdateFeaturesResponseSpec : ChangeSpec := { name := "fnBehindUpdateFeaturesResponse", fn := fun _ => fun
  | [d1, d2, d3] => { results := [.lit (.bool true)], args := [d1, d2, d3] }
  | _ => none }
def fnBehindUpdateFeaturesResponseRow : OpenClaim := { program := "ytkhccpbmhcfkcaagreatdoor", sum := "0be30543438689b38136ff560e2dc60ad8a9fcdb9cc53b8675b268d4f9130fc1", func := "pub-mailsack/laws.FnBehindUpdateFeaturesResponse", spec := "fnBehindUpdateFeaturesResponse", inPlace := ["internal/reflectlite.ValueOf", "internal/reflectlite.Swapper", "(internal/reflectlite.Value).Len"], unfollowed := true, recurses := true, named := ["encoding/binary.BigEndian", "pub-mailsack/pub/kmsg/inner/kbin.ErrNotEnoughData"], loops := true, apart := false, laid := [("pub-mailsack/pub/kmsg/inner/kbin.ErrNotEnoughData", laid_pub_mailsack_pub_kmsg_inner_kbin_ErrNotEnoughData)] }
def FnBehindUpdateFeaturesResponseSaid : Prop := fnBehindUpdateFeaturesResponseRow.holds Tryz.pinned (OpenSpec.ofChange fnBehindUpdateFeaturesResponseSpec)

/-- ITS FALSE NEIGHBOUR: 'it returns false'. Refute it at one input. -/
def fnBehindUpdateFeaturesResponseWrong : ChangeSpec := { name := "fnBehindUpdateFeaturesResponse", fn := fun _ => fun
  | [d1, d2, d3] => { results := [.lit (.bool false)], args := [d1, d2, d3] }
  | _ => none }
def FnBehindUpdateFeaturesResponseWrongFalsely : Prop := fnBehindUpdateFeaturesResponseRow.holds Tryz.pinned (OpenSpec.ofChange fnBehindUpdateFeaturesResponseWrong)

/-- 'laws.FnBehindDescribeConfigsRequest': WHATEVER THE INPUT: true; the input reads as it did. -/
def fnBehindDescribeConfigsRequestSpec : ChangeSpec := { name := "fnBehindDescribeConfigsRequest", fn := fun _ => fun
  | [d1, d2, d3] => { results := [.lit (.bool true)], args := [d1, d2, d3] }
  | _ => none }
def fnBehindDescribeConfigsRequestRow : OpenClaim := { program := "ytkhccpbmhcfkcaagreatdoor", sum := "0be30543438689b38136ff560e2dc60ad8a9fcdb9cc53b8675b268d4f9130fc1", func := "pub-mailsack/laws.FnBehindDescribeConfigsRequest", spec := "fnBehindDescribeConfigsRequest", inPlace := ["internal/reflectlite.ValueOf", "internal/reflectlite.Swapper", "(internal/reflectlite.Value).Len"], unfollowed := true, recurses := true, named := ["encoding/binary.BigEndian", "pub-mailsack/pub/kmsg/inner/kbin.ErrNotEnoughData"], loops := true, apart := false, laid := [("pub-mailsack/pub/kmsg/inner/kbin.ErrNotEnoughData", laid_pub_mailsack_pub_kmsg_inner_kbin_ErrNotEnoughData)] }
def FnBehindDescribeConfigsRequestSaid : Prop := fnBehindDescribeConfigsRequestRow.holds Tryz.pinned (OpenSpec.ofChange fnBehindDescribeConfigsRequestSpec)

/-- ITS FALSE NEIGHBOUR: 'it returns false'. Refute it at one input. -/
def fnBehindDescribeConfigsRequestWrong : ChangeSpec := { name := "fnBehindDescribeConfigsRequest", fn := fun _ => fun
  | [d1, d2, d3] => { results := [.lit (.bool false)], args := [d1, d2, d3] }
  | _ => none }
def FnBehindDescribeConfigsRequestWrongFalsely : Prop := fnBehindDescribeConfigsRequestRow.holds Tryz.pinned (OpenSpec.ofChange fnBehindDescribeConfigsRequestWrong)

/-- 'laws.FnBehindAlterUserSCRAMCredentialsRequest': WHATEVER THE INPUT: true; the input reads as it did. -/
def fnBehindAlterUserSCRAMCredentialsRequestSpec : ChangeSpec := { name := "fnBehindAlterUserSCRAMCredentialsRequest", fn := fun _ => fun
  | [d1, d2, d3] => { results := [.lit (.bool true)], args := [d1, d2, d3] }
  | _ => none }
def fnBehindAlterUserSCRAMCredentialsRequestRow : OpenClaim := { program := "ytkhccpbmhcfkcaagreatdoor", sum := "0be30543438689b38136ff560e2dc60ad8a9fcdb9cc53b8675b268d4f9130fc1", func := "pub-mailsack/laws.FnBehindAlterUserSCRAMCredentialsRequest", spec := "fnBehindAlterUserSCRAMCredentialsRequest", inPlace := ["internal/reflectlite.ValueOf", "internal/reflectlite.Swapper", "(internal/reflectlite.Value).Len"], unfollowed := true, recurses := true, named := ["encoding/binary.BigEndian", "pub-mailsack/pub/kmsg/inner/kbin.ErrNotEnoughData"], loops := true, apart := false, laid := [("pub-mailsack/pub/kmsg/inner/kbin.ErrNotEnoughData", laid_pub_mailsack_pub_kmsg_inner_kbin_ErrNotEnoughData)] }
def FnBehindAlterUserSCRAMCredentialsRequestSaid : Prop := fnBehindAlterUserSCRAMCredentialsRequestRow.holds Tryz.pinned (OpenSpec.ofChange fnBehindAlterUserSCRAMCredentialsRequestSpec)

/-- ITS FALSE NEIGHBOUR: 'it returns false'. Refute it at one input. -/
def fnBehindAlterUserSCRAMCredentialsRequestWrong : ChangeSpec := { name := "fnBehindAlterUserSCRAMCredentialsRequest", fn := fun _ => fun
  | [d1, d2, d3] => { results := [.lit (.bool false)], args := [d1, d2, d3] }
  | _ => none }
def FnBehindAlterUserSCRAMCredentialsRequestWrongFalsely : Prop := fnBehindAlterUserSCRAMCredentialsRequestRow.holds Tryz.pinned (OpenSpec.ofChange fnBehindAlterUserSCRAMCredentialsRequestWrong)

/-- 'laws.FnFrameDescribeLogDirsRequest': WHATEVER THE INPUT: true; the input reads as it did. -/
def fnFrameDescribeLogDirsRequestSpec : ChangeSpec := { name := "fnFrameDescribeLogDirsRequest", fn := fun _ => fun
  | [d1, d2, d3, d4] => { results := [.lit (.bool true)], args := [d1, d2, d3, d4] }
  | _ => none }
def fnFrameDescribeLogDirsRequestRow : OpenClaim := { program := "ytkhccpbmhcfkcaagreatdoor", sum := "0be30543438689b38136ff560e2dc60ad8a9fcdb9cc53b8675b268d4f9130fc1", func := "pub-mailsack/laws.FnFrameDescribeLogDirsRequest", spec := "fnFrameDescribeLogDirsRequest", unfollowed := true, recurses := true, named := ["encoding/binary.BigEndian", "pub-mailsack/pub/kmsg/inner/kbin.ErrNotEnoughData"], loops := true, apart := false, laid := [("pub-mailsack/pub/kmsg/inner/kbin.ErrNotEnoughData", laid_pub_mailsack_pub_kmsg_inner_kbin_ErrNotEnoughData)] }
def FnFrameDescribeLogDirsRequestSaid : Prop := fnFrameDescribeLogDirsRequestRow.holds Tryz.pinned (OpenSpec.ofChange fnFrameDescribeLogDirsRequestSpec)

/-- ITS FALSE NEIGHBOUR: 'it returns false'. Refute it at one input. -/
def fnFrameDescribeLogDirsRequestWrong : ChangeSpec := { name := "fnFrameDescribeLogDirsRequest", fn := fun _ => fun
  | [d1, d2, d3, d4] => { results := [.lit (.bool false)], args := [d1, d2, d3, d4] }
  | _ => none }
def FnFrameDescribeLogDirsRequestWrongFalsely : Prop := fnFrameDescribeLogDirsRequestRow.holds Tryz.pinned (OpenSpec.ofChange fnFrameDescribeLogDirsRequestWrong)

/-- 'laws.FnFrameDescribeACLsRequest': WHATEVER THE INPUT: true; the input reads as it did. -/
def fnFrameDescribeACLsRequestSpec : ChangeSpec := { name := "fnFrameDescribeACLsRequest", fn := fun _ => fun
  | [d1, d2, d3, d4] => { results := [.lit (.bool true)], args := [d1, d2, d3, d4] }
  | _ => none }
def fnFrameDescribeACLsRequestRow : OpenClaim := { program := "ytkhccpbmhcfkcaagreatdoor", sum := "0be30543438689b38136ff560e2dc60ad8a9fcdb9cc53b8675b268d4f9130fc1", func := "pub-mailsack/laws.FnFrameDescribeACLsRequest", spec := "fnFrameDescribeACLsRequest", unfollowed := true, recurses := true, named := ["encoding/binary.BigEndian", "pub-mailsack/pub/kmsg/inner/kbin.ErrNotEnoughData"], loops := true, apart := false, laid := [("pub-mailsack/pub/kmsg/inner/kbin.ErrNotEnoughData", laid_pub_mailsack_pub_kmsg_inner_kbin_ErrNotEnoughData)] }
def FnFrameDescribeACLsRequestSaid : Prop := fnFrameDescribeACLsRequestRow.holds Tryz.pinned (OpenSpec.ofChange fnFrameDescribeACLsRequestSpec)

/-- ITS FALSE NEIGHBOUR: 'it returns false'. Refute it at one input. -/
def fnFrameDescribeACLsRequestWrong : ChangeSpec := { name := "fnFrameDescribeACLsRequest", fn := fun _ => fun
  | [d1, d2, d3, d4] => { results := [.lit (.bool false)], args := [d1, d2, d3, d4] }
  | _ => none }
def FnFrameDescribeACLsRequestWrongFalsely : Prop := fnFrameDescribeACLsRequestRow.holds Tryz.pinned (OpenSpec.ofChange fnFrameDescribeACLsRequestWrong)

/-- 'laws.FnFrameSyncGroupRequest': WHATEVER THE INPUT: true; the input reads as it did. -/
def fnFrameSyncGroupRequestSpec : ChangeSpec := { name := "fnFrameSyncGroupRequest", fn := fun _ => fun
  | [d1, d2, d3, d4] => { results := [.lit (.bool true)], args := [d1, d2, d3, d4] }
  | _ => none }
def fnFrameSyncGroupRequestRow : OpenClaim := { program := "ytkhccpbmhcfkcaagreatdoor", sum := "0be30543438689b38136ff560e2dc60ad8a9fcdb9cc53b8675b268d4f9130fc1", func := "pub-mailsack/laws.FnFrameSyncGroupRequest", spec := "fnFrameSyncGroupRequest", unfollowed := true, recurses := true, named := ["encoding/binary.BigEndian", "pub-mailsack/pub/kmsg/inner/kbin.ErrNotEnoughData"], loops := true, apart := false, laid := [("pub-mailsack/pub/kmsg/inner/kbin.ErrNotEnoughData", laid_pub_mailsack_pub_kmsg_inner_kbin_ErrNotEnoughData)] }
def FnFrameSyncGroupRequestSaid : Prop := fnFrameSyncGroupRequestRow.holds Tryz.pinned (OpenSpec.ofChange fnFrameSyncGroupRequestSpec)

/-- ITS FALSE NEIGHBOUR: 'it returns false'. Refute it at one input. -/
def fnFrameSyncGroupRequestWrong : ChangeSpec := { name := "fnFrameSyncGroupRequest", fn := fun _ => fun
  | [d1, d2, d3, d4] => { results := [.lit (.bool false)], args := [d1, d2, d3, d4] }
  | _ => none }
def FnFrameSyncGroupRequestWrongFalsely : Prop := fnFrameSyncGroupRequestRow.holds Tryz.pinned (OpenSpec.ofChange fnFrameSyncGroupRequestWrong)

/- THE SECOND FORM. 'bulk': how many values and letters a reading holds, each counted each time it is reached (what is shared counts as often as it is met; a slice's spare places count too). A statement '..UptoSaid' is the law's where the arguments, and the package variables that the reading takes, are together of bulk at most 1048576: NARROWER than '..Said'. Prove '..Said' where nothing that the law and all that it calls make is longer than what came in: it says more and counts as full. Else prove '..UptoSaid'. A law counts once. -/
mutual
def uptoBulk {H : Type} : DataW H → Nat
  | .lit (.string bytes) => bytes.length + 1
  | .lit _ => 1
  | .nil => 1
  | .ptr d => uptoBulk d + 1
  | .slice elems spare => uptoBulkAll elems + uptoBulkAll spare + 1
  | .agg parts => uptoBulkAll parts + 1
  | .iface _ d => uptoBulk d + 1
  | .map entries => uptoBulkEntries entries + 1
  | .held _ => 1
def uptoBulkAll {H : Type} : List (DataW H) → Nat
  | [] => 0
  | d :: r => uptoBulk d + uptoBulkAll r
def uptoBulkEntries {H : Type} : List (Lit × DataW H) → Nat
  | [] => 0
  | x :: r => uptoBulkEntry x + uptoBulkEntries r
def uptoBulkEntry {H : Type} : Lit × DataW H → Nat
  | (.string bytes, d) => bytes.length + uptoBulk d + 1
  | (_, d) => uptoBulk d + 1
 end
def uptoSmall : (H : Type) → List (DataW H) → Bool := fun _ ds => decide (uptoBulkAll ds ≤ 1048576)
def OpenSpec.upto (s : _root_.Go.ChangeSpec) : _root_.Go.OpenSpec := { _root_.Go.OpenSpec.ofChange s with cond := some uptoSmall }

/-- 'laws.FnBehindUpdateFeaturesResponse', WHERE WHAT IT READS IS OF BULK AT MOST 1048576: true; the input reads as it did. -/
def fnBehindUpdateFeaturesResponseUptoRow : OpenClaim := { program := "ytkhccpbmhcfkcaagreatdoor", sum := "0be30543438689b38136ff560e2dc60ad8a9fcdb9cc53b8675b268d4f9130fc1", func := "pub-mailsack/laws.FnBehindUpdateFeaturesResponse", spec := "fnBehindUpdateFeaturesResponse", inPlace := ["internal/reflectlite.ValueOf", "internal/reflectlite.Swapper", "(internal/reflectlite.Value).Len"], unfollowed := true, recurses := true, named := ["encoding/binary.BigEndian", "pub-mailsack/pub/kmsg/inner/kbin.ErrNotEnoughData"], loops := true, apart := false, laid := [("pub-mailsack/pub/kmsg/inner/kbin.ErrNotEnoughData", laid_pub_mailsack_pub_kmsg_inner_kbin_ErrNotEnoughData)], narrowed := true }
def FnBehindUpdateFeaturesResponseUptoSaid : Prop := fnBehindUpdateFeaturesResponseUptoRow.holds Tryz.pinned (OpenSpec.upto fnBehindUpdateFeaturesResponseSpec)

/-- 'laws.FnBehindDescribeConfigsRequest', WHERE WHAT IT READS IS OF BULK AT MOST 1048576: true; the input reads as it did. -/
def fnBehindDescribeConfigsRequestUptoRow : OpenClaim := { program := "ytkhccpbmhcfkcaagreatdoor", sum := "0be30543438689b38136ff560e2dc60ad8a9fcdb9cc53b8675b268d4f9130fc1", func := "pub-mailsack/laws.FnBehindDescribeConfigsRequest", spec := "fnBehindDescribeConfigsRequest", inPlace := ["internal/reflectlite.ValueOf", "internal/reflectlite.Swapper", "(internal/reflectlite.Value).Len"], unfollowed := true, recurses := true, named := ["encoding/binary.BigEndian", "pub-mailsack/pub/kmsg/inner/kbin.ErrNotEnoughData"], loops := true, apart := false, laid := [("pub-mailsack/pub/kmsg/inner/kbin.ErrNotEnoughData", laid_pub_mailsack_pub_kmsg_inner_kbin_ErrNotEnoughData)], narrowed := true }
def FnBehindDescribeConfigsRequestUptoSaid : Prop := fnBehindDescribeConfigsRequestUptoRow.holds Tryz.pinned (OpenSpec.upto fnBehindDescribeConfigsRequestSpec)

/-- 'laws.FnBehindAlterUserSCRAMCredentialsRequest', WHERE WHAT IT READS IS OF BULK AT MOST 1048576: true; the input reads as it did. -/
def fnBehindAlterUserSCRAMCredentialsRequestUptoRow : OpenClaim := { program := "ytkhccpbmhcfkcaagreatdoor", sum := "0be30543438689b38136ff560e2dc60ad8a9fcdb9cc53b8675b268d4f9130fc1", func := "pub-mailsack/laws.FnBehindAlterUserSCRAMCredentialsRequest", spec := "fnBehindAlterUserSCRAMCredentialsRequest", inPlace := ["internal/reflectlite.ValueOf", "internal/reflectlite.Swapper", "(internal/reflectlite.Value).Len"], unfollowed := true, recurses := true, named := ["encoding/binary.BigEndian", "pub-mailsack/pub/kmsg/inner/kbin.ErrNotEnoughData"], loops := true, apart := false, laid := [("pub-mailsack/pub/kmsg/inner/kbin.ErrNotEnoughData", laid_pub_mailsack_pub_kmsg_inner_kbin_ErrNotEnoughData)], narrowed := true }
def FnBehindAlterUserSCRAMCredentialsRequestUptoSaid : Prop := fnBehindAlterUserSCRAMCredentialsRequestUptoRow.holds Tryz.pinned (OpenSpec.upto fnBehindAlterUserSCRAMCredentialsRequestSpec)

/-- 'laws.FnFrameDescribeLogDirsRequest', WHERE WHAT IT READS IS OF BULK AT MOST 1048576: true; the input reads as it did. -/
def fnFrameDescribeLogDirsRequestUptoRow : OpenClaim := { program := "ytkhccpbmhcfkcaagreatdoor", sum := "0be30543438689b38136ff560e2dc60ad8a9fcdb9cc53b8675b268d4f9130fc1", func := "pub-mailsack/laws.FnFrameDescribeLogDirsRequest", spec := "fnFrameDescribeLogDirsRequest", unfollowed := true, recurses := true, named := ["encoding/binary.BigEndian", "pub-mailsack/pub/kmsg/inner/kbin.ErrNotEnoughData"], loops := true, apart := false, laid := [("pub-mailsack/pub/kmsg/inner/kbin.ErrNotEnoughData", laid_pub_mailsack_pub_kmsg_inner_kbin_ErrNotEnoughData)], narrowed := true }
def FnFrameDescribeLogDirsRequestUptoSaid : Prop := fnFrameDescribeLogDirsRequestUptoRow.holds Tryz.pinned (OpenSpec.upto fnFrameDescribeLogDirsRequestSpec)

/-- 'laws.FnFrameDescribeACLsRequest', WHERE WHAT IT READS IS OF BULK AT MOST 1048576: true; the input reads as it did. -/
def fnFrameDescribeACLsRequestUptoRow : OpenClaim := { program := "ytkhccpbmhcfkcaagreatdoor", sum := "0be30543438689b38136ff560e2dc60ad8a9fcdb9cc53b8675b268d4f9130fc1", func := "pub-mailsack/laws.FnFrameDescribeACLsRequest", spec := "fnFrameDescribeACLsRequest", unfollowed := true, recurses := true, named := ["encoding/binary.BigEndian", "pub-mailsack/pub/kmsg/inner/kbin.ErrNotEnoughData"], loops := true, apart := false, laid := [("pub-mailsack/pub/kmsg/inner/kbin.ErrNotEnoughData", laid_pub_mailsack_pub_kmsg_inner_kbin_ErrNotEnoughData)], narrowed := true }
def FnFrameDescribeACLsRequestUptoSaid : Prop := fnFrameDescribeACLsRequestUptoRow.holds Tryz.pinned (OpenSpec.upto fnFrameDescribeACLsRequestSpec)

/-- 'laws.FnFrameSyncGroupRequest', WHERE WHAT IT READS IS OF BULK AT MOST 1048576: true; the input reads as it did. -/
def fnFrameSyncGroupRequestUptoRow : OpenClaim := { program := "ytkhccpbmhcfkcaagreatdoor", sum := "0be30543438689b38136ff560e2dc60ad8a9fcdb9cc53b8675b268d4f9130fc1", func := "pub-mailsack/laws.FnFrameSyncGroupRequest", spec := "fnFrameSyncGroupRequest", unfollowed := true, recurses := true, named := ["encoding/binary.BigEndian", "pub-mailsack/pub/kmsg/inner/kbin.ErrNotEnoughData"], loops := true, apart := false, laid := [("pub-mailsack/pub/kmsg/inner/kbin.ErrNotEnoughData", laid_pub_mailsack_pub_kmsg_inner_kbin_ErrNotEnoughData)], narrowed := true }
def FnFrameSyncGroupRequestUptoSaid : Prop := fnFrameSyncGroupRequestUptoRow.holds Tryz.pinned (OpenSpec.upto fnFrameSyncGroupRequestSpec)

end Rows
end Go.Proofs.YtkhccpbmhcfkcaaGreatDoor
