/-
  NARROWER THAN 'FOR EVERY INPUT', by the rows' own cells (each row's printed sentence says how): FnBehindDescribeConfigsRequest: loops, laid · FnBehindAlterUserSCRAMCredentialsRequest: loops, laid · FnBehindWriteTxnMarkersRequest: loops, laid · FnBehindUpdateRaftVoterRequest: loops, laid · FnBehindReadShareGroupStateResponse: loops, laid · FnBehindAlterPartitionRequest: loops, laid · FnBehindDescribeDelegationTokenResponse: loops, laid.
  DERIVED. THE GIVEN ROWS OF THIS SEAT. 7 by the template 'for every input the law returns true; each argument reads behind the call as it read before'; 0 by the template 'total and deterministic' (their statements: YtanohglljnajiaaGreatDoorTotals.lean).
  GIVEN WITH THE SEED: the statements are not yours to turn. If you find one false, say at which input.
  Laid BY PROGRAM, IN A SANDBOX (cutbox-rows.mjs): the forced cells as the released guide's own fill.sh prints them over the translation 8d4db153483daff4… (all of the seat's roots in one cut). By AI agents, Wed Nov 11 2026. No macro, syntax, notation, axiom, sorry.
-/
import Derived.Test.YtanohglljnajiaaGreatDoorChecked
import GoSem.Claim
import GoSem.ClaimJoined
import GoSem.ClaimMapViews
import Derived.JoinedTies
import Derived.KernelRfl
namespace Go.Proofs.YtanohglljnajiaaGreatDoor
/- THE CELL 'sum', in the pinned program and in every row, IS THE sha256 OF THE DUMP (.gsa) THAT YtanohglljnajiaaGreatDoorProg.lean LOADS. Nothing in Lean hashes anything: it is a label: what it is worth is what the hold of that sum in a sandbox is worth. -/
noncomputable def Tryz.pinned : Pinned := { name := "ytanohglljnajiaagreatdoor", sum := "8d4db153483daff4ddfb61d5bd847d2ea2ffa3443e7b4ff7e8d5d43f58ae24e5", checked := Tryz.checked }
namespace Rows
def none {H : Type} : Left H := { results := [], args := [] }

/- WHAT THE LISTED PACKAGE-LEVEL VARIABLES READ AS WHEN THE CALL BEGINS. Each datum BY PROGRAM (the guide's laid-datum.mjs) off the statement by which the dump's own 'gosem.cut.vars' lays the variable. In a bare row this is a premise. The card (YtanohglljnajiaaGreatDoorCards.lean) ties it to the program's text. -/
def laid_pub_mailsack_pub_kmsg_inner_kbin_ErrNotEnoughData {H : Type} : DataW H := .iface "*errors.errorString" (.ptr (.agg [.lit (.string [114, 101, 115, 112, 111, 110, 115, 101, 32, 100, 105, 100, 32, 110, 111, 116, 32, 99, 111, 110, 116, 97, 105, 110, 32, 101, 110, 111, 117, 103, 104, 32, 100, 97, 116, 97, 32, 116, 111, 32, 98, 101, 32, 118, 97, 108, 105, 100])]))

/-- 'laws.FnBehindDescribeConfigsRequest': WHATEVER THE INPUT: true; the input reads as it did. -/
def fnBehindDescribeConfigsRequestSpec : ChangeSpec := { name := "fnBehindDescribeConfigsRequest", fn := fun _ => fun
  | [d1, d2, d3] => { results := [.lit (.bool true)], args := [d1, d2, d3] }
  | _ => none }
def fnBehindDescribeConfigsRequestRow : OpenClaim := { program := "ytanohglljnajiaagreatdoor", sum := "8d4db153483daff4ddfb61d5bd847d2ea2ffa3443e7b4ff7e8d5d43f58ae24e5", func := "pub-mailsack/laws.FnBehindDescribeConfigsRequest", spec := "fnBehindDescribeConfigsRequest", inPlace := ["internal/reflectlite.ValueOf", "internal/reflectlite.Swapper", "(internal/reflectlite.Value).Len"], unfollowed := true, recurses := true, named := ["encoding/binary.BigEndian", "pub-mailsack/pub/kmsg/inner/kbin.ErrNotEnoughData"], loops := true, apart := false, laid := [("pub-mailsack/pub/kmsg/inner/kbin.ErrNotEnoughData", laid_pub_mailsack_pub_kmsg_inner_kbin_ErrNotEnoughData)] }
def FnBehindDescribeConfigsRequestSaid : Prop := fnBehindDescribeConfigsRequestRow.holds Tryz.pinned (OpenSpec.ofChange fnBehindDescribeConfigsRequestSpec)

/-- ITS FALSE NEIGHBOUR: 'it returns false'. Refute it at one input. -/
def fnBehindDescribeConfigsRequestWrong : ChangeSpec := { name := "fnBehindDescribeConfigsRequest", fn := fun _ => fun
  | [d1, d2, d3] => { results := [.lit (.bool false)], args := [d1, d2, d3] }
  | _ => none }
def FnBehindDescribeConfigsRequestWrongFalsely : Prop := fnBehindDescribeConfigsRequestRow.holds Tryz.pinned (OpenSpec.ofChange fnBehindDescribeConfigsRequestWrong)

/-- 'laws.FnBehindAlterUserSCRAMCredentialsRequest': WHATEVER THE INPUT: true; the input reads as it did. -/
def fnBehindAlterUserSCRAMCredentialsRequestSpec : ChangeSpec := { name := "fnBehindAlterUserSCRAMCredentialsRequest", fn := fun _ => fun
  | [d1, d2, d3] => { results := [.lit (.bool true)], args := [d1, d2, d3] }
  | _ => none }
def fnBehindAlterUserSCRAMCredentialsRequestRow : OpenClaim := { program := "ytanohglljnajiaagreatdoor", sum := "8d4db153483daff4ddfb61d5bd847d2ea2ffa3443e7b4ff7e8d5d43f58ae24e5", func := "pub-mailsack/laws.FnBehindAlterUserSCRAMCredentialsRequest", spec := "fnBehindAlterUserSCRAMCredentialsRequest", inPlace := ["internal/reflectlite.ValueOf", "internal/reflectlite.Swapper", "(internal/reflectlite.Value).Len"], unfollowed := true, recurses := true, named := ["encoding/binary.BigEndian", "pub-mailsack/pub/kmsg/inner/kbin.ErrNotEnoughData"], loops := true, apart := false, laid := [("pub-mailsack/pub/kmsg/inner/kbin.ErrNotEnoughData", laid_pub_mailsack_pub_kmsg_inner_kbin_ErrNotEnoughData)] }
def FnBehindAlterUserSCRAMCredentialsRequestSaid : Prop := fnBehindAlterUserSCRAMCredentialsRequestRow.holds Tryz.pinned (OpenSpec.ofChange fnBehindAlterUserSCRAMCredentialsRequestSpec)

/-- ITS FALSE NEIGHBOUR: 'it returns false'. Refute it at one input. -/
def fnBehindAlterUserSCRAMCredentialsRequestWrong : ChangeSpec := { name := "fnBehindAlterUserSCRAMCredentialsRequest", fn := fun _ => fun
  | [d1, d2, d3] => { results := [.lit (.bool false)], args := [d1, d2, d3] }
  | _ => none }
def FnBehindAlterUserSCRAMCredentialsRequestWrongFalsely : Prop := fnBehindAlterUserSCRAMCredentialsRequestRow.holds Tryz.pinned (OpenSpec.ofChange fnBehindAlterUserSCRAMCredentialsRequestWrong)

/-- 'laws.FnBehindWriteTxnMarkersRequest': WHATEVER THE INPUT: true; the input reads as it did. -/
def fnBehindWriteTxnMarkersRequestSpec : ChangeSpec := { name := "fnBehindWriteTxnMarkersRequest", fn := fun _ => fun
  | [d1, d2, d3] => { results := [.lit (.bool true)], args := [d1, d2, d3] }
  | _ => none }
def fnBehindWriteTxnMarkersRequestRow : OpenClaim := { program := "ytanohglljnajiaagreatdoor", sum := "8d4db153483daff4ddfb61d5bd847d2ea2ffa3443e7b4ff7e8d5d43f58ae24e5", func := "pub-mailsack/laws.FnBehindWriteTxnMarkersRequest", spec := "fnBehindWriteTxnMarkersRequest", inPlace := ["internal/reflectlite.ValueOf", "internal/reflectlite.Swapper", "(internal/reflectlite.Value).Len"], unfollowed := true, recurses := true, named := ["encoding/binary.BigEndian", "pub-mailsack/pub/kmsg/inner/kbin.ErrNotEnoughData"], loops := true, apart := false, laid := [("pub-mailsack/pub/kmsg/inner/kbin.ErrNotEnoughData", laid_pub_mailsack_pub_kmsg_inner_kbin_ErrNotEnoughData)] }
def FnBehindWriteTxnMarkersRequestSaid : Prop := fnBehindWriteTxnMarkersRequestRow.holds Tryz.pinned (OpenSpec.ofChange fnBehindWriteTxnMarkersRequestSpec)

/-- ITS FALSE NEIGHBOUR: 'it returns false'. Refute it at one input. -/
def fnBehindWriteTxnMarkersRequestWrong : ChangeSpec := { name := "fnBehindWriteTxnMarkersRequest", fn := fun _ => fun
  | [d1, d2, d3] => { results := [.lit (.bool false)], args := [d1, d2, d3] }
  | _ => none }
def FnBehindWriteTxnMarkersRequestWrongFalsely : Prop := fnBehindWriteTxnMarkersRequestRow.holds Tryz.pinned (OpenSpec.ofChange fnBehindWriteTxnMarkersRequestWrong)

/-- 'laws.FnBehindUpdateRaftVoterRequest': WHATEVER THE INPUT: true; the input reads as it did. -/
def fnBehindUpdateRaftVoterRequestSpec : ChangeSpec := { name := "fnBehindUpdateRaftVoterRequest", fn := fun _ => fun
  | [d1, d2, d3] => { results := [.lit (.bool true)], args := [d1, d2, d3] }
  | _ => none }
def fnBehindUpdateRaftVoterRequestRow : OpenClaim := { program := "ytanohglljnajiaagreatdoor", sum := "8d4db153483daff4ddfb61d5bd847d2ea2ffa3443e7b4ff7e8d5d43f58ae24e5", func := "pub-mailsack/laws.FnBehindUpdateRaftVoterRequest", spec := "fnBehindUpdateRaftVoterRequest", inPlace := ["internal/reflectlite.ValueOf", "internal/reflectlite.Swapper", "(internal/reflectlite.Value).Len"], unfollowed := true, recurses := true, named := ["encoding/binary.BigEndian", "pub-mailsack/pub/kmsg/inner/kbin.ErrNotEnoughData"], loops := true, apart := false, laid := [("pub-mailsack/pub/kmsg/inner/kbin.ErrNotEnoughData", laid_pub_mailsack_pub_kmsg_inner_kbin_ErrNotEnoughData)] }
def FnBehindUpdateRaftVoterRequestSaid : Prop := fnBehindUpdateRaftVoterRequestRow.holds Tryz.pinned (OpenSpec.ofChange fnBehindUpdateRaftVoterRequestSpec)

/-- ITS FALSE NEIGHBOUR: 'it returns false'. Refute it at one input. -/
def fnBehindUpdateRaftVoterRequestWrong : ChangeSpec := { name := "fnBehindUpdateRaftVoterRequest", fn := fun _ => fun
  | [d1, d2, d3] => { results := [.lit (.bool false)], args := [d1, d2, d3] }
  | _ => none }
def FnBehindUpdateRaftVoterRequestWrongFalsely : Prop := fnBehindUpdateRaftVoterRequestRow.holds Tryz.pinned (OpenSpec.ofChange fnBehindUpdateRaftVoterRequestWrong)

/-- 'laws.FnBehindReadShareGroupStateResponse': WHATEVER THE INPUT: true; the input reads as it did. -/
def fnBehindReadShareGroupStateResponseSpec : ChangeSpec := { name := "fnBehindReadShareGroupStateResponse", fn := fun _ => fun
  | [d1, d2, d3] => { results := [.lit (.bool true)], args := [d1, d2, d3] }
  | _ => none }
def fnBehindReadShareGroupStateResponseRow : OpenClaim := { program := "ytanohglljnajiaagreatdoor", sum := "8d4db153483daff4ddfb61d5bd847d2ea2ffa3443e7b4ff7e8d5d43f58ae24e5", func := "pub-mailsack/laws.FnBehindReadShareGroupStateResponse", spec := "fnBehindReadShareGroupStateResponse", inPlace := ["internal/reflectlite.ValueOf", "internal/reflectlite.Swapper", "(internal/reflectlite.Value).Len"], unfollowed := true, recurses := true, named := ["encoding/binary.BigEndian", "pub-mailsack/pub/kmsg/inner/kbin.ErrNotEnoughData"], loops := true, apart := false, laid := [("pub-mailsack/pub/kmsg/inner/kbin.ErrNotEnoughData", laid_pub_mailsack_pub_kmsg_inner_kbin_ErrNotEnoughData)] }
def FnBehindReadShareGroupStateResponseSaid : Prop := fnBehindReadShareGroupStateResponseRow.holds Tryz.pinned (OpenSpec.ofChange fnBehindReadShareGroupStateResponseSpec)

/-- ITS FALSE NEIGHBOUR: 'it returns false'. Refute it at one input. -/
def fnBehindReadShareGroupStateResponseWrong : ChangeSpec := { name := "fnBehindReadShareGroupStateResponse", fn := fun _ => fun
  | [d1, d2, d3] => { results := [.lit (.bool false)], args := [d1, d2, d3] }
  | _ => none }
def FnBehindReadShareGroupStateResponseWrongFalsely : Prop := fnBehindReadShareGroupStateResponseRow.holds Tryz.pinned (OpenSpec.ofChange fnBehindReadShareGroupStateResponseWrong)

/-- 'laws.FnBehindAlterPartitionRequest': WHATEVER THE INPUT: true; the input reads as it did. -/
def fnBehindAlterPartitionRequestSpec : ChangeSpec := { name := "fnBehindAlterPartitionRequest", fn := fun _ => fun
  | [d1, d2, d3] => { results := [.lit (.bool true)], args := [d1, d2, d3] }
  | _ => none }
def fnBehindAlterPartitionRequestRow : OpenClaim := { program := "ytanohglljnajiaagreatdoor", sum := "8d4db153483daff4ddfb61d5bd847d2ea2ffa3443e7b4ff7e8d5d43f58ae24e5", func := "pub-mailsack/laws.FnBehindAlterPartitionRequest", spec := "fnBehindAlterPartitionRequest", inPlace := ["internal/reflectlite.ValueOf", "internal/reflectlite.Swapper", "(internal/reflectlite.Value).Len"], unfollowed := true, recurses := true, named := ["encoding/binary.BigEndian", "pub-mailsack/pub/kmsg/inner/kbin.ErrNotEnoughData"], loops := true, apart := false, laid := [("pub-mailsack/pub/kmsg/inner/kbin.ErrNotEnoughData", laid_pub_mailsack_pub_kmsg_inner_kbin_ErrNotEnoughData)] }
def FnBehindAlterPartitionRequestSaid : Prop := fnBehindAlterPartitionRequestRow.holds Tryz.pinned (OpenSpec.ofChange fnBehindAlterPartitionRequestSpec)

/-- ITS FALSE NEIGHBOUR: 'it returns false'. Refute it at one input. -/
def fnBehindAlterPartitionRequestWrong : ChangeSpec := { name := "fnBehindAlterPartitionRequest", fn := fun _ => fun
  | [d1, d2, d3] => { results := [.lit (.bool false)], args := [d1, d2, d3] }
  | _ => none }
def FnBehindAlterPartitionRequestWrongFalsely : Prop := fnBehindAlterPartitionRequestRow.holds Tryz.pinned (OpenSpec.ofChange fnBehindAlterPartitionRequestWrong)

/-- 'laws.FnBehindDescribeDelegationTokenResponse': WHATEVER THE INPUT: true; the input reads as it did. -/
def fnBehindDescribeDelegationTokenResponseSpec : ChangeSpec := { name := "fnBehindDescribeDelegationTokenResponse", fn := fun _ => fun
  | [d1, d2, d3] => { results := [.lit (.bool true)], args := [d1, d2, d3] }
  | _ => none }
def fnBehindDescribeDelegationTokenResponseRow : OpenClaim := { program := "ytanohglljnajiaagreatdoor", sum := "8d4db153483daff4ddfb61d5bd847d2ea2ffa3443e7b4ff7e8d5d43f58ae24e5", func := "pub-mailsack/laws.FnBehindDescribeDelegationTokenResponse", spec := "fnBehindDescribeDelegationTokenResponse", inPlace := ["internal/reflectlite.ValueOf", "internal/reflectlite.Swapper", "(internal/reflectlite.Value).Len"], unfollowed := true, recurses := true, named := ["encoding/binary.BigEndian", "pub-mailsack/pub/kmsg/inner/kbin.ErrNotEnoughData"], loops := true, apart := false, laid := [("pub-mailsack/pub/kmsg/inner/kbin.ErrNotEnoughData", laid_pub_mailsack_pub_kmsg_inner_kbin_ErrNotEnoughData)] }
def FnBehindDescribeDelegationTokenResponseSaid : Prop := fnBehindDescribeDelegationTokenResponseRow.holds Tryz.pinned (OpenSpec.ofChange fnBehindDescribeDelegationTokenResponseSpec)

/-- ITS FALSE NEIGHBOUR: 'it returns false'. Refute it at one input. -/
def fnBehindDescribeDelegationTokenResponseWrong : ChangeSpec := { name := "fnBehindDescribeDelegationTokenResponse", fn := fun _ => fun
  | [d1, d2, d3] => { results := [.lit (.bool false)], args := [d1, d2, d3] }
  | _ => none }
def FnBehindDescribeDelegationTokenResponseWrongFalsely : Prop := fnBehindDescribeDelegationTokenResponseRow.holds Tryz.pinned (OpenSpec.ofChange fnBehindDescribeDelegationTokenResponseWrong)

/- THE SECOND FORM. 'bulk': how many values and letters a reading holds, each counted each time it is reached (what is shared counts as often as it is met; a slice's spare places count too). A statement '..UptoSaid' is the law's where the arguments, and the package variables that the reading takes, are together of bulk at most 1048576: NARROWER than '..Said'. Prove '..Said' where nothing that the law and all that it calls make is longer than what came in: it says more and counts as full. Else prove '..UptoSaid'. A law counts once. -/
mutual
def uptoBulk {H : Type} : DataW H → Nat
  | .lit (.string bytes) => bytes.length + 1
  | .lit _ => 1
  | .nil => 1
  | .ptr d => uptoBulk d + 1
  | .slice elems spare => uptoBulkAll elems + uptoBulkAll spare + 1
  | .agg parts => uptoBulkAll parts + 1
  | .iface _ d => uptoBulk d + 1
  | .map entries => uptoBulkEntries entries + 1
  | .held _ => 1
def uptoBulkAll {H : Type} : List (DataW H) → Nat
  | [] => 0
  | d :: r => uptoBulk d + uptoBulkAll r
def uptoBulkEntries {H : Type} : List (Lit × DataW H) → Nat
  | [] => 0
  | x :: r => uptoBulkEntry x + uptoBulkEntries r
def uptoBulkEntry {H : Type} : Lit × DataW H → Nat
  | (.string bytes, d) => bytes.length + uptoBulk d + 1
  | (_, d) => uptoBulk d + 1
 end
def uptoSmall : (H : Type) → List (DataW H) → Bool := fun _ ds => decide (uptoBulkAll ds ≤ 1048576)
def OpenSpec.upto (s : _root_.Go.ChangeSpec) : _root_.Go.OpenSpec := { _root_.Go.OpenSpec.ofChange s with cond := some uptoSmall }

/-- 'laws.FnBehindDescribeConfigsRequest', WHERE WHAT IT READS IS OF BULK AT MOST 1048576: true; the input reads as it did. -/
def fnBehindDescribeConfigsRequestUptoRow : OpenClaim := { program := "ytanohglljnajiaagreatdoor", sum := "8d4db153483daff4ddfb61d5bd847d2ea2ffa3443e7b4ff7e8d5d43f58ae24e5", func := "pub-mailsack/laws.FnBehindDescribeConfigsRequest", spec := "fnBehindDescribeConfigsRequest", inPlace := ["internal/reflectlite.ValueOf", "internal/reflectlite.Swapper", "(internal/reflectlite.Value).Len"], unfollowed := true, recurses := true, named := ["encoding/binary.BigEndian", "pub-mailsack/pub/kmsg/inner/kbin.ErrNotEnoughData"], loops := true, apart := false, laid := [("pub-mailsack/pub/kmsg/inner/kbin.ErrNotEnoughData", laid_pub_mailsack_pub_kmsg_inner_kbin_ErrNotEnoughData)], narrowed := true }
def FnBehindDescribeConfigsRequestUptoSaid : Prop := fnBehindDescribeConfigsRequestUptoRow.holds Tryz.pinned (OpenSpec.upto fnBehindDescribeConfigsRequestSpec)

/-- 'laws.FnBehindAlterUserSCRAMCredentialsRequest', WHERE WHAT IT READS IS OF BULK AT MOST 1048576: true; the input reads as it did. -/
def fnBehindAlterUserSCRAMCredentialsRequestUptoRow : OpenClaim := { program := "ytanohglljnajiaagreatdoor", sum := "8d4db153483daff4ddfb61d5bd847d2ea2ffa3443e7b4ff7e8d5d43f58ae24e5", func := "pub-mailsack/laws.FnBehindAlterUserSCRAMCredentialsRequest", spec := "fnBehindAlterUserSCRAMCredentialsRequest", inPlace := ["internal/reflectlite.ValueOf", "internal/reflectlite.Swapper", "(internal/reflectlite.Value).Len"], unfollowed := true, recurses := true, named := ["encoding/binary.BigEndian", "pub-mailsack/pub/kmsg/inner/kbin.ErrNotEnoughData"], loops := true, apart := false, laid := [("pub-mailsack/pub/kmsg/inner/kbin.ErrNotEnoughData", laid_pub_mailsack_pub_kmsg_inner_kbin_ErrNotEnoughData)], narrowed := true }
def FnBehindAlterUserSCRAMCredentialsRequestUptoSaid : Prop := fnBehindAlterUserSCRAMCredentialsRequestUptoRow.holds Tryz.pinned (OpenSpec.upto fnBehindAlterUserSCRAMCredentialsRequestSpec)

/-- 'laws.FnBehindWriteTxnMarkersRequest', WHERE WHAT IT READS IS OF BULK AT MOST 1048576: true; the input reads as it did. -/
def fnBehindWriteTxnMarkersRequestUptoRow : OpenClaim := { program := "ytanohglljnajiaagreatdoor", sum := "8d4db153483daff4ddfb61d5bd847d2ea2ffa3443e7b4ff7e8d5d43f58ae24e5", func := "pub-mailsack/laws.FnBehindWriteTxnMarkersRequest", spec := "fnBehindWriteTxnMarkersRequest", inPlace := ["internal/reflectlite.ValueOf", "internal/reflectlite.Swapper", "(internal/reflectlite.Value).Len"], unfollowed := true, recurses := true, named := ["encoding/binary.BigEndian", "pub-mailsack/pub/kmsg/inner/kbin.ErrNotEnoughData"], loops := true, apart := false, laid := [("pub-mailsack/pub/kmsg/inner/kbin.ErrNotEnoughData", laid_pub_mailsack_pub_kmsg_inner_kbin_ErrNotEnoughData)], narrowed := true }
def FnBehindWriteTxnMarkersRequestUptoSaid : Prop := fnBehindWriteTxnMarkersRequestUptoRow.holds Tryz.pinned (OpenSpec.upto fnBehindWriteTxnMarkersRequestSpec)

/-- 'laws.FnBehindUpdateRaftVoterRequest', WHERE WHAT IT READS IS OF BULK AT MOST 1048576: true; the input reads as it did. -/
def fnBehindUpdateRaftVoterRequestUptoRow : OpenClaim := { program := "ytanohglljnajiaagreatdoor", sum := "8d4db153483daff4ddfb61d5bd847d2ea2ffa3443e7b4ff7e8d5d43f58ae24e5", func := "pub-mailsack/laws.FnBehindUpdateRaftVoterRequest", spec := "fnBehindUpdateRaftVoterRequest", inPlace := ["internal/reflectlite.ValueOf", "internal/reflectlite.Swapper", "(internal/reflectlite.Value).Len"], unfollowed := true, recurses := true, named := ["encoding/binary.BigEndian", "pub-mailsack/pub/kmsg/inner/kbin.ErrNotEnoughData"], loops := true, apart := false, laid := [("pub-mailsack/pub/kmsg/inner/kbin.ErrNotEnoughData", laid_pub_mailsack_pub_kmsg_inner_kbin_ErrNotEnoughData)], narrowed := true }
def FnBehindUpdateRaftVoterRequestUptoSaid : Prop := fnBehindUpdateRaftVoterRequestUptoRow.holds Tryz.pinned (OpenSpec.upto fnBehindUpdateRaftVoterRequestSpec)

/-- 'laws.FnBehindReadShareGroupStateResponse', WHERE WHAT IT READS IS OF BULK AT MOST 1048576: true; the input reads as it did. -/
def fnBehindReadShareGroupStateResponseUptoRow : OpenClaim := { program := "ytanohglljnajiaagreatdoor", sum := "8d4db153483daff4ddfb61d5bd847d2ea2ffa3443e7b4ff7e8d5d43f58ae24e5", func := "pub-mailsack/laws.FnBehindReadShareGroupStateResponse", spec := "fnBehindReadShareGroupStateResponse", inPlace := ["internal/reflectlite.ValueOf", "internal/reflectlite.Swapper", "(internal/reflectlite.Value).Len"], unfollowed := true, recurses := true, named := ["encoding/binary.BigEndian", "pub-mailsack/pub/kmsg/inner/kbin.ErrNotEnoughData"], loops := true, apart := false, laid := [("pub-mailsack/pub/kmsg/inner/kbin.ErrNotEnoughData", laid_pub_mailsack_pub_kmsg_inner_kbin_ErrNotEnoughData)], narrowed := true }
def FnBehindReadShareGroupStateResponseUptoSaid : Prop := fnBehindReadShareGroupStateResponseUptoRow.holds Tryz.pinned (OpenSpec.upto fnBehindReadShareGroupStateResponseSpec)

/-- 'laws.FnBehindAlterPartitionRequest', WHERE WHAT IT READS IS OF BULK AT MOST 1048576: true; the input reads as it did. -/
def fnBehindAlterPartitionRequestUptoRow : OpenClaim := { program := "ytanohglljnajiaagreatdoor", sum := "8d4db153483daff4ddfb61d5bd847d2ea2ffa3443e7b4ff7e8d5d43f58ae24e5", func := "pub-mailsack/laws.FnBehindAlterPartitionRequest", spec := "fnBehindAlterPartitionRequest", inPlace := ["internal/reflectlite.ValueOf", "internal/reflectlite.Swapper", "(internal/reflectlite.Value).Len"], unfollowed := true, recurses := true, named := ["encoding/binary.BigEndian", "pub-mailsack/pub/kmsg/inner/kbin.ErrNotEnoughData"], loops := true, apart := false, laid := [("pub-mailsack/pub/kmsg/inner/kbin.ErrNotEnoughData", laid_pub_mailsack_pub_kmsg_inner_kbin_ErrNotEnoughData)], narrowed := true }
def FnBehindAlterPartitionRequestUptoSaid : Prop := fnBehindAlterPartitionRequestUptoRow.holds Tryz.pinned (OpenSpec.upto fnBehindAlterPartitionRequestSpec)

/-- 'laws.FnBehindDescribeDelegationTokenResponse', WHERE WHAT IT READS IS OF BULK AT MOST 1048576: true; the input reads as it did. -/
def fnBehindDescribeDelegationTokenResponseUptoRow : OpenClaim := { program := "ytanohglljnajiaagreatdoor", sum := "8d4db153483daff4ddfb61d5bd847d2ea2ffa3443e7b4ff7e8d5d43f58ae24e5", func := "pub-mailsack/laws.FnBehindDescribeDelegationTokenResponse", spec := "fnBehindDescribeDelegationTokenResponse", inPlace := ["internal/reflectlite.ValueOf", "internal/reflectlite.Swapper", "(internal/reflectlite.Value).Len"], unfollowed := true, recurses := true, named := ["encoding/binary.BigEndian", "pub-mailsack/pub/kmsg/inner/kbin.ErrNotEnoughData"], loops := true, apart := false, laid := [("pub-mailsack/pub/kmsg/inner/kbin.ErrNotEnoughData", laid_pub_mailsack_pub_kmsg_inner_kbin_ErrNotEnoughData)], narrowed := true }
def FnBehindDescribeDelegationTokenResponseUptoSaid : Prop := fnBehindDescribeDelegationTokenResponseUptoRow.holds Tryz.pinned (OpenSpec.upto fnBehindDescribeDelegationTokenResponseSpec)

end Rows
end Go.Proofs.YtanohglljnajiaaGreatDoor
