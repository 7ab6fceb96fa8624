/-
  NARROWER THAN 'FOR EVERY INPUT', by the rows' own cells (each row's printed sentence says how): FnUnsafeBrokerRegistrationResponse: laid · FnUnsafeListGroupsRequest: laid · FnUnsafeAlterReplicaLogDirsResponse: laid · FnUnsafeConsumerGroupHeartbeatRequest: laid.
  DERIVED. THE GIVEN ROWS OF THIS SEAT. 4 by the template 'for every input the law returns true; each argument reads behind the call as it read before'; 0 by the template 'total and deterministic' (their statements: YtmmieooipcfbiabDoorRTotals.lean).
  GIVEN WITH THE SEED: the statements are not yours to turn. If you find one false, say at which input.
  Laid BY PROGRAM, IN A SANDBOX (cutbox-rows.mjs): the forced cells as the released guide's own fill.sh prints them over the translation d66a60b5c920ac8f… (all of the seat's roots in one cut). By AI agents, Wed Nov 11 2026. No macro, syntax, notation, axiom, sorry.
-/
import Derived.Test.YtmmieooipcfbiabDoorRChecked
import GoSem.Claim
import GoSem.ClaimJoined
import GoSem.ClaimMapViews
import Derived.JoinedTies
import Derived.KernelRfl
namespace Go.Proofs.YtmmieooipcfbiabDoorR
/- THE CELL 'sum', in the pinned program and in every row, IS THE sha256 OF THE DUMP (.gsa) THAT YtmmieooipcfbiabDoorRProg.lean LOADS. Nothing in Lean hashes anything: it is a label: what it is worth is what the hold of that sum in a sandbox is worth. -/
noncomputable def Tryd.pinned : Pinned := { name := "ytmmieooipcfbiabdoorr", sum := "d66a60b5c920ac8fa90583698c0fbfa4f1e83d6ebd1e9561eab8a75b16926b71", checked := Tryd.checked }
namespace Rows
def none {H : Type} : Left H := { results := [], args := [] }

/- WHAT THE LISTED PACKAGE-LEVEL VARIABLES READ AS WHEN THE CALL BEGINS. Each datum BY PROGRAM (the guide's laid-datum.mjs) off the statement by which the dump's own 'gosem.cut.vars' lays the variable. In a bare row this is a premise. The card (YtmmieooipcfbiabDoorRCards.lean) ties it to the program's text. -/
def laid_pub_mailsack_pub_kmsg_inner_kbin_ErrNotEnoughData {H : Type} : DataW H := .iface "*errors.errorString" (.ptr (.agg [.lit (.string [114, 101, 115, 112, 111, 110, 115, 101, 32, 100, 105, 100, 32, 110, 111, 116, 32, 99, 111, 110, 116, 97, 105, 110, 32, 101, 110, 111, 117, 103, 104, 32, 100, 97, 116, 97, 32, 116, 111, 32, 98, 101, 32, 118, 97, 108, 105, 100])]))

/-- 'laws.FnUnsafeBrokerRegistrationResponse': WHATEVER THE INPUT: true; the input reads as it did. -/
def fnUnsafeBrokerRegistrationResponseSpec : ChangeSpec := { name := "fnUnsafeBrokerRegistrationResponse", fn := fun _ => fun
  | [d1, d2] => { results := [.lit (.bool true)], args := [d1, d2] }
  | _ => none }
def fnUnsafeBrokerRegistrationResponseRow : OpenClaim := { program := "ytmmieooipcfbiabdoorr", sum := "d66a60b5c920ac8fa90583698c0fbfa4f1e83d6ebd1e9561eab8a75b16926b71", func := "pub-mailsack/laws.FnUnsafeBrokerRegistrationResponse", spec := "fnUnsafeBrokerRegistrationResponse", inPlace := ["internal/reflectlite.ValueOf", "internal/reflectlite.Swapper", "(internal/reflectlite.Value).Len"], unfollowed := true, recurses := true, named := ["encoding/binary.BigEndian", "pub-mailsack/pub/kmsg/inner/kbin.ErrNotEnoughData"], apart := false, laid := [("pub-mailsack/pub/kmsg/inner/kbin.ErrNotEnoughData", laid_pub_mailsack_pub_kmsg_inner_kbin_ErrNotEnoughData)] }
def FnUnsafeBrokerRegistrationResponseSaid : Prop := fnUnsafeBrokerRegistrationResponseRow.holds Tryd.pinned (OpenSpec.ofChange fnUnsafeBrokerRegistrationResponseSpec)

/-- ITS FALSE NEIGHBOUR: 'it returns false'. Refute it at one input. -/
def fnUnsafeBrokerRegistrationResponseWrong : ChangeSpec := { name := "fnUnsafeBrokerRegistrationResponse", fn := fun _ => fun
  | [d1, d2] => { results := [.lit (.bool false)], args := [d1, d2] }
  | _ => none }
def FnUnsafeBrokerRegistrationResponseWrongFalsely : Prop := fnUnsafeBrokerRegistrationResponseRow.holds Tryd.pinned (OpenSpec.ofChange fnUnsafeBrokerRegistrationResponseWrong)

/-- 'laws.FnUnsafeListGroupsRequest': WHATEVER THE INPUT: true; the input reads as it did. -/
def fnUnsafeListGroupsRequestSpec : ChangeSpec := { name := "fnUnsafeListGroupsRequest", fn := fun _ => fun
  | [d1, d2] => { results := [.lit (.bool true)], args := [d1, d2] }
  | _ => none }
def fnUnsafeListGroupsRequestRow : OpenClaim := { program := "ytmmieooipcfbiabdoorr", sum := "d66a60b5c920ac8fa90583698c0fbfa4f1e83d6ebd1e9561eab8a75b16926b71", func := "pub-mailsack/laws.FnUnsafeListGroupsRequest", spec := "fnUnsafeListGroupsRequest", inPlace := ["internal/reflectlite.ValueOf", "internal/reflectlite.Swapper", "(internal/reflectlite.Value).Len"], unfollowed := true, recurses := true, named := ["encoding/binary.BigEndian", "pub-mailsack/pub/kmsg/inner/kbin.ErrNotEnoughData"], apart := false, laid := [("pub-mailsack/pub/kmsg/inner/kbin.ErrNotEnoughData", laid_pub_mailsack_pub_kmsg_inner_kbin_ErrNotEnoughData)] }
def FnUnsafeListGroupsRequestSaid : Prop := fnUnsafeListGroupsRequestRow.holds Tryd.pinned (OpenSpec.ofChange fnUnsafeListGroupsRequestSpec)

/-- ITS FALSE NEIGHBOUR: 'it returns false'. Refute it at one input. -/
def fnUnsafeListGroupsRequestWrong : ChangeSpec := { name := "fnUnsafeListGroupsRequest", fn := fun _ => fun
  | [d1, d2] => { results := [.lit (.bool false)], args := [d1, d2] }
  | _ => none }
def FnUnsafeListGroupsRequestWrongFalsely : Prop := fnUnsafeListGroupsRequestRow.holds Tryd.pinned (OpenSpec.ofChange fnUnsafeListGroupsRequestWrong)

/-- 'laws.FnUnsafeAlterReplicaLogDirsResponse': WHATEVER THE INPUT: true; the input reads as it did. -/
def fnUnsafeAlterReplicaLogDirsResponseSpec : ChangeSpec := { name := "fnUnsafeAlterReplicaLogDirsResponse", fn := fun _ => fun
  | [d1, d2] => { results := [.lit (.bool true)], args := [d1, d2] }
  | _ => none }
def fnUnsafeAlterReplicaLogDirsResponseRow : OpenClaim := { program := "ytmmieooipcfbiabdoorr", sum := "d66a60b5c920ac8fa90583698c0fbfa4f1e83d6ebd1e9561eab8a75b16926b71", func := "pub-mailsack/laws.FnUnsafeAlterReplicaLogDirsResponse", spec := "fnUnsafeAlterReplicaLogDirsResponse", inPlace := ["internal/reflectlite.ValueOf", "internal/reflectlite.Swapper", "(internal/reflectlite.Value).Len"], unfollowed := true, recurses := true, named := ["encoding/binary.BigEndian", "pub-mailsack/pub/kmsg/inner/kbin.ErrNotEnoughData"], apart := false, laid := [("pub-mailsack/pub/kmsg/inner/kbin.ErrNotEnoughData", laid_pub_mailsack_pub_kmsg_inner_kbin_ErrNotEnoughData)] }
def FnUnsafeAlterReplicaLogDirsResponseSaid : Prop := fnUnsafeAlterReplicaLogDirsResponseRow.holds Tryd.pinned (OpenSpec.ofChange fnUnsafeAlterReplicaLogDirsResponseSpec)

/-- ITS FALSE NEIGHBOUR: 'it returns false'. Refute it at one input. -/
def fnUnsafeAlterReplicaLogDirsResponseWrong : ChangeSpec := { name := "fnUnsafeAlterReplicaLogDirsResponse", fn := fun _ => fun
  | [d1, d2] => { results := [.lit (.bool false)], args := [d1, d2] }
  | _ => none }
def FnUnsafeAlterReplicaLogDirsResponseWrongFalsely : Prop := fnUnsafeAlterReplicaLogDirsResponseRow.holds Tryd.pinned (OpenSpec.ofChange fnUnsafeAlterReplicaLogDirsResponseWrong)

/-- 'laws.FnUnsafeConsumerGroupHeartbeatRequest': WHATEVER THE INPUT: true; the input reads as it did. -/
def fnUnsafeConsumerGroupHeartbeatRequestSpec : ChangeSpec := { name := "fnUnsafeConsumerGroupHeartbeatRequest", fn := fun _ => fun
  | [d1, d2] => { results := [.lit (.bool true)], args := [d1, d2] }
  | _ => none }
def fnUnsafeConsumerGroupHeartbeatRequestRow : OpenClaim := { program := "ytmmieooipcfbiabdoorr", sum := "d66a60b5c920ac8fa90583698c0fbfa4f1e83d6ebd1e9561eab8a75b16926b71", func := "pub-mailsack/laws.FnUnsafeConsumerGroupHeartbeatRequest", spec := "fnUnsafeConsumerGroupHeartbeatRequest", inPlace := ["internal/reflectlite.ValueOf", "internal/reflectlite.Swapper", "(internal/reflectlite.Value).Len"], unfollowed := true, recurses := true, named := ["encoding/binary.BigEndian", "pub-mailsack/pub/kmsg/inner/kbin.ErrNotEnoughData"], apart := false, laid := [("pub-mailsack/pub/kmsg/inner/kbin.ErrNotEnoughData", laid_pub_mailsack_pub_kmsg_inner_kbin_ErrNotEnoughData)] }
def FnUnsafeConsumerGroupHeartbeatRequestSaid : Prop := fnUnsafeConsumerGroupHeartbeatRequestRow.holds Tryd.pinned (OpenSpec.ofChange fnUnsafeConsumerGroupHeartbeatRequestSpec)

/-- ITS FALSE NEIGHBOUR: 'it returns false'. Refute it at one input. -/
def fnUnsafeConsumerGroupHeartbeatRequestWrong : ChangeSpec := { name := "fnUnsafeConsumerGroupHeartbeatRequest", fn := fun _ => fun
  | [d1, d2] => { results := [.lit (.bool false)], args := [d1, d2] }
  | _ => none }
def FnUnsafeConsumerGroupHeartbeatRequestWrongFalsely : Prop := fnUnsafeConsumerGroupHeartbeatRequestRow.holds Tryd.pinned (OpenSpec.ofChange fnUnsafeConsumerGroupHeartbeatRequestWrong)

/- THE SECOND FORM. 'bulk': how many values and letters a reading holds, each counted each time it is reached (what is shared counts as often as it is met; a slice's spare places count too). A statement '..UptoSaid' is the law's where the arguments, and the package variables that the reading takes, are together of bulk at most 1048576: NARROWER than '..Said'. Prove '..Said' where nothing that the law and all that it calls make is longer than what came in: it says more and counts as full. Else prove '..UptoSaid'. A law counts once. -/
mutual
def uptoBulk {H : Type} : DataW H → Nat
  | .lit (.string bytes) => bytes.length + 1
  | .lit _ => 1
  | .nil => 1
  | .ptr d => uptoBulk d + 1
  | .slice elems spare => uptoBulkAll elems + uptoBulkAll spare + 1
  | .agg parts => uptoBulkAll parts + 1
  | .iface _ d => uptoBulk d + 1
  | .map entries => uptoBulkEntries entries + 1
  | .held _ => 1
def uptoBulkAll {H : Type} : List (DataW H) → Nat
  | [] => 0
  | d :: r => uptoBulk d + uptoBulkAll r
def uptoBulkEntries {H : Type} : List (Lit × DataW H) → Nat
  | [] => 0
  | x :: r => uptoBulkEntry x + uptoBulkEntries r
def uptoBulkEntry {H : Type} : Lit × DataW H → Nat
  | (.string bytes, d) => bytes.length + uptoBulk d + 1
  | (_, d) => uptoBulk d + 1
 end
def uptoSmall : (H : Type) → List (DataW H) → Bool := fun _ ds => decide (uptoBulkAll ds ≤ 1048576)
def OpenSpec.upto (s : _root_.Go.ChangeSpec) : _root_.Go.OpenSpec := { _root_.Go.OpenSpec.ofChange s with cond := some uptoSmall }

/-- 'laws.FnUnsafeBrokerRegistrationResponse', WHERE WHAT IT READS IS OF BULK AT MOST 1048576: true; the input reads as it did. -/
def fnUnsafeBrokerRegistrationResponseUptoRow : OpenClaim := { program := "ytmmieooipcfbiabdoorr", sum := "d66a60b5c920ac8fa90583698c0fbfa4f1e83d6ebd1e9561eab8a75b16926b71", func := "pub-mailsack/laws.FnUnsafeBrokerRegistrationResponse", spec := "fnUnsafeBrokerRegistrationResponse", inPlace := ["internal/reflectlite.ValueOf", "internal/reflectlite.Swapper", "(internal/reflectlite.Value).Len"], unfollowed := true, recurses := true, named := ["encoding/binary.BigEndian", "pub-mailsack/pub/kmsg/inner/kbin.ErrNotEnoughData"], apart := false, laid := [("pub-mailsack/pub/kmsg/inner/kbin.ErrNotEnoughData", laid_pub_mailsack_pub_kmsg_inner_kbin_ErrNotEnoughData)], narrowed := true }
def FnUnsafeBrokerRegistrationResponseUptoSaid : Prop := fnUnsafeBrokerRegistrationResponseUptoRow.holds Tryd.pinned (OpenSpec.upto fnUnsafeBrokerRegistrationResponseSpec)

/-- 'laws.FnUnsafeListGroupsRequest', WHERE WHAT IT READS IS OF BULK AT MOST 1048576: true; the input reads as it did. -/
def fnUnsafeListGroupsRequestUptoRow : OpenClaim := { program := "ytmmieooipcfbiabdoorr", sum := "d66a60b5c920ac8fa90583698c0fbfa4f1e83d6ebd1e9561eab8a75b16926b71", func := "pub-mailsack/laws.FnUnsafeListGroupsRequest", spec := "fnUnsafeListGroupsRequest", inPlace := ["internal/reflectlite.ValueOf", "internal/reflectlite.Swapper", "(internal/reflectlite.Value).Len"], unfollowed := true, recurses := true, named := ["encoding/binary.BigEndian", "pub-mailsack/pub/kmsg/inner/kbin.ErrNotEnoughData"], apart := false, laid := [("pub-mailsack/pub/kmsg/inner/kbin.ErrNotEnoughData", laid_pub_mailsack_pub_kmsg_inner_kbin_ErrNotEnoughData)], narrowed := true }
def FnUnsafeListGroupsRequestUptoSaid : Prop := fnUnsafeListGroupsRequestUptoRow.holds Tryd.pinned (OpenSpec.upto fnUnsafeListGroupsRequestSpec)

/-- 'laws.FnUnsafeAlterReplicaLogDirsResponse', WHERE WHAT IT READS IS OF BULK AT MOST 1048576: true; the input reads as it did. -/
def fnUnsafeAlterReplicaLogDirsResponseUptoRow : OpenClaim := { program := "ytmmieooipcfbiabdoorr", sum := "d66a60b5c920ac8fa90583698c0fbfa4f1e83d6ebd1e9561eab8a75b16926b71", func := "pub-mailsack/laws.FnUnsafeAlterReplicaLogDirsResponse", spec := "fnUnsafeAlterReplicaLogDirsResponse", inPlace := ["internal/reflectlite.ValueOf", "internal/reflectlite.Swapper", "(internal/reflectlite.Value).Len"], unfollowed := true, recurses := true, named := ["encoding/binary.BigEndian", "pub-mailsack/pub/kmsg/inner/kbin.ErrNotEnoughData"], apart := false, laid := [("pub-mailsack/pub/kmsg/inner/kbin.ErrNotEnoughData", laid_pub_mailsack_pub_kmsg_inner_kbin_ErrNotEnoughData)], narrowed := true }
def FnUnsafeAlterReplicaLogDirsResponseUptoSaid : Prop := fnUnsafeAlterReplicaLogDirsResponseUptoRow.holds Tryd.pinned (OpenSpec.upto fnUnsafeAlterReplicaLogDirsResponseSpec)

/-- 'laws.FnUnsafeConsumerGroupHeartbeatRequest', WHERE WHAT IT READS IS OF BULK AT MOST 1048576: true; the input reads as it did. -/
def fnUnsafeConsumerGroupHeartbeatRequestUptoRow : OpenClaim := { program := "ytmmieooipcfbiabdoorr", sum := "d66a60b5c920ac8fa90583698c0fbfa4f1e83d6ebd1e9561eab8a75b16926b71", func := "pub-mailsack/laws.FnUnsafeConsumerGroupHeartbeatRequest", spec := "fnUnsafeConsumerGroupHeartbeatRequest", inPlace := ["internal/reflectlite.ValueOf", "internal/reflectlite.Swapper", "(internal/reflectlite.Value).Len"], unfollowed := true, recurses := true, named := ["encoding/binary.BigEndian", "pub-mailsack/pub/kmsg/inner/kbin.ErrNotEnoughData"], apart := false, laid := [("pub-mailsack/pub/kmsg/inner/kbin.ErrNotEnoughData", laid_pub_mailsack_pub_kmsg_inner_kbin_ErrNotEnoughData)], narrowed := true }
def FnUnsafeConsumerGroupHeartbeatRequestUptoSaid : Prop := fnUnsafeConsumerGroupHeartbeatRequestUptoRow.holds Tryd.pinned (OpenSpec.upto fnUnsafeConsumerGroupHeartbeatRequestSpec)

end Rows
end Go.Proofs.YtmmieooipcfbiabDoorR
