/-
  NARROWER THAN 'FOR EVERY INPUT', by the rows' own cells (each row's printed sentence says how): FnMakeDescribeTransactionsRequest: loops · FnMakeControlledShutdownResponse: loops · FnMakeDescribeQuorumRequest: loops · FnMakeDeleteShareGroupOffsetsResponse: loops · FnMakeAlterPartitionAssignmentsRequest: loops · FnMakeDescribeUserSCRAMCredentialsResponse: loops · FnMakeIncrementalAlterConfigsRequest: loops.
  DERIVED. THE GIVEN ROWS OF THIS SEAT. 7 by the template 'for every input the law returns true; each argument reads behind the call as it read before'; 0 by the template 'total and deterministic' (their statements: YtkachbimhnjmeaaTotals.lean).
  GIVEN WITH THE SEED: the statements are not yours to turn. If you find one false, say at which input.
  Laid BY PROGRAM, IN A SANDBOX (cutbox-rows.mjs): the forced cells as the released guide's own fill.sh prints them over the translation 3bdab10a2098c990… (all of the seat's roots in one cut). By AI agents, Wed Nov 11 2026. No macro, syntax, notation, axiom, sorry.
-/
import Derived.Test.YtkachbimhnjmeaaChecked
import GoSem.Claim
import GoSem.ClaimJoined
import GoSem.ClaimMapViews
import Derived.JoinedTies
import Derived.KernelRfl
namespace Go.Proofs.Ytkachbimhnjmeaa
/- THE CELL 'sum', in the pinned program and in every row, IS THE sha256 OF THE DUMP (.gsa) THAT YtkachbimhnjmeaaProg.lean LOADS. Nothing in Lean hashes anything: it is a label: what it is worth is what the hold of that sum in a sandbox is worth. -/
noncomputable def Try.pinned : Pinned := { name := "ytkachbimhnjmeaa", sum := "3bdab10a2098c990fd5b3eca4dfe97e6c4f93bee8630ec793de28d8708b74b8b", checked := Try.checked }
namespace Rows
def none {H : Type} : Left H := { results := [], args := [] }

/-- 'laws.FnMakeDescribeTransactionsRequest': WHATEVER THE INPUT: true; the input reads as it did. -/
def fnMakeDescribeTransactionsRequestSpec : ChangeSpec := { name := "fnMakeDescribeTransactionsRequest", fn := fun _ => fun
  | [d1, d2] => { results := [.lit (.bool true)], args := [d1, d2] }
  | _ => none }
def fnMakeDescribeTransactionsRequestRow : OpenClaim := { program := "ytkachbimhnjmeaa", sum := "3bdab10a2098c990fd5b3eca4dfe97e6c4f93bee8630ec793de28d8708b74b8b", func := "pub-mailsack/laws.FnMakeDescribeTransactionsRequest", spec := "fnMakeDescribeTransactionsRequest", inPlace := ["internal/reflectlite.ValueOf", "internal/reflectlite.Swapper", "(internal/reflectlite.Value).Len"], unfollowed := true, recurses := true, loops := true, apart := false }
def FnMakeDescribeTransactionsRequestSaid : Prop := fnMakeDescribeTransactionsRequestRow.holds Try.pinned (OpenSpec.ofChange fnMakeDescribeTransactionsRequestSpec)

/-- ITS FALSE NEIGHBOUR: 'it returns false'. Refute it at one input. -/
def fnMakeDescribeTransactionsRequestWrong : ChangeSpec := { name := "fnMakeDescribeTransactionsRequest", fn := fun _ => fun
  | [d1, d2] => { results := [.lit (.bool false)], args := [d1, d2] }
  | _ => none }
def FnMakeDescribeTransactionsRequestWrongFalsely : Prop := fnMakeDescribeTransactionsRequestRow.holds Try.pinned (OpenSpec.ofChange fnMakeDescribeTransactionsRequestWrong)

/-- 'laws.FnMakeControlledShutdownResponse': WHATEVER THE INPUT: true; the input reads as it did. -/
def fnMakeControlledShutdownResponseSpec : ChangeSpec := { name := "fnMakeControlledShutdownResponse", fn := fun _ => fun
  | [d1, d2] => { results := [.lit (.bool true)], args := [d1, d2] }
  | _ => none }
def fnMakeControlledShutdownResponseRow : OpenClaim := { program := "ytkachbimhnjmeaa", sum := "3bdab10a2098c990fd5b3eca4dfe97e6c4f93bee8630ec793de28d8708b74b8b", func := "pub-mailsack/laws.FnMakeControlledShutdownResponse", spec := "fnMakeControlledShutdownResponse", inPlace := ["internal/reflectlite.ValueOf", "internal/reflectlite.Swapper", "(internal/reflectlite.Value).Len"], unfollowed := true, recurses := true, loops := true, apart := false }
def FnMakeControlledShutdownResponseSaid : Prop := fnMakeControlledShutdownResponseRow.holds Try.pinned (OpenSpec.ofChange fnMakeControlledShutdownResponseSpec)

/-- ITS FALSE NEIGHBOUR: 'it returns false'. Refute it at one input. -/
def fnMakeControlledShutdownResponseWrong : ChangeSpec := { name := "fnMakeControlledShutdownResponse", fn := fun _ => fun
  | [d1, d2] => { results := [.lit (.bool false)], args := [d1, d2] }
  | _ => none }
def FnMakeControlledShutdownResponseWrongFalsely : Prop := fnMakeControlledShutdownResponseRow.holds Try.pinned (OpenSpec.ofChange fnMakeControlledShutdownResponseWrong)

/-- 'laws.FnMakeDescribeQuorumRequest': WHATEVER THE INPUT: true; the input reads as it did. -/
def fnMakeDescribeQuorumRequestSpec : ChangeSpec := { name := "fnMakeDescribeQuorumRequest", fn := fun _ => fun
  | [d1, d2] => { results := [.lit (.bool true)], args := [d1, d2] }
  | _ => none }
def fnMakeDescribeQuorumRequestRow : OpenClaim := { program := "ytkachbimhnjmeaa", sum := "3bdab10a2098c990fd5b3eca4dfe97e6c4f93bee8630ec793de28d8708b74b8b", func := "pub-mailsack/laws.FnMakeDescribeQuorumRequest", spec := "fnMakeDescribeQuorumRequest", inPlace := ["internal/reflectlite.ValueOf", "internal/reflectlite.Swapper", "(internal/reflectlite.Value).Len"], unfollowed := true, recurses := true, loops := true, apart := false }
def FnMakeDescribeQuorumRequestSaid : Prop := fnMakeDescribeQuorumRequestRow.holds Try.pinned (OpenSpec.ofChange fnMakeDescribeQuorumRequestSpec)

/-- ITS FALSE NEIGHBOUR: 'it returns false'. Refute it at one input. -/
def fnMakeDescribeQuorumRequestWrong : ChangeSpec := { name := "fnMakeDescribeQuorumRequest", fn := fun _ => fun
  | [d1, d2] => { results := [.lit (.bool false)], args := [d1, d2] }
  | _ => none }
def FnMakeDescribeQuorumRequestWrongFalsely : Prop := fnMakeDescribeQuorumRequestRow.holds Try.pinned (OpenSpec.ofChange fnMakeDescribeQuorumRequestWrong)

/-- 'laws.FnMakeDeleteShareGroupOffsetsResponse': WHATEVER THE INPUT: true; the input reads as it did. -/
def fnMakeDeleteShareGroupOffsetsResponseSpec : ChangeSpec := { name := "fnMakeDeleteShareGroupOffsetsResponse", fn := fun _ => fun
  | [d1, d2] => { results := [.lit (.bool true)], args := [d1, d2] }
  | _ => none }
def fnMakeDeleteShareGroupOffsetsResponseRow : OpenClaim := { program := "ytkachbimhnjmeaa", sum := "3bdab10a2098c990fd5b3eca4dfe97e6c4f93bee8630ec793de28d8708b74b8b", func := "pub-mailsack/laws.FnMakeDeleteShareGroupOffsetsResponse", spec := "fnMakeDeleteShareGroupOffsetsResponse", inPlace := ["internal/reflectlite.ValueOf", "internal/reflectlite.Swapper", "(internal/reflectlite.Value).Len"], unfollowed := true, recurses := true, loops := true, apart := false }
def FnMakeDeleteShareGroupOffsetsResponseSaid : Prop := fnMakeDeleteShareGroupOffsetsResponseRow.holds Try.pinned (OpenSpec.ofChange fnMakeDeleteShareGroupOffsetsResponseSpec)

/-- ITS FALSE NEIGHBOUR: 'it returns false'. Refute it at one input. -/
def fnMakeDeleteShareGroupOffsetsResponseWrong : ChangeSpec := { name := "fnMakeDeleteShareGroupOffsetsResponse", fn := fun _ => fun
  | [d1, d2] => { results := [.lit (.bool false)], args := [d1, d2] }
  | _ => none }
def FnMakeDeleteShareGroupOffsetsResponseWrongFalsely : Prop := fnMakeDeleteShareGroupOffsetsResponseRow.holds Try.pinned (OpenSpec.ofChange fnMakeDeleteShareGroupOffsetsResponseWrong)

/-- 'laws.FnMakeAlterPartitionAssignmentsRequest': WHATEVER THE INPUT: true; the input reads as it did. -/
def fnMakeAlterPartitionAssignmentsRequestSpec : ChangeSpec := { name := "fnMakeAlterPartitionAssignmentsRequest", fn := fun _ => fun
  | [d1, d2] => { results := [.lit (.bool true)], args := [d1, d2] }
  | _ => none }
def fnMakeAlterPartitionAssignmentsRequestRow : OpenClaim := { program := "ytkachbimhnjmeaa", sum := "3bdab10a2098c990fd5b3eca4dfe97e6c4f93bee8630ec793de28d8708b74b8b", func := "pub-mailsack/laws.FnMakeAlterPartitionAssignmentsRequest", spec := "fnMakeAlterPartitionAssignmentsRequest", inPlace := ["internal/reflectlite.ValueOf", "internal/reflectlite.Swapper", "(internal/reflectlite.Value).Len"], unfollowed := true, recurses := true, loops := true, apart := false }
def FnMakeAlterPartitionAssignmentsRequestSaid : Prop := fnMakeAlterPartitionAssignmentsRequestRow.holds Try.pinned (OpenSpec.ofChange fnMakeAlterPartitionAssignmentsRequestSpec)

/-- ITS FALSE NEIGHBOUR: 'it returns false'. Refute it at one input. -/
def fnMakeAlterPartitionAssignmentsRequestWrong : ChangeSpec := { name := "fnMakeAlterPartitionAssignmentsRequest", fn := fun _ => fun
  | [d1, d2] => { results := [.lit (.bool false)], args := [d1, d2] }
  | _ => none }
def FnMakeAlterPartitionAssignmentsRequestWrongFalsely : Prop := fnMakeAlterPartitionAssignmentsRequestRow.holds Try.pinned (OpenSpec.ofChange fnMakeAlterPartitionAssignmentsRequestWrong)

/-- 'laws.FnMakeDescribeUserSCRAMCredentialsResponse': WHATEVER THE INPUT: true; the input reads as it did. -/
def fnMakeDescribeUserSCRAMCredentialsResponseSpec : ChangeSpec := { name := "fnMakeDescribeUserSCRAMCredentialsResponse", fn := fun _ => fun
  | [d1, d2] => { results := [.lit (.bool true)], args := [d1, d2] }
  | _ => none }
def fnMakeDescribeUserSCRAMCredentialsResponseRow : OpenClaim := { program := "ytkachbimhnjmeaa", sum := "3bdab10a2098c990fd5b3eca4dfe97e6c4f93bee8630ec793de28d8708b74b8b", func := "pub-mailsack/laws.FnMakeDescribeUserSCRAMCredentialsResponse", spec := "fnMakeDescribeUserSCRAMCredentialsResponse", inPlace := ["internal/reflectlite.ValueOf", "internal/reflectlite.Swapper", "(internal/reflectlite.Value).Len"], unfollowed := true, recurses := true, loops := true, apart := false }
def FnMakeDescribeUserSCRAMCredentialsResponseSaid : Prop := fnMakeDescribeUserSCRAMCredentialsResponseRow.holds Try.pinned (OpenSpec.ofChange fnMakeDescribeUserSCRAMCredentialsResponseSpec)

/-- ITS FALSE NEIGHBOUR: 'it returns false'. Refute it at one input. -/
def fnMakeDescribeUserSCRAMCredentialsResponseWrong : ChangeSpec := { name := "fnMakeDescribeUserSCRAMCredentialsResponse", fn := fun _ => fun
  | [d1, d2] => { results := [.lit (.bool false)], args := [d1, d2] }
  | _ => none }
def FnMakeDescribeUserSCRAMCredentialsResponseWrongFalsely : Prop := fnMakeDescribeUserSCRAMCredentialsResponseRow.holds Try.pinned (OpenSpec.ofChange fnMakeDescribeUserSCRAMCredentialsResponseWrong)

/-- 'laws.FnMakeIncrementalAlterConfigsRequest': WHATEVER THE INPUT: true; the input reads as it did. -/
def fnMakeIncrementalAlterConfigsRequestSpec : ChangeSpec := { name := "fnMakeIncrementalAlterConfigsRequest", fn := fun _ => fun
  | [d1, d2] => { results := [.lit (.bool true)], args := [d1, d2] }
  | _ => none }
def fnMakeIncrementalAlterConfigsRequestRow : OpenClaim := { program := "ytkachbimhnjmeaa", sum := "3bdab10a2098c990fd5b3eca4dfe97e6c4f93bee8630ec793de28d8708b74b8b", func := "pub-mailsack/laws.FnMakeIncrementalAlterConfigsRequest", spec := "fnMakeIncrementalAlterConfigsRequest", inPlace := ["internal/reflectlite.ValueOf", "internal/reflectlite.Swapper", "(internal/reflectlite.Value).Len"], unfollowed := true, recurses := true, loops := true, apart := false }
def FnMakeIncrementalAlterConfigsRequestSaid : Prop := fnMakeIncrementalAlterConfigsRequestRow.holds Try.pinned (OpenSpec.ofChange fnMakeIncrementalAlterConfigsRequestSpec)

/-- ITS FALSE NEIGHBOUR: 'it returns false'. Refute it at one input. -/
def fnMakeIncrementalAlterConfigsRequestWrong : ChangeSpec := { name := "fnMakeIncrementalAlterConfigsRequest", fn := fun _ => fun
  | [d1, d2] => { results := [.lit (.bool false)], args := [d1, d2] }
  | _ => none }
def FnMakeIncrementalAlterConfigsRequestWrongFalsely : Prop := fnMakeIncrementalAlterConfigsRequestRow.holds Try.pinned (OpenSpec.ofChange fnMakeIncrementalAlterConfigsRequestWrong)

/- THE SECOND FORM. 'bulk': how many values and letters a reading holds, each counted each time it is reached (what is shared counts as often as it is met; a slice's spare places count too). A statement '..UptoSaid' is the law's where the arguments, and the package variables that the reading takes, are together of bulk at most 1048576: NARROWER than '..Said'. Prove '..Said' where nothing that the law and all that it calls make is longer than what came in: it says more and counts as full. Else prove '..UptoSaid'. A law counts once. -/
mutual
def uptoBulk {H : Type} : DataW H → Nat
  | .lit (.string bytes) => bytes.length + 1
  | .lit _ => 1
  | .nil => 1
  | .ptr d => uptoBulk d + 1
  | .slice elems spare => uptoBulkAll elems + uptoBulkAll spare + 1
  | .agg parts => uptoBulkAll parts + 1
  | .iface _ d => uptoBulk d + 1
  | .map entries => uptoBulkEntries entries + 1
  | .held _ => 1
def uptoBulkAll {H : Type} : List (DataW H) → Nat
  | [] => 0
  | d :: r => uptoBulk d + uptoBulkAll r
def uptoBulkEntries {H : Type} : List (Lit × DataW H) → Nat
  | [] => 0
  | x :: r => uptoBulkEntry x + uptoBulkEntries r
def uptoBulkEntry {H : Type} : Lit × DataW H → Nat
  | (.string bytes, d) => bytes.length + uptoBulk d + 1
  | (_, d) => uptoBulk d + 1
 end
def uptoSmall : (H : Type) → List (DataW H) → Bool := fun _ ds => decide (uptoBulkAll ds ≤ 1048576)
def OpenSpec.upto (s : _root_.Go.ChangeSpec) : _root_.Go.OpenSpec := { _root_.Go.OpenSpec.ofChange s with cond := some uptoSmall }

/-- 'laws.FnMakeDescribeTransactionsRequest', WHERE WHAT IT READS IS OF BULK AT MOST 1048576: true; the input reads as it did. -/
def fnMakeDescribeTransactionsRequestUptoRow : OpenClaim := { program := "ytkachbimhnjmeaa", sum := "3bdab10a2098c990fd5b3eca4dfe97e6c4f93bee8630ec793de28d8708b74b8b", func := "pub-mailsack/laws.FnMakeDescribeTransactionsRequest", spec := "fnMakeDescribeTransactionsRequest", inPlace := ["internal/reflectlite.ValueOf", "internal/reflectlite.Swapper", "(internal/reflectlite.Value).Len"], unfollowed := true, recurses := true, loops := true, apart := false, narrowed := true }
def FnMakeDescribeTransactionsRequestUptoSaid : Prop := fnMakeDescribeTransactionsRequestUptoRow.holds Try.pinned (OpenSpec.upto fnMakeDescribeTransactionsRequestSpec)

/-- 'laws.FnMakeControlledShutdownResponse', WHERE WHAT IT READS IS OF BULK AT MOST 1048576: true; the input reads as it did. -/
def fnMakeControlledShutdownResponseUptoRow : OpenClaim := { program := "ytkachbimhnjmeaa", sum := "3bdab10a2098c990fd5b3eca4dfe97e6c4f93bee8630ec793de28d8708b74b8b", func := "pub-mailsack/laws.FnMakeControlledShutdownResponse", spec := "fnMakeControlledShutdownResponse", inPlace := ["internal/reflectlite.ValueOf", "internal/reflectlite.Swapper", "(internal/reflectlite.Value).Len"], unfollowed := true, recurses := true, loops := true, apart := false, narrowed := true }
def FnMakeControlledShutdownResponseUptoSaid : Prop := fnMakeControlledShutdownResponseUptoRow.holds Try.pinned (OpenSpec.upto fnMakeControlledShutdownResponseSpec)

/-- 'laws.FnMakeDescribeQuorumRequest', WHERE WHAT IT READS IS OF BULK AT MOST 1048576: true; the input reads as it did. -/
def fnMakeDescribeQuorumRequestUptoRow : OpenClaim := { program := "ytkachbimhnjmeaa", sum := "3bdab10a2098c990fd5b3eca4dfe97e6c4f93bee8630ec793de28d8708b74b8b", func := "pub-mailsack/laws.FnMakeDescribeQuorumRequest", spec := "fnMakeDescribeQuorumRequest", inPlace := ["internal/reflectlite.ValueOf", "internal/reflectlite.Swapper", "(internal/reflectlite.Value).Len"], unfollowed := true, recurses := true, loops := true, apart := false, narrowed := true }
def FnMakeDescribeQuorumRequestUptoSaid : Prop := fnMakeDescribeQuorumRequestUptoRow.holds Try.pinned (OpenSpec.upto fnMakeDescribeQuorumRequestSpec)

/-- 'laws.FnMakeDeleteShareGroupOffsetsResponse', WHERE WHAT IT READS IS OF BULK AT MOST 1048576: true; the input reads as it did. -/
def fnMakeDeleteShareGroupOffsetsResponseUptoRow : OpenClaim := { program := "ytkachbimhnjmeaa", sum := "3bdab10a2098c990fd5b3eca4dfe97e6c4f93bee8630ec793de28d8708b74b8b", func := "pub-mailsack/laws.FnMakeDeleteShareGroupOffsetsResponse", spec := "fnMakeDeleteShareGroupOffsetsResponse", inPlace := ["internal/reflectlite.ValueOf", "internal/reflectlite.Swapper", "(internal/reflectlite.Value).Len"], unfollowed := true, recurses := true, loops := true, apart := false, narrowed := true }
def FnMakeDeleteShareGroupOffsetsResponseUptoSaid : Prop := fnMakeDeleteShareGroupOffsetsResponseUptoRow.holds Try.pinned (OpenSpec.upto fnMakeDeleteShareGroupOffsetsResponseSpec)

/-- 'laws.FnMakeAlterPartitionAssignmentsRequest', WHERE WHAT IT READS IS OF BULK AT MOST 1048576: true; the input reads as it did. -/
def fnMakeAlterPartitionAssignmentsRequestUptoRow : OpenClaim := { program := "ytkachbimhnjmeaa", sum := "3bdab10a2098c990fd5b3eca4dfe97e6c4f93bee8630ec793de28d8708b74b8b", func := "pub-mailsack/laws.FnMakeAlterPartitionAssignmentsRequest", spec := "fnMakeAlterPartitionAssignmentsRequest", inPlace := ["internal/reflectlite.ValueOf", "internal/reflectlite.Swapper", "(internal/reflectlite.Value).Len"], unfollowed := true, recurses := true, loops := true, apart := false, narrowed := true }
def FnMakeAlterPartitionAssignmentsRequestUptoSaid : Prop := fnMakeAlterPartitionAssignmentsRequestUptoRow.holds Try.pinned (OpenSpec.upto fnMakeAlterPartitionAssignmentsRequestSpec)

/-- 'laws.FnMakeDescribeUserSCRAMCredentialsResponse', WHERE WHAT IT READS IS OF BULK AT MOST 1048576: true; the input reads as it did. -/
def fnMakeDescribeUserSCRAMCredentialsResponseUptoRow : OpenClaim := { program := "ytkachbimhnjmeaa", sum := "3bdab10a2098c990fd5b3eca4dfe97e6c4f93bee8630ec793de28d8708b74b8b", func := "pub-mailsack/laws.FnMakeDescribeUserSCRAMCredentialsResponse", spec := "fnMakeDescribeUserSCRAMCredentialsResponse", inPlace := ["internal/reflectlite.ValueOf", "internal/reflectlite.Swapper", "(internal/reflectlite.Value).Len"], unfollowed := true, recurses := true, loops := true, apart := false, narrowed := true }
def FnMakeDescribeUserSCRAMCredentialsResponseUptoSaid : Prop := fnMakeDescribeUserSCRAMCredentialsResponseUptoRow.holds Try.pinned (OpenSpec.upto fnMakeDescribeUserSCRAMCredentialsResponseSpec)

/-- 'laws.FnMakeIncrementalAlterConfigsRequest', WHERE WHAT IT READS IS OF BULK AT MOST 1048576: true; the input reads as it did. -/
def fnMakeIncrementalAlterConfigsRequestUptoRow : OpenClaim := { program := "ytkachbimhnjmeaa", sum := "3bdab10a2098c990fd5b3eca4dfe97e6c4f93bee8630ec793de28d8708b74b8b", func := "pub-mailsack/laws.FnMakeIncrementalAlterConfigsRequest", spec := "fnMakeIncrementalAlterConfigsRequest", inPlace := ["internal/reflectlite.ValueOf", "internal/reflectlite.Swapper", "(internal/reflectlite.Value).Len"], unfollowed := true, recurses := true, loops := true, apart := false, narrowed := true }
def FnMakeIncrementalAlterConfigsRequestUptoSaid : Prop := fnMakeIncrementalAlterConfigsRequestUptoRow.holds Try.pinned (OpenSpec.upto fnMakeIncrementalAlterConfigsRequestSpec)

end Rows
end Go.Proofs.Ytkachbimhnjmeaa
