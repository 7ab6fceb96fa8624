/-
  NARROWER THAN 'FOR EVERY INPUT', by the rows' own cells (each row's printed sentence says how): FnMakeDescribeShareGroupOffsetsResponse: loops · FnMakeAddPartitionsToTxnResponse: loops · FnMakeEndQuorumEpochRequest: loops · FnMakeShareGroupDescribeResponse: loops.
  DERIVED. THE GIVEN ROWS OF THIS SEAT. 4 by the template 'for every input the law returns true; each argument reads behind the call as it read before'; 0 by the template 'total and deterministic' (their statements: YtbcjhghfmhdafaaGreatTotals.lean).
  GIVEN WITH THE SEED: the statements are not yours to turn. If you find one false, say at which input.
  Laid BY PROGRAM, IN A SANDBOX (cutbox-rows.mjs): the forced cells as the released guide's own fill.sh prints them over the translation 18900c612ee4062c… (all of the seat's roots in one cut). By AI agents, Wed Nov 11 2026. No macro, syntax, notation, axiom, sorry.
-/
import Derived.Test.YtbcjhghfmhdafaaGreatChecked
import GoSem.Claim
import GoSem.ClaimJoined
import GoSem.ClaimMapViews
import Derived.JoinedTies
import Derived.KernelRfl
namespace Go.Proofs.YtbcjhghfmhdafaaGreat
/- THE CELL 'sum', in the pinned program and in every row, IS THE sha256 OF THE DUMP (.gsa) THAT YtbcjhghfmhdafaaGreatProg.lean LOADS. Nothing in Lean hashes anything: it is a label: what it is worth is what the hold of that sum in a sandbox is worth. -/
noncomputable def Tryz.pinned : Pinned := { name := "ytbcjhghfmhdafaagreat", sum := "18900c612ee4062c7bef7b084cdfda7e93f36b102d5522ad08ac2544c03c412e", checked := Tryz.checked }
namespace Rows
def none {H : Type} : Left H := { results := [], args := [] }

/-- 'laws.FnMakeDescribeShareGroupOffsetsResponse': WHATEVER THE INPUT: true; the input reads as it did. -/
def fnMakeDescribeShareGroupOffsetsResponseSpec : ChangeSpec := { name := "fnMakeDescribeShareGroupOffsetsResponse", fn := fun _ => fun
  | [d1, d2] => { results := [.lit (.bool true)], args := [d1, d2] }
  | _ => none }
def fnMakeDescribeShareGroupOffsetsResponseRow : OpenClaim := { program := "ytbcjhghfmhdafaagreat", sum := "18900c612ee4062c7bef7b084cdfda7e93f36b102d5522ad08ac2544c03c412e", func := "pub-mailsack/laws.FnMakeDescribeShareGroupOffsetsResponse", spec := "fnMakeDescribeShareGroupOffsetsResponse", inPlace := ["internal/reflectlite.ValueOf", "internal/reflectlite.Swapper", "(internal/reflectlite.Value).Len"], unfollowed := true, recurses := true, loops := true, apart := false }
def FnMakeDescribeShareGroupOffsetsResponseSaid : Prop := fnMakeDescribeShareGroupOffsetsResponseRow.holds Tryz.pinned (OpenSpec.ofChange fnMakeDescribeShareGroupOffsetsResponseSpec)

/-- ITS FALSE NEIGHBOUR: 'it returns false'. Refute it at one input. -/
def fnMakeDescribeShareGroupOffsetsResponseWrong : ChangeSpec := { name := "fnMakeDescribeShareGroupOffsetsResponse", fn := fun _ => fun
  | [d1, d2] => { results := [.lit (.bool false)], args := [d1, d2] }
  | _ => none }
def FnMakeDescribeShareGroupOffsetsResponseWrongFalsely : Prop := fnMakeDescribeShareGroupOffsetsResponseRow.holds Tryz.pinned (OpenSpec.ofChange fnMakeDescribeShareGroupOffsetsResponseWrong)

/-- 'laws.FnMakeAddPartitionsToTxnResponse': WHATEVER THE INPUT: true; the input reads as it did. -/
def fnMakeAddPartitionsToTxnResponseSpec : ChangeSpec := { name := "fnMakeAddPartitionsToTxnResponse", fn := fun _ => fun
  | [d1, d2] => { results := [.lit (.bool true)], args := [d1, d2] }
  | _ => none }
def fnMakeAddPartitionsToTxnResponseRow : OpenClaim := { program := "ytbcjhghfmhdafaagreat", sum := "18900c612ee4062c7bef7b084cdfda7e93f36b102d5522ad08ac2544c03c412e", func := "pub-mailsack/laws.FnMakeAddPartitionsToTxnResponse", spec := "fnMakeAddPartitionsToTxnResponse", inPlace := ["internal/reflectlite.ValueOf", "internal/reflectlite.Swapper", "(internal/reflectlite.Value).Len"], unfollowed := true, recurses := true, loops := true, apart := false }
def FnMakeAddPartitionsToTxnResponseSaid : Prop := fnMakeAddPartitionsToTxnResponseRow.holds Tryz.pinned (OpenSpec.ofChange fnMakeAddPartitionsToTxnResponseSpec)

/-- ITS FALSE NEIGHBOUR: 'it returns false'. Refute it at one input. -/
def fnMakeAddPartitionsToTxnResponseWrong : ChangeSpec := { name := "fnMakeAddPartitionsToTxnResponse", fn := fun _ => fun
  | [d1, d2] => { results := [.lit (.bool false)], args := [d1, d2] }
  | _ => none }
def FnMakeAddPartitionsToTxnResponseWrongFalsely : Prop := fnMakeAddPartitionsToTxnResponseRow.holds Tryz.pinned (OpenSpec.ofChange fnMakeAddPartitionsToTxnResponseWrong)

/-- 'laws.FnMakeEndQuorumEpochRequest': WHATEVER THE INPUT: true; the input reads as it did. -/
def fnMakeEndQuorumEpochRequestSpec : ChangeSpec := { name := "fnMakeEndQuorumEpochRequest", fn := fun _ => fun
  | [d1, d2] => { results := [.lit (.bool true)], args := [d1, d2] }
  | _ => none }
def fnMakeEndQuorumEpochRequestRow : OpenClaim := { program := "ytbcjhghfmhdafaagreat", sum := "18900c612ee4062c7bef7b084cdfda7e93f36b102d5522ad08ac2544c03c412e", func := "pub-mailsack/laws.FnMakeEndQuorumEpochRequest", spec := "fnMakeEndQuorumEpochRequest", inPlace := ["internal/reflectlite.ValueOf", "internal/reflectlite.Swapper", "(internal/reflectlite.Value).Len"], unfollowed := true, recurses := true, loops := true, apart := false }
def FnMakeEndQuorumEpochRequestSaid : Prop := fnMakeEndQuorumEpochRequestRow.holds Tryz.pinned (OpenSpec.ofChange fnMakeEndQuorumEpochRequestSpec)

/-- ITS FALSE NEIGHBOUR: 'it returns false'. Refute it at one input. -/
def fnMakeEndQuorumEpochRequestWrong : ChangeSpec := { name := "fnMakeEndQuorumEpochRequest", fn := fun _ => fun
  | [d1, d2] => { results := [.lit (.bool false)], args := [d1, d2] }
  | _ => none }
def FnMakeEndQuorumEpochRequestWrongFalsely : Prop := fnMakeEndQuorumEpochRequestRow.holds Tryz.pinned (OpenSpec.ofChange fnMakeEndQuorumEpochRequestWrong)

/-- 'laws.FnMakeShareGroupDescribeResponse': WHATEVER THE INPUT: true; the input reads as it did. -/
def fnMakeShareGroupDescribeResponseSpec : ChangeSpec := { name := "fnMakeShareGroupDescribeResponse", fn := fun _ => fun
  | [d1, d2] => { results := [.lit (.bool true)], args := [d1, d2] }
  | _ => none }
def fnMakeShareGroupDescribeResponseRow : OpenClaim := { program := "ytbcjhghfmhdafaagreat", sum := "18900c612ee4062c7bef7b084cdfda7e93f36b102d5522ad08ac2544c03c412e", func := "pub-mailsack/laws.FnMakeShareGroupDescribeResponse", spec := "fnMakeShareGroupDescribeResponse", inPlace := ["internal/reflectlite.ValueOf", "internal/reflectlite.Swapper", "(internal/reflectlite.Value).Len"], unfollowed := true, recurses := true, loops := true, apart := false }
def FnMakeShareGroupDescribeResponseSaid : Prop := fnMakeShareGroupDescribeResponseRow.holds Tryz.pinned (OpenSpec.ofChange fnMakeShareGroupDescribeResponseSpec)

/-- ITS FALSE NEIGHBOUR: 'it returns false'. Refute it at one input. -/
def fnMakeShareGroupDescribeResponseWrong : ChangeSpec := { name := "fnMakeShareGroupDescribeResponse", fn := fun _ => fun
  | [d1, d2] => { results := [.lit (.bool false)], args := [d1, d2] }
  | _ => none }
def FnMakeShareGroupDescribeResponseWrongFalsely : Prop := fnMakeShareGroupDescribeResponseRow.holds Tryz.pinned (OpenSpec.ofChange fnMakeShareGroupDescribeResponseWrong)

/- THE SECOND FORM. 'bulk': how many values and letters a reading holds, each counted each time it is reached (what is shared counts as often as it is met; a slice's spare places count too). A statement '..UptoSaid' is the law's where the arguments, and the package variables that the reading takes, are together of bulk at most 1048576: NARROWER than '..Said'. Prove '..Said' where nothing that the law and all that it calls make is longer than what came in: it says more and counts as full. Else prove '..UptoSaid'. A law counts once. -/
mutual
def uptoBulk {H : Type} : DataW H → Nat
  | .lit (.string bytes) => bytes.length + 1
  | .lit _ => 1
  | .nil => 1
  | .ptr d => uptoBulk d + 1
  | .slice elems spare => uptoBulkAll elems + uptoBulkAll spare + 1
  | .agg parts => uptoBulkAll parts + 1
  | .iface _ d => uptoBulk d + 1
  | .map entries => uptoBulkEntries entries + 1
  | .held _ => 1
def uptoBulkAll {H : Type} : List (DataW H) → Nat
  | [] => 0
  | d :: r => uptoBulk d + uptoBulkAll r
def uptoBulkEntries {H : Type} : List (Lit × DataW H) → Nat
  | [] => 0
  | x :: r => uptoBulkEntry x + uptoBulkEntries r
def uptoBulkEntry {H : Type} : Lit × DataW H → Nat
  | (.string bytes, d) => bytes.length + uptoBulk d + 1
  | (_, d) => uptoBulk d + 1
 end
def uptoSmall : (H : Type) → List (DataW H) → Bool := fun _ ds => decide (uptoBulkAll ds ≤ 1048576)
def OpenSpec.upto (s : _root_.Go.ChangeSpec) : _root_.Go.OpenSpec := { _root_.Go.OpenSpec.ofChange s with cond := some uptoSmall }

/-- 'laws.FnMakeDescribeShareGroupOffsetsResponse', WHERE WHAT IT READS IS OF BULK AT MOST 1048576: true; the input reads as it did. -/
def fnMakeDescribeShareGroupOffsetsResponseUptoRow : OpenClaim := { program := "ytbcjhghfmhdafaagreat", sum := "18900c612ee4062c7bef7b084cdfda7e93f36b102d5522ad08ac2544c03c412e", func := "pub-mailsack/laws.FnMakeDescribeShareGroupOffsetsResponse", spec := "fnMakeDescribeShareGroupOffsetsResponse", inPlace := ["internal/reflectlite.ValueOf", "internal/reflectlite.Swapper", "(internal/reflectlite.Value).Len"], unfollowed := true, recurses := true, loops := true, apart := false, narrowed := true }
def FnMakeDescribeShareGroupOffsetsResponseUptoSaid : Prop := fnMakeDescribeShareGroupOffsetsResponseUptoRow.holds Tryz.pinned (OpenSpec.upto fnMakeDescribeShareGroupOffsetsResponseSpec)

/-- 'laws.FnMakeAddPartitionsToTxnResponse', WHERE WHAT IT READS IS OF BULK AT MOST 1048576: true; the input reads as it did. -/
def fnMakeAddPartitionsToTxnResponseUptoRow : OpenClaim := { program := "ytbcjhghfmhdafaagreat", sum := "18900c612ee4062c7bef7b084cdfda7e93f36b102d5522ad08ac2544c03c412e", func := "pub-mailsack/laws.FnMakeAddPartitionsToTxnResponse", spec := "fnMakeAddPartitionsToTxnResponse", inPlace := ["internal/reflectlite.ValueOf", "internal/reflectlite.Swapper", "(internal/reflectlite.Value).Len"], unfollowed := true, recurses := true, loops := true, apart := false, narrowed := true }
def FnMakeAddPartitionsToTxnResponseUptoSaid : Prop := fnMakeAddPartitionsToTxnResponseUptoRow.holds Tryz.pinned (OpenSpec.upto fnMakeAddPartitionsToTxnResponseSpec)

/-- 'laws.FnMakeEndQuorumEpochRequest', WHERE WHAT IT READS IS OF BULK AT MOST 1048576: true; the input reads as it did. -/
def fnMakeEndQuorumEpochRequestUptoRow : OpenClaim := { program := "ytbcjhghfmhdafaagreat", sum := "18900c612ee4062c7bef7b084cdfda7e93f36b102d5522ad08ac2544c03c412e", func := "pub-mailsack/laws.FnMakeEndQuorumEpochRequest", spec := "fnMakeEndQuorumEpochRequest", inPlace := ["internal/reflectlite.ValueOf", "internal/reflectlite.Swapper", "(internal/reflectlite.Value).Len"], unfollowed := true, recurses := true, loops := true, apart := false, narrowed := true }
def FnMakeEndQuorumEpochRequestUptoSaid : Prop := fnMakeEndQuorumEpochRequestUptoRow.holds Tryz.pinned (OpenSpec.upto fnMakeEndQuorumEpochRequestSpec)

/-- 'laws.FnMakeShareGroupDescribeResponse', WHERE WHAT IT READS IS OF BULK AT MOST 1048576: true; the input reads as it did. -/
def fnMakeShareGroupDescribeResponseUptoRow : OpenClaim := { program := "ytbcjhghfmhdafaagreat", sum := "18900c612ee4062c7bef7b084cdfda7e93f36b102d5522ad08ac2544c03c412e", func := "pub-mailsack/laws.FnMakeShareGroupDescribeResponse", spec := "fnMakeShareGroupDescribeResponse", inPlace := ["internal/reflectlite.ValueOf", "internal/reflectlite.Swapper", "(internal/reflectlite.Value).Len"], unfollowed := true, recurses := true, loops := true, apart := false, narrowed := true }
def FnMakeShareGroupDescribeResponseUptoSaid : Prop := fnMakeShareGroupDescribeResponseUptoRow.holds Tryz.pinned (OpenSpec.upto fnMakeShareGroupDescribeResponseSpec)

end Rows
end Go.Proofs.YtbcjhghfmhdafaaGreat
