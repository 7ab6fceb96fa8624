/-
  NARROWER THAN 'FOR EVERY INPUT', by the rows' own cells (each row's printed sentence says how): FnMakeDescribeClusterRequest: loops · FnMakeSASLAuthenticateRequest: loops · FnMakeEndTxnResponse: loops · FnMakeExpireDelegationTokenRequest: loops · FnMakeAddOffsetsToTxnRequest: loops.
  DERIVED. THE GIVEN ROWS OF THIS SEAT. 5 by the template 'for every input the law returns true; each argument reads behind the call as it read before'; 0 by the template 'total and deterministic' (their statements: YteciepjfbipfgaaTotals.lean).
  GIVEN WITH THE SEED: the statements are not yours to turn. If you find one false, say at which input.
  Laid BY PROGRAM, IN A SANDBOX (cutbox-rows.mjs): the forced cells as the released guide's own fill.sh prints them over the translation f995241dcfdf135c… (all of the seat's roots in one cut). By AI agents, Wed Nov 11 2026. No macro, syntax, notation, axiom, sorry.
-/
import Derived.Test.YteciepjfbipfgaaChecked
import GoSem.Claim
import GoSem.ClaimJoined
import GoSem.ClaimMapViews
import Derived.JoinedTies
import Derived.KernelRfl
namespace Go.Proofs.Yteciepjfbipfgaa
/- THE CELL 'sum', in the pinned program and in every row, IS THE sha256 OF THE DUMP (.gsa) THAT YteciepjfbipfgaaProg.lean LOADS. Nothing in Lean hashes anything: it is a label: what it is worth is what the hold of that sum in a sandbox is worth. -/
noncomputable def Try.pinned : Pinned := { name := "yteciepjfbipfgaa", sum := "f995241dcfdf135cbd96dfad8e85acd4a87f2ed70238118f1e59940f54a17600", checked := Try.checked }
namespace Rows
def none {H : Type} : Left H := { results := [], args := [] }

/-- 'laws.FnMakeDescribeClusterRequest': WHATEVER THE INPUT: true; the input reads as it did. -/
def fnMakeDescribeClusterRequestSpec : ChangeSpec := { name := "fnMakeDescribeClusterRequest", fn := fun _ => fun
  | [d1, d2] => { results := [.lit (.bool true)], args := [d1, d2] }
  | _ => none }
def fnMakeDescribeClusterRequestRow : OpenClaim := { program := "yteciepjfbipfgaa", sum := "f995241dcfdf135cbd96dfad8e85acd4a87f2ed70238118f1e59940f54a17600", func := "pub-mailsack/laws.FnMakeDescribeClusterRequest", spec := "fnMakeDescribeClusterRequest", inPlace := ["internal/reflectlite.ValueOf", "internal/reflectlite.Swapper", "(internal/reflectlite.Value).Len"], unfollowed := true, recurses := true, loops := true, apart := false }
def FnMakeDescribeClusterRequestSaid : Prop := fnMakeDescribeClusterRequestRow.holds Try.pinned (OpenSpec.ofChange fnMakeDescribeClusterRequestSpec)

/-- ITS FALSE NEIGHBOUR: 'it returns false'. Refute it at one input. -/
def fnMakeDescribeClusterRequestWrong : ChangeSpec := { name := "fnMakeDescribeClusterRequest", fn := fun _ => fun
  | [d1, d2] => { results := [.lit (.bool false)], args := [d1, d2] }
  | _ => none }
def FnMakeDescribeClusterRequestWrongFalsely : Prop := fnMakeDescribeClusterRequestRow.holds Try.pinned (OpenSpec.ofChange fnMakeDescribeClusterRequestWrong)

/-- 'laws.FnMakeSASLAuthenticateRequest': WHATEVER THE INPUT: true; the input reads as it did. -/
def fnMakeSASLAuthenticateRequestSpec : ChangeSpec := { name := "fnMakeSASLAuthenticateRequest", fn := fun _ => fun
  | [d1, d2] => { results := [.lit (.bool true)], args := [d1, d2] }
  | _ => none }
def fnMakeSASLAuthenticateRequestRow : OpenClaim := { program := "yteciepjfbipfgaa", sum := "f995241dcfdf135cbd96dfad8e85acd4a87f2ed70238118f1e59940f54a17600", func := "pub-mailsack/laws.FnMakeSASLAuthenticateRequest", spec := "fnMakeSASLAuthenticateRequest", inPlace := ["internal/reflectlite.ValueOf", "internal/reflectlite.Swapper", "(internal/reflectlite.Value).Len"], unfollowed := true, recurses := true, loops := true, apart := false }
def FnMakeSASLAuthenticateRequestSaid : Prop := fnMakeSASLAuthenticateRequestRow.holds Try.pinned (OpenSpec.ofChange fnMakeSASLAuthenticateRequestSpec)

/-- ITS FALSE NEIGHBOUR: 'it returns false'. Refute it at one input. -/
def fnMakeSASLAuthenticateRequestWrong : ChangeSpec := { name := "fnMakeSASLAuthenticateRequest", fn := fun _ => fun
  | [d1, d2] => { results := [.lit (.bool false)], args := [d1, d2] }
  | _ => none }
def FnMakeSASLAuthenticateRequestWrongFalsely : Prop := fnMakeSASLAuthenticateRequestRow.holds Try.pinned (OpenSpec.ofChange fnMakeSASLAuthenticateRequestWrong)

/-- 'laws.FnMakeEndTxnResponse': WHATEVER THE INPUT: true; the input reads as it did. -/
def fnMakeEndTxnResponseSpec : ChangeSpec := { name := "fnMakeEndTxnResponse", fn := fun _ => fun
  | [d1, d2] => { results := [.lit (.bool true)], args := [d1, d2] }
  | _ => none }
def fnMakeEndTxnResponseRow : OpenClaim := { program := "yteciepjfbipfgaa", sum := "f995241dcfdf135cbd96dfad8e85acd4a87f2ed70238118f1e59940f54a17600", func := "pub-mailsack/laws.FnMakeEndTxnResponse", spec := "fnMakeEndTxnResponse", inPlace := ["internal/reflectlite.ValueOf", "internal/reflectlite.Swapper", "(internal/reflectlite.Value).Len"], unfollowed := true, recurses := true, loops := true, apart := false }
def FnMakeEndTxnResponseSaid : Prop := fnMakeEndTxnResponseRow.holds Try.pinned (OpenSpec.ofChange fnMakeEndTxnResponseSpec)

/-- ITS FALSE NEIGHBOUR: 'it returns false'. Refute it at one input. -/
def fnMakeEndTxnResponseWrong : ChangeSpec := { name := "fnMakeEndTxnResponse", fn := fun _ => fun
  | [d1, d2] => { results := [.lit (.bool false)], args := [d1, d2] }
  | _ => none }
def FnMakeEndTxnResponseWrongFalsely : Prop := fnMakeEndTxnResponseRow.holds Try.pinned (OpenSpec.ofChange fnMakeEndTxnResponseWrong)

/-- 'laws.FnMakeExpireDelegationTokenRequest': WHATEVER THE INPUT: true; the input reads as it did. -/
def fnMakeExpireDelegationTokenRequestSpec : ChangeSpec := { name := "fnMakeExpireDelegationTokenRequest", fn := fun _ => fun
  | [d1, d2] => { results := [.lit (.bool true)], args := [d1, d2] }
  | _ => none }
def fnMakeExpireDelegationTokenRequestRow : OpenClaim := { program := "yteciepjfbipfgaa", sum := "f995241dcfdf135cbd96dfad8e85acd4a87f2ed70238118f1e59940f54a17600", func := "pub-mailsack/laws.FnMakeExpireDelegationTokenRequest", spec := "fnMakeExpireDelegationTokenRequest", inPlace := ["internal/reflectlite.ValueOf", "internal/reflectlite.Swapper", "(internal/reflectlite.Value).Len"], unfollowed := true, recurses := true, loops := true, apart := false }
def FnMakeExpireDelegationTokenRequestSaid : Prop := fnMakeExpireDelegationTokenRequestRow.holds Try.pinned (OpenSpec.ofChange fnMakeExpireDelegationTokenRequestSpec)

/-- ITS FALSE NEIGHBOUR: 'it returns false'. Refute it at one input. -/
def fnMakeExpireDelegationTokenRequestWrong : ChangeSpec := { name := "fnMakeExpireDelegationTokenRequest", fn := fun _ => fun
  | [d1, d2] => { results := [.lit (.bool false)], args := [d1, d2] }
  | _ => none }
def FnMakeExpireDelegationTokenRequestWrongFalsely : Prop := fnMakeExpireDelegationTokenRequestRow.holds Try.pinned (OpenSpec.ofChange fnMakeExpireDelegationTokenRequestWrong)

/-- 'laws.FnMakeAddOffsetsToTxnRequest': WHATEVER THE INPUT: true; the input reads as it did. -/
def fnMakeAddOffsetsToTxnRequestSpec : ChangeSpec := { name := "fnMakeAddOffsetsToTxnRequest", fn := fun _ => fun
  | [d1, d2] => { results := [.lit (.bool true)], args := [d1, d2] }
  | _ => none }
def fnMakeAddOffsetsToTxnRequestRow : OpenClaim := { program := "yteciepjfbipfgaa", sum := "f995241dcfdf135cbd96dfad8e85acd4a87f2ed70238118f1e59940f54a17600", func := "pub-mailsack/laws.FnMakeAddOffsetsToTxnRequest", spec := "fnMakeAddOffsetsToTxnRequest", inPlace := ["internal/reflectlite.ValueOf", "internal/reflectlite.Swapper", "(internal/reflectlite.Value).Len"], unfollowed := true, recurses := true, loops := true, apart := false }
def FnMakeAddOffsetsToTxnRequestSaid : Prop := fnMakeAddOffsetsToTxnRequestRow.holds Try.pinned (OpenSpec.ofChange fnMakeAddOffsetsToTxnRequestSpec)

/-- ITS FALSE NEIGHBOUR: 'it returns false'. Refute it at one input. -/
def fnMakeAddOffsetsToTxnRequestWrong : ChangeSpec := { name := "fnMakeAddOffsetsToTxnRequest", fn := fun _ => fun
  | [d1, d2] => { results := [.lit (.bool false)], args := [d1, d2] }
  | _ => none }
def FnMakeAddOffsetsToTxnRequestWrongFalsely : Prop := fnMakeAddOffsetsToTxnRequestRow.holds Try.pinned (OpenSpec.ofChange fnMakeAddOffsetsToTxnRequestWrong)

/- THE SECOND FORM. 'bulk': how many values and letters a reading holds, each counted each time it is reached (what is shared counts as often as it is met; a slice's spare places count too). A statement '..UptoSaid' is the law's where the arguments, and the package variables that the reading takes, are together of bulk at most 1048576: NARROWER than '..Said'. Prove '..Said' where nothing that the law and all that it calls make is longer than what came in: it says more and counts as full. Else prove '..UptoSaid'. A law counts once. -/
mutual
def uptoBulk {H : Type} : DataW H → Nat
  | .lit (.string bytes) => bytes.length + 1
  | .lit _ => 1
  | .nil => 1
  | .ptr d => uptoBulk d + 1
  | .slice elems spare => uptoBulkAll elems + uptoBulkAll spare + 1
  | .agg parts => uptoBulkAll parts + 1
  | .iface _ d => uptoBulk d + 1
  | .map entries => uptoBulkEntries entries + 1
  | .held _ => 1
def uptoBulkAll {H : Type} : List (DataW H) → Nat
  | [] => 0
  | d :: r => uptoBulk d + uptoBulkAll r
def uptoBulkEntries {H : Type} : List (Lit × DataW H) → Nat
  | [] => 0
  | x :: r => uptoBulkEntry x + uptoBulkEntries r
def uptoBulkEntry {H : Type} : Lit × DataW H → Nat
  | (.string bytes, d) => bytes.length + uptoBulk d + 1
  | (_, d) => uptoBulk d + 1
 end
def uptoSmall : (H : Type) → List (DataW H) → Bool := fun _ ds => decide (uptoBulkAll ds ≤ 1048576)
def OpenSpec.upto (s : _root_.Go.ChangeSpec) : _root_.Go.OpenSpec := { _root_.Go.OpenSpec.ofChange s with cond := some uptoSmall }

/-- 'laws.FnMakeDescribeClusterRequest', WHERE WHAT IT READS IS OF BULK AT MOST 1048576: true; the input reads as it did. -/
def fnMakeDescribeClusterRequestUptoRow : OpenClaim := { program := "yteciepjfbipfgaa", sum := "f995241dcfdf135cbd96dfad8e85acd4a87f2ed70238118f1e59940f54a17600", func := "pub-mailsack/laws.FnMakeDescribeClusterRequest", spec := "fnMakeDescribeClusterRequest", inPlace := ["internal/reflectlite.ValueOf", "internal/reflectlite.Swapper", "(internal/reflectlite.Value).Len"], unfollowed := true, recurses := true, loops := true, apart := false, narrowed := true }
def FnMakeDescribeClusterRequestUptoSaid : Prop := fnMakeDescribeClusterRequestUptoRow.holds Try.pinned (OpenSpec.upto fnMakeDescribeClusterRequestSpec)

/-- 'laws.FnMakeSASLAuthenticateRequest', WHERE WHAT IT READS IS OF BULK AT MOST 1048576: true; the input reads as it did. -/
def fnMakeSASLAuthenticateRequestUptoRow : OpenClaim := { program := "yteciepjfbipfgaa", sum := "f995241dcfdf135cbd96dfad8e85acd4a87f2ed70238118f1e59940f54a17600", func := "pub-mailsack/laws.FnMakeSASLAuthenticateRequest", spec := "fnMakeSASLAuthenticateRequest", inPlace := ["internal/reflectlite.ValueOf", "internal/reflectlite.Swapper", "(internal/reflectlite.Value).Len"], unfollowed := true, recurses := true, loops := true, apart := false, narrowed := true }
def FnMakeSASLAuthenticateRequestUptoSaid : Prop := fnMakeSASLAuthenticateRequestUptoRow.holds Try.pinned (OpenSpec.upto fnMakeSASLAuthenticateRequestSpec)

/-- 'laws.FnMakeEndTxnResponse', WHERE WHAT IT READS IS OF BULK AT MOST 1048576: true; the input reads as it did. -/
def fnMakeEndTxnResponseUptoRow : OpenClaim := { program := "yteciepjfbipfgaa", sum := "f995241dcfdf135cbd96dfad8e85acd4a87f2ed70238118f1e59940f54a17600", func := "pub-mailsack/laws.FnMakeEndTxnResponse", spec := "fnMakeEndTxnResponse", inPlace := ["internal/reflectlite.ValueOf", "internal/reflectlite.Swapper", "(internal/reflectlite.Value).Len"], unfollowed := true, recurses := true, loops := true, apart := false, narrowed := true }
def FnMakeEndTxnResponseUptoSaid : Prop := fnMakeEndTxnResponseUptoRow.holds Try.pinned (OpenSpec.upto fnMakeEndTxnResponseSpec)

/-- 'laws.FnMakeExpireDelegationTokenRequest', WHERE WHAT IT READS IS OF BULK AT MOST 1048576: true; the input reads as it did. -/
def fnMakeExpireDelegationTokenRequestUptoRow : OpenClaim := { program := "yteciepjfbipfgaa", sum := "f995241dcfdf135cbd96dfad8e85acd4a87f2ed70238118f1e59940f54a17600", func := "pub-mailsack/laws.FnMakeExpireDelegationTokenRequest", spec := "fnMakeExpireDelegationTokenRequest", inPlace := ["internal/reflectlite.ValueOf", "internal/reflectlite.Swapper", "(internal/reflectlite.Value).Len"], unfollowed := true, recurses := true, loops := true, apart := false, narrowed := true }
def FnMakeExpireDelegationTokenRequestUptoSaid : Prop := fnMakeExpireDelegationTokenRequestUptoRow.holds Try.pinned (OpenSpec.upto fnMakeExpireDelegationTokenRequestSpec)

/-- 'laws.FnMakeAddOffsetsToTxnRequest', WHERE WHAT IT READS IS OF BULK AT MOST 1048576: true; the input reads as it did. -/
def fnMakeAddOffsetsToTxnRequestUptoRow : OpenClaim := { program := "yteciepjfbipfgaa", sum := "f995241dcfdf135cbd96dfad8e85acd4a87f2ed70238118f1e59940f54a17600", func := "pub-mailsack/laws.FnMakeAddOffsetsToTxnRequest", spec := "fnMakeAddOffsetsToTxnRequest", inPlace := ["internal/reflectlite.ValueOf", "internal/reflectlite.Swapper", "(internal/reflectlite.Value).Len"], unfollowed := true, recurses := true, loops := true, apart := false, narrowed := true }
def FnMakeAddOffsetsToTxnRequestUptoSaid : Prop := fnMakeAddOffsetsToTxnRequestUptoRow.holds Try.pinned (OpenSpec.upto fnMakeAddOffsetsToTxnRequestSpec)

end Rows
end Go.Proofs.Yteciepjfbipfgaa
