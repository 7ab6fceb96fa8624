/- FnDefaultStreamsGroupHeartbeatResponseUptoCardSaid is proved: whatever the number and the tree of bulk at most 1048576, the law returns true and the arguments read as they did. No condition beyond the statement's own bound. -/
import Derived.Test.YtepamajphjgigaaGreatDoorRL
import Derived.JoinedCond
import Derived.Test.YtepamajphjgigaaGreatDoorX59
set_option linter.unusedVariables false
set_option linter.unusedSimpArgs false
namespace Go.Proofs.YtepamajphjgigaaGreatDoor.fnDefaultStreamsGroupHeartbeatResponse
open Go Go.ChangeShapes Go.WideShapes Go.ChangeAt Go.RowKit K

theorem own : ownKnob Tryz.prog.godebug = none := by kernel_rfl
theorem laidOut : laidOutB Tryz.prog = true := by kernel_rfl
set_option maxHeartbeats 800000 in
set_option maxRecDepth 100000 in
theorem contract (H : Type) (enc : TypeId × Value → H) (W : World) (base : Nat) (args : Array Value) (ds gs : List (DataW H)) (before : List MemPlace)
    (hval : ∀ (j : Nat) t v, Tryz.f3.params[j]? = some t → args[j]? = some v → Value.okWide Tryz.prog W .any base t v)
    (hW : DataW.Whole enc Tryz.prog Tryz.f3.params.toList Rows.fnDefaultStreamsGroupHeartbeatResponseSpec.vars false W args.toList ds gs before) (hk : Rows.uptoSmall H (ds ++ gs) = true) (hL : laidMetH Tryz.prog Rows.fnDefaultStreamsGroupHeartbeatResponseUptoRow.laid W) :
    Calls Tryz.prog 3 args W fun e W' => ∃ v, e = .returned v ∧ Rows.fnDefaultStreamsGroupHeartbeatResponseSpec.post enc Tryz.prog Tryz.f3 false true false false W args v W' := by
  have hW' := hW
  obtain ⟨ev, hev⟩ := laid_of hL
  obtain ⟨p, q, hA0, hV, rfl, _, _⟩ := hW
  have hA : DataW.TrodAll enc Tryz.prog W 0 (fun _ => true) true Tryz.f3.params.toList args.toList ds p := hA0
  rw [Tryz.params3] at hA hval
  obtain ⟨v0, v2, d0, d2, p0, p2, rfl, rfl, rfl, h0, h2⟩ := trodAll_two hA
  obtain ⟨rfl, rfl⟩ := trodVars_none hV
  have h0k := h0
  obtain ⟨n, rfl, rfl, rfl, hn⟩ := open_int Tryz.underlying5 (hval 0 5 v0 rfl rfl) h0
  obtain ⟨cs, rfl, hcs⟩ := okWide_struct Tryz.underlying26 (hval 1 26 v2 rfl rfl)
  have h2k := h2
  obtain ⟨fuel, hf⟩ := h2
  obtain ⟨t, ht, hwt⟩ := read_treeW hf
  clear hA0
  simp only [List.nil_append, List.append_nil] at hW'
  have hlt2 : ∀ x ∈ p2, x.block < W.heap.size := fun x hx => by simpa using hW'.lt x (by simp [hx])
  have harg0 : ∀ (W' : World), Below W.heap.size W W' → DataW.Trod enc Tryz.prog W' 0 (fun b => decide (b < W.heap.size)) true 5 (.int .u8 n) (.lit (.int .u8 n)) [] :=
    fun W' hx => Below.trod laidOut (by kernel_rfl) (of_decide_eq_true (by kernel_rfl)) h0k hx (fun x hx => by cases hx)
  have harg2 : ∀ (W' : World), Below W.heap.size W W' → DataW.Trod enc Tryz.prog W' 0 (fun b => decide (b < W.heap.size)) true 26 (.agg cs) d2 p2 :=
    fun W' hx => Below.trod laidOut (by kernel_rfl) (of_decide_eq_true (by kernel_rfl)) h2k hx hlt2
  obtain ⟨m, rfl, hm⟩ : ∃ m : Nat, n = (m : Int) ∧ m < 256 := by
    have hx : 0 ≤ n ∧ n ≤ 255 := by simpa [Lit.wf, IntKind.min, IntKind.max, IntKind.signed, IntKind.bits] using hn
    exact ⟨n.toNat, by omega, by omega⟩
  have hwt : wtT t ≤ Rows.uptoBulk d2 := hwt
  have hsz : wtT t ≤ 1048576 := by
    have h1 : Rows.uptoBulkAll [DataW.lit (H := H) (.int .u8 m), d2] ≤ 1048576 := of_decide_eq_true hk
    simp only [Rows.uptoBulkAll, Rows.uptoBulk] at h1
    omega
  have hwalk := walkStreamsGroupHeartbeatResponse (w := W) hm hev (x := .agg cs) (t := t) ⟨cs.toList, by simp, ht⟩ hsz
  obtain ⟨hok, hcalls⟩ := hwalk.run.resolve_right (by
    rintro ⟨v, w', h, _⟩
    have h3 := h.symm.trans (callOK_of (P := X.P) Tryz.func3 (by kernel_rfl) (by kernel_rfl) _ W)
    injection h3 with h4 _
    cases h4)
  refine hcalls.mono fun e W' he => ?_
  cases e with
  | returned v =>
    obtain ⟨rfl, hx⟩ := he
    have hnx : Below W.heap.size W W' := hx.below (Nat.le_refl _) fun _ _ f => f
    refine ⟨_, rfl, _, _, _, [], [] ++ p2, [], hW', ?_, trodAll_mk2 (harg0 _ hnx) (harg2 _ hnx), rfl, hnx.frame _, fun h => by cases h⟩
    exact trodAll_mk1 (shut_bool Tryz.underlying4 true)
  | panicked c => exact he.elim
  | outgrown => exact he.elim
theorem reads (os : Os) {H : Type} (enc : TypeId × Value → H) : ∃ places, DataW.whole enc Tryz.prog ((laidWorld os).forCall (fun _ _ => 0) ⟨#[], #[.int .u8 0, .agg #[.int .i64 0, .slice none 0 0, .bool false, .slice none 0 0, .slice none 0 0]], []⟩).memory Tryz.f3.params.toList Rows.fnDefaultStreamsGroupHeartbeatResponseSpec.vars false (#[.int .u8 0, .agg #[.int .i64 0, .slice none 0 0, .bool false, .slice none 0 0, .slice none 0 0]] : Array Value).toList 8 = some ([.lit (.int .u8 0), .agg [.lit (.int .i64 0), .nil, .lit (.bool false), .nil, .nil]], [], places) :=
  ⟨[], by kernel_rfl⟩
set_option maxRecDepth 100000 in
theorem lifted (os : Os) (started : os.Started) (H : Type) (enc : TypeId × Value → H) (F : Stop.Interp) :
    ReturnsInHanded {} Tryz.checked os 3 .any ((Rows.OpenSpec.upto Rows.fnDefaultStreamsGroupHeartbeatResponseSpec).preRow enc Tryz.prog Tryz.f3 Rows.fnDefaultStreamsGroupHeartbeatResponseUptoRow.domain false Rows.fnDefaultStreamsGroupHeartbeatResponseUptoRow.laid) (((Rows.OpenSpec.upto Rows.fnDefaultStreamsGroupHeartbeatResponseSpec).at F).post enc Tryz.prog Tryz.f3 false true false false) := by
  obtain ⟨places, hx⟩ := reads os enc
  refine returnsInHanded_of_row (C := Tryz.checked) (s := Rows.OpenSpec.upto Rows.fnDefaultStreamsGroupHeartbeatResponseSpec) own started (by kernel_rfl) Tryz.func3
    (witness_row_at (enc := enc) (C := Tryz.checked) false (laidWorld os) #[.int .u8 0, .agg #[.int .i64 0, .slice none 0 0, .bool false, .slice none 0 0, .slice none 0 0]] rfl (by kernel_rfl) (by kernel_rfl) (by kernel_rfl)
      (OpenSpec.preRow_of_cond 8 hx (by kernel_rfl) (fun k hk => by cases hk; kernel_rfl) (by kernel_rfl) (laid_met os _))) ?_
  intro W base args ds gs before hval hW _ hcond _ hL _ _
  exact contract H enc W base args ds gs before hval hW (hcond _ rfl) hL
theorem said : Rows.FnDefaultStreamsGroupHeartbeatResponseUptoSaid :=
  OpenClaim.holds_of_cond 3 Tryz.f3 rfl rfl rfl rfl rfl rfl rfl ⟨rfl, rfl, rfl, rfl, rfl⟩ rfl rfl rfl rfl rfl (by kernel_rfl) Tryz.func3 (by kernel_rfl)
    (of_decide_eq_true (by kernel_rfl)) (by unfold Func.isWrapper; first | (rw [if_pos (by decide +kernel)]; kernel_rfl) | (rw [if_neg (by decide +kernel)]; exact ⟨rfl, rfl⟩))
    (fun os started H enc _ F => by rw [OpenClaim.pre_eq_preRow]; exact lifted os started H enc F)
theorem plain (f : FuncId) (fn : Func) (hf : Tryz.pinned.checked.prog.funcNamed "pub-mailsack/laws.FnDefaultStreamsGroupHeartbeatResponse" = some f) (hfn : Tryz.pinned.checked.prog.funcs[f]? = some fn) :
    false = Tryz.pinned.checked.prog.looks [] ∧ ∀ (j : Nat) t, fn.params[j]? = some t → Tryz.pinned.checked.prog.wantsStandIn t = false := by
  obtain rfl : f = 3 := Option.some.inj ((show Tryz.prog.funcNamed "pub-mailsack/laws.FnDefaultStreamsGroupHeartbeatResponse" = some 3 by kernel_rfl).symm.trans hf) |>.symm
  obtain rfl : fn = Tryz.f3 := (Option.some.inj (Tryz.func3.symm.trans hfn)).symm
  refine ⟨by kernel_rfl, fun j t ht => ?_⟩
  rw [Tryz.params3] at ht
  have ht : t = 5 ∨ t = 26 := by simpa using Array.mem_of_getElem? ht
  rcases ht with rfl | rfl
  · exact (show Tryz.prog.wantsStandIn 5 = false by kernel_rfl)
  · exact (show Tryz.prog.wantsStandIn 26 = false by kernel_rfl)
theorem proved : Rows.FnDefaultStreamsGroupHeartbeatResponseUptoCardSaid :=
  Claim7.holds_tied_plain_at .later [] _ _ _ _ said (fun _ h => by cases h) (by kernel_rfl) (fun _ h => by cases h) fnDefaultStreamsGroupHeartbeatResponseUpto_row_tie rfl ⟨rfl, rfl⟩ (by kernel_rfl) rfl plain (by kernel_rfl)
end Go.Proofs.YtepamajphjgigaaGreatDoor.fnDefaultStreamsGroupHeartbeatResponse
