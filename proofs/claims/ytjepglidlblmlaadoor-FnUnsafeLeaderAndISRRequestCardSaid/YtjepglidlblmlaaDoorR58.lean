/- FnUnsafeLeaderAndISRRequestCardSaid is proved: whatever the number and the octets, the law returns true and the arguments read as they did. No condition beyond the statement's own. -/
import Derived.Test.YtjepglidlblmlaaDoorRL
import Derived.JoinedCond
import Derived.Test.YtjepglidlblmlaaDoorX58
set_option linter.unusedVariables false
set_option linter.unusedSimpArgs false
namespace Go.Proofs.YtjepglidlblmlaaDoor.fnUnsafeLeaderAndISRRequest
open Go Go.ChangeShapes Go.WideShapes Go.ChangeAt Go.RowKit K

theorem own : ownKnob Tryd.prog.godebug = none := by kernel_rfl
theorem laidOut : laidOutB Tryd.prog = true := by kernel_rfl
set_option maxHeartbeats 800000 in
set_option maxRecDepth 100000 in
theorem contract (H : Type) (enc : TypeId × Value → H) (W : World) (base : Nat) (args : Array Value) (ds gs : List (DataW H)) (before : List MemPlace)
    (hval : ∀ (j : Nat) t v, Tryd.f3.params[j]? = some t → args[j]? = some v → Value.okWide Tryd.prog W .any base t v)
    (hW : DataW.Whole enc Tryd.prog Tryd.f3.params.toList Rows.fnUnsafeLeaderAndISRRequestSpec.vars false W args.toList ds gs before) (hL : laidMetH Tryd.prog Rows.fnUnsafeLeaderAndISRRequestRow.laid W) :
    Calls Tryd.prog 3 args W fun e W' => ∃ v, e = .returned v ∧ Rows.fnUnsafeLeaderAndISRRequestSpec.post enc Tryd.prog Tryd.f3 false true false false W args v W' := by
  have hW' := hW
  obtain ⟨ev, hev⟩ := laid_of hL
  obtain ⟨p, q, hA0, hV, rfl, _, _⟩ := hW
  have hA : DataW.TrodAll enc Tryd.prog W 0 (fun _ => true) true Tryd.f3.params.toList args.toList ds p := hA0
  rw [Tryd.params3] at hA hval
  obtain ⟨v0, v1, d0, d1, p0, p1, rfl, rfl, rfl, h0, h1⟩ := trodAll_two hA
  obtain ⟨rfl, rfl⟩ := trodVars_none hV
  have h0k := h0
  obtain ⟨n, rfl, rfl, rfl, hn⟩ := open_int Tryd.underlying5 (hval 0 5 v0 rfl rfl) h0
  obtain ⟨a1, n1, c1, rfl⟩ := okWide_slice Tryd.underlying22 (hval 1 22 v1 rfl rfl)
  have h1k := h1
  obtain ⟨fuel1, hf1⟩ := h1
  obtain ⟨y1, l, hy1, hbl, _⟩ := read_bytesW hf1
  have hy1 : [Value.slice a1 n1 c1] = [y1] := hy1
  obtain rfl : Value.slice a1 n1 c1 = y1 := by injection hy1
  clear hA0
  simp only [List.nil_append, List.append_nil] at hW'
  have hlt1 : ∀ x ∈ p1, x.block < W.heap.size := fun x hx => by simpa using hW'.lt x (by simp [hx])
  have harg0 : ∀ (W' : World), Below W.heap.size W W' → DataW.Trod enc Tryd.prog W' 0 (fun b => decide (b < W.heap.size)) true 5 (.int .u8 n) (.lit (.int .u8 n)) [] :=
    fun W' hx => Below.trod laidOut (by kernel_rfl) (of_decide_eq_true (by kernel_rfl)) h0k hx (fun x hx => by cases hx)
  have harg1 : ∀ (W' : World), Below W.heap.size W W' → DataW.Trod enc Tryd.prog W' 0 (fun b => decide (b < W.heap.size)) true 22 (.slice a1 n1 c1) d1 p1 :=
    fun W' hx => Below.trod laidOut (by kernel_rfl) (of_decide_eq_true (by kernel_rfl)) h1k hx hlt1
  obtain ⟨m, rfl, hm⟩ : ∃ m : Nat, n = (m : Int) ∧ m < 256 := by
    have hx : 0 ≤ n ∧ n ≤ 255 := by simpa [Lit.wf, IntKind.min, IntKind.max, IntKind.signed, IntKind.bits] using hn
    exact ⟨n.toNat, by omega, by omega⟩
  have hwalk := walkLeaderAndISRRequest (w := W) hm hev hbl
  obtain ⟨hok, hcalls⟩ := hwalk.run.resolve_right (by
    rintro ⟨v, w', h, _⟩
    have h3 := h.symm.trans (callOK_of (P := X.P) Tryd.func3 (by kernel_rfl) (by kernel_rfl) _ W)
    injection h3 with h4 _
    cases h4)
  refine hcalls.mono fun e W' he => ?_
  cases e with
  | returned v =>
    obtain ⟨rfl, hx⟩ := he
    have hnx : Below W.heap.size W W' := hx.below (Nat.le_refl _) fun _ _ f => f
    refine ⟨_, rfl, _, _, _, [], [] ++ p1, [], hW', ?_, trodAll_mk2 (harg0 _ hnx) (harg1 _ hnx), rfl, hnx.frame _, fun h => by cases h⟩
    exact trodAll_mk1 (shut_bool Tryd.underlying4 true)
  | panicked c => exact he.elim
  | outgrown => exact he.elim
theorem reads (os : Os) {H : Type} (enc : TypeId × Value → H) : ∃ places, DataW.whole enc Tryd.prog ((laidWorld os).forCall (fun _ _ => 0) ⟨#[], #[.int .u8 0, .slice none 0 0], []⟩).memory Tryd.f3.params.toList Rows.fnUnsafeLeaderAndISRRequestSpec.vars false (#[.int .u8 0, .slice none 0 0] : Array Value).toList 8 = some ([.lit (.int .u8 0), .nil], [], places) :=
  ⟨[], by kernel_rfl⟩
set_option maxRecDepth 100000 in
theorem lifted (os : Os) (started : os.Started) (H : Type) (enc : TypeId × Value → H) (F : Stop.Interp) :
    ReturnsInHanded {} Tryd.checked os 3 .any ((OpenSpec.ofChange Rows.fnUnsafeLeaderAndISRRequestSpec).preRow enc Tryd.prog Tryd.f3 Rows.fnUnsafeLeaderAndISRRequestRow.domain false Rows.fnUnsafeLeaderAndISRRequestRow.laid) (((OpenSpec.ofChange Rows.fnUnsafeLeaderAndISRRequestSpec).at F).post enc Tryd.prog Tryd.f3 false true false false) := by
  obtain ⟨places, hx⟩ := reads os enc
  refine returnsInHanded_of_row (C := Tryd.checked) (s := OpenSpec.ofChange Rows.fnUnsafeLeaderAndISRRequestSpec) own started (by kernel_rfl) Tryd.func3
    (witness_row_at (enc := enc) (C := Tryd.checked) false (laidWorld os) #[.int .u8 0, .slice none 0 0] rfl (by kernel_rfl) (by kernel_rfl) (by kernel_rfl)
      (OpenSpec.preRow_of_cond 8 hx (by kernel_rfl) (fun k hk => by cases hk) (by kernel_rfl) (laid_met os _))) ?_
  intro W base args ds gs before hval hW _ _ _ hL _ _
  exact contract H enc W base args ds gs before hval hW hL
theorem said : Rows.FnUnsafeLeaderAndISRRequestSaid :=
  OpenClaim.holds_of_cond 3 Tryd.f3 rfl rfl rfl rfl rfl rfl rfl ⟨rfl, rfl, rfl, rfl, rfl⟩ rfl rfl rfl rfl rfl (by kernel_rfl) Tryd.func3 (by kernel_rfl)
    (of_decide_eq_true (by kernel_rfl)) (by unfold Func.isWrapper; first | (rw [if_pos (by decide +kernel)]; kernel_rfl) | (rw [if_neg (by decide +kernel)]; exact ⟨rfl, rfl⟩))
    (fun os started H enc _ F => by rw [OpenClaim.pre_eq_preRow]; exact lifted os started H enc F)
theorem plain (f : FuncId) (fn : Func) (hf : Tryd.pinned.checked.prog.funcNamed "pub-mailsack/laws.FnUnsafeLeaderAndISRRequest" = some f) (hfn : Tryd.pinned.checked.prog.funcs[f]? = some fn) :
    false = Tryd.pinned.checked.prog.looks [] ∧ ∀ (j : Nat) t, fn.params[j]? = some t → Tryd.pinned.checked.prog.wantsStandIn t = false := by
  obtain rfl : f = 3 := Option.some.inj ((show Tryd.prog.funcNamed "pub-mailsack/laws.FnUnsafeLeaderAndISRRequest" = some 3 by kernel_rfl).symm.trans hf) |>.symm
  obtain rfl : fn = Tryd.f3 := (Option.some.inj (Tryd.func3.symm.trans hfn)).symm
  refine ⟨by kernel_rfl, fun j t ht => ?_⟩
  rw [Tryd.params3] at ht
  have ht : t = 5 ∨ t = 22 := by simpa using Array.mem_of_getElem? ht
  rcases ht with rfl | rfl
  · exact (show Tryd.prog.wantsStandIn 5 = false by kernel_rfl)
  · exact (show Tryd.prog.wantsStandIn 22 = false by kernel_rfl)
theorem proved : Rows.FnUnsafeLeaderAndISRRequestCardSaid :=
  Claim7.holds_tied_plain_at .later [] _ _ _ _ said (fun _ h => by cases h) (by kernel_rfl) (fun _ h => by cases h) fnUnsafeLeaderAndISRRequest_row_tie rfl ⟨rfl, rfl⟩ (by kernel_rfl) rfl plain (by kernel_rfl)
end Go.Proofs.YtjepglidlblmlaaDoor.fnUnsafeLeaderAndISRRequest
