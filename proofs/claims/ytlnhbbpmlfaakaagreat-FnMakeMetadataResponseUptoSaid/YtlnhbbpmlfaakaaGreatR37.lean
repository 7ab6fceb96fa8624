/- FnMakeMetadataResponseUptoSaid is proved: whatever the number and the tree of bulk at most 1048576, the law returns true and the arguments read as they did. No condition beyond the statement's own bound. -/
import Derived.Test.YtlnhbbpmlfaakaaGreatR0U
import Derived.JoinedCond
import Derived.Test.YtlnhbbpmlfaakaaGreatN37
set_option linter.unusedVariables false
set_option linter.unusedSimpArgs false
namespace Go.Proofs.YtlnhbbpmlfaakaaGreat.fnMakeMetadataResponse
open Go Go.ChangeShapes Go.WideShapes Go.ChangeAt Go.RowKit K

theorem own : ownKnob Tryz.prog.godebug = none := by kernel_rfl
theorem laidOut : laidOutB Tryz.prog = true := by kernel_rfl
set_option maxHeartbeats 800000 in
set_option maxRecDepth 100000 in
theorem contract (H : Type) (enc : TypeId × Value → H) (W : World) (base : Nat) (args : Array Value) (ds gs : List (DataW H)) (before : List MemPlace)
    (hval : ∀ (j : Nat) t v, Tryz.f3.params[j]? = some t → args[j]? = some v → Value.okWide Tryz.prog W .any base t v)
    (hW : DataW.Whole enc Tryz.prog Tryz.f3.params.toList Rows.fnMakeMetadataResponseSpec.vars false W args.toList ds gs before) (hk : Rows.uptoSmall H (ds ++ gs) = true) :
    Calls Tryz.prog 3 args W fun e W' => ∃ v, e = .returned v ∧ Rows.fnMakeMetadataResponseSpec.post enc Tryz.prog Tryz.f3 false true false false W args v W' := by
  have hW' := hW
  obtain ⟨p, q, hA0, hV, rfl, _, _⟩ := hW
  have hA : DataW.TrodAll enc Tryz.prog W 0 (fun _ => true) true Tryz.f3.params.toList args.toList ds p := hA0
  rw [Tryz.params3] at hA hval
  obtain ⟨v0, v1, d0, d1, p0, p1, rfl, rfl, rfl, h0, h1⟩ := trodAll_two hA
  obtain ⟨rfl, rfl⟩ := trodVars_none hV
  have h0k := h0
  obtain ⟨n, rfl, rfl, rfl, hn⟩ := open_int Tryz.underlying5 (hval 0 5 v0 rfl rfl) h0
  obtain ⟨cs, rfl, hcs⟩ := okWide_struct Tryz.underlying26 (hval 1 26 v1 rfl rfl)
  have h1k := h1
  obtain ⟨fuel, hf⟩ := h1
  obtain ⟨t, ht, hwt⟩ := read_treeW hf
  clear hA0
  simp only [List.append_nil] at hW'
  have hlt : ∀ x ∈ p1, x.block < W.heap.size := fun x hx => by simpa using hW'.lt x (by simp [hx])
  have harg0 : ∀ (W' : World), Below W.heap.size W W' → DataW.Trod enc Tryz.prog W' 0 (fun b => decide (b < W.heap.size)) true 5 (.int .u8 n) (.lit (.int .u8 n)) [] :=
    fun W' hx => Below.trod laidOut (by kernel_rfl) (of_decide_eq_true (by kernel_rfl)) h0k hx (fun x hx => by cases hx)
  have harg1 : ∀ (W' : World), Below W.heap.size W W' → DataW.Trod enc Tryz.prog W' 0 (fun b => decide (b < W.heap.size)) true 26 (.agg cs) d1 p1 :=
    fun W' hx => Below.trod laidOut (by kernel_rfl) (of_decide_eq_true (by kernel_rfl)) h1k hx hlt
  obtain ⟨m, rfl, hm⟩ : ∃ m : Nat, n = (m : Int) ∧ m < 256 := by
    have hx : 0 ≤ n ∧ n ≤ 255 := by simpa [Lit.wf, IntKind.min, IntKind.max, IntKind.signed, IntKind.bits] using hn
    exact ⟨n.toNat, by omega, by omega⟩
  have hwt : wtT t ≤ Rows.uptoBulk d1 := hwt
  have hsz : wtT t ≤ 1048576 := by
    have h1 : Rows.uptoBulkAll [DataW.lit (H := H) (.int .u8 m), d1] ≤ 1048576 := of_decide_eq_true hk
    simp only [Rows.uptoBulkAll, Rows.uptoBulk] at h1
    omega
  have hwalk := walkMetadataResponse (w := W) hm (x := .agg cs) (t := t) ⟨cs.toList, by simp, ht⟩ hsz
  obtain ⟨hok, hcalls⟩ := hwalk.run.resolve_right (by
    rintro ⟨v, w', h, _⟩
    have h3 := h.symm.trans (callOK_of (P := X.P) Tryz.func3 (by kernel_rfl) (by kernel_rfl) _ W)
    injection h3 with h4 _
    cases h4)
  refine hcalls.mono fun e W' he => ?_
  cases e with
  | returned v =>
    obtain ⟨rfl, hx⟩ := he
    have hnx : Below W.heap.size W W' := hx.below (Nat.le_refl _) fun _ _ f => f
    refine ⟨_, rfl, _, _, _, [], [] ++ p1, [], hW', ?_, trodAll_mk2 (harg0 _ hnx) (harg1 _ hnx), rfl, hnx.frame _, fun h => by cases h⟩
    exact trodAll_mk1 (shut_bool Tryz.underlying4 true)
  | panicked c => exact he.elim
  | outgrown => exact he.elim
set_option maxRecDepth 100000 in
theorem lifted (os : Os) (started : os.Started) (H : Type) (enc : TypeId × Value → H) (F : Stop.Interp) :
    ReturnsInHanded {} Tryz.checked os 3 .any ((Rows.OpenSpec.upto Rows.fnMakeMetadataResponseSpec).pre6 enc Tryz.prog Tryz.f3 Rows.fnMakeMetadataResponseUptoRow.domain false) (((Rows.OpenSpec.upto Rows.fnMakeMetadataResponseSpec).at F).post enc Tryz.prog Tryz.f3 false true false false) := by
  refine returnsInHanded_of_cond (C := Tryz.checked) (s := Rows.OpenSpec.upto Rows.fnMakeMetadataResponseSpec) (k := Rows.uptoSmall) rfl own started (by kernel_rfl) Tryz.func3
    (OpenSpec.witness (enc := enc) (C := Tryz.checked) (s := Rows.OpenSpec.upto Rows.fnMakeMetadataResponseSpec) (k := Rows.uptoSmall) rfl false ⟨#[], #[.int .u8 0, .agg #[.int .i64 0, .slice none 0 0, .bool false, .slice none 0 0, .slice none 0 0]], []⟩ 8 (by kernel_rfl) (by kernel_rfl) (by kernel_rfl)
      (x := ([.lit (.int .u8 0), .agg [.lit (.int .i64 0), .nil, .lit (.bool false), .nil, .nil]], [], [])) (by kernel_rfl) rfl (by kernel_rfl)) ?_
  intro W base args ds gs before hval hW _ hk _
  exact contract H enc W base args ds gs before hval hW hk
theorem proved : Rows.FnMakeMetadataResponseUptoSaid :=
  OpenClaim.holds_of_cond 3 Tryz.f3 rfl rfl rfl rfl rfl rfl rfl ⟨rfl, rfl, rfl, rfl, rfl⟩ rfl rfl rfl rfl rfl (by kernel_rfl) Tryz.func3 (by kernel_rfl)
    (of_decide_eq_true (by kernel_rfl)) (by unfold Func.isWrapper; first | (rw [if_pos (by decide +kernel)]; kernel_rfl) | (rw [if_neg (by decide +kernel)]; exact ⟨rfl, rfl⟩))
    (fun os started H enc _ F => lifted os started H enc F)
end Go.Proofs.YtlnhbbpmlfaakaaGreat.fnMakeMetadataResponse
