/- The walk over code, computed. -/
import Derived.Test.YtepamajphjgigaaGreatDoorK8
set_option linter.unusedVariables false
namespace Go.Proofs.YtepamajphjgigaaGreatDoor.K
open Go

/-- The walk stands at a test. -/
structure VC (X : Pr) (N : Nat) (c : Operand) (x y : Code) (Q : Exit → Env → World → Prop) (e : Env) (w : World) : Prop where
  run : V X.P N (.cond c x y) Q e w
/-- The walk stands at a loop. -/
structure VL (X : Pr) (N : Nat) (x : Code) (Q : Exit → Env → World → Prop) (e : Env) (w : World) : Prop where
  run : V X.P N (.loop x) Q e w
/-- The walk stands at a region whose order is drawn. -/
structure VD (X : Pr) (N : Nat) (id : Nat) (ops : Array Oper) (Q : Exit → Env → World → Prop) (e : Env) (w : World) : Prop where
  run : V X.P N (.region id ops true) Q e w
/-- The walk stands at other code. -/
structure VO (X : Pr) (N : Nat) (c : Code) (Q : Exit → Env → World → Prop) (e : Env) (w : World) : Prop where
  run : V X.P N c Q e w
def goV (X : Pr) (N : Nat) : Code → (Exit → Env → World → Prop) → Env → World → Prop
  | .skip, Q, e, w => Q .normal e w
  | .ret, Q, e, w => Q .ret e w
  | .exit i, Q, e, w => Q (.exit i) e w
  | .region id ops dr, Q, e, w => cond dr (VD X N id ops Q e w) (vcOps X N ops.toList ops.toList (fun e' w' => Q .normal e' w') e w)
  | .seq x y, Q, e, w => goV X N x (thenE (fun e' w' => goV X N y Q e' w') Q) e w
  | .block id x, Q, e, w => goV X N x (blockE id Q) e w
  | .cond c x y, Q, e, w => VC X N c x y Q e w
  | .loop x, Q, e, w => VL X N x Q e w
  | c, Q, e, w => VO X N c Q e w
section
variable {X : Pr} {N : Nat}
theorem goV_sound : ∀ (c : Code) {Q : Exit → Env → World → Prop} {e : Env} {w : World}, goV X N c Q e w → V X.P N c Q e w := by
  intro c
  induction c with
  | skip => exact fun h => V.skip h
  | ret => exact fun h => V.ret h
  | exit i => exact fun h => V.exit h
  | region id ops dr =>
    intro Q e w h
    cases dr with
    | true => exact (show VD X N id ops Q e w from h).run
    | false =>
      have := V.regEnd (X := X) (N := N) (id := id) (l := ops.toList) (Q := Q) (e := e) (w := w) h
      simpa using this
  | seq x y ihx ihy =>
    intro Q e w h
    refine V.seq ((ihx h).mono fun ex e' w' h => ?_)
    cases ex <;> first | exact ihy h | exact h
  | block id x ih => exact fun h => V.block (ih h)
  | cond c x y _ _ => exact fun h => h.run
  | loop x _ => exact fun h => h.run
  | _ => exact fun h => h.run
variable {Q Q' : Exit → Env → World → Prop} {e : Env} {w : World} {x y : Code} {c : Operand}
theorem cI {b : Bool} (hc : ev e c = some (.bool b)) (ht : b = true → goV X N x Q e w) (hf : b = false → goV X N y Q e w) : VC X N c x y Q e w := ⟨V.cond hc (fun h => goV_sound _ (ht h)) (fun h => goV_sound _ (hf h))⟩
theorem cT (hc : ev e c = some (.bool true)) (h : goV X N x Q e w) : VC X N c x y Q e w := ⟨V.condT hc (goV_sound _ h)⟩
theorem cF (hc : ev e c = some (.bool false)) (h : goV X N y Q e w) : VC X N c x y Q e w := ⟨V.condF hc (goV_sound _ h)⟩
theorem yT (h : goV X N x Q e w) (hc : ev e c = some (.bool true) := by rfl) : VC X N c x y Q e w := cT hc h
theorem yF (h : goV X N y Q e w) (hc : ev e c = some (.bool false) := by rfl) : VC X N c x y Q e w := cF hc h
theorem VL.loop {ι : Type} (E : ι → Env) (R : ι → World → Prop) (μ : ι → Nat) (i0 : ι) (h0 : Has (E i0) e) (hR : R i0 w)
    (round : ∀ i w, R i w → goV X N x (thenE (fun e' w' => ∃ i', Has (E i') e' ∧ R i' w' ∧ μ i' < μ i) Q) (E i) w) : VL X N x Q e w :=
  ⟨V.loop E R μ i0 h0 hR fun i w h => goV_sound _ (round i w h)⟩
theorem VD.draw {id : Nat} {l : List Oper} (hm : X.P.follows .mixedOrders = true) (p : Plan) (hok : okAll X.tab l p = true) (h : vcP X N l (fun e' w' => Q .normal e' w') p e w.drew) : VD X N id l.toArray Q e w := ⟨V.drawEnd hm p hok h⟩
theorem cut_e {ι : Type} {z : Code} (E : ι → Env) (R : ι → World → Prop) (h2 : ∀ i w', R i w' → goV X N z Q' (E i) w') : ∀ ex e' w', thenE (fun e' w' => ∃ i, Has (E i) e' ∧ R i w') Q ex e' w' → (∃ e'', Has e'' e' ∧ thenE (fun e' w' => goV X N z Q' e' w') Q ex e'' w') ∨ (thenE (fun e' w' => goV X N z Q' e' w') Q ex e' w') := by
  intro ex e' w' h
  cases ex with
  | normal =>
    obtain ⟨i, hi1, hi2⟩ := h
    exact .inl ⟨E i, hi1, h2 i w' hi2⟩
  | _ => exact .inr h
theorem V.monoO {P : Program} {Q Q' : Exit → Env → World → Prop} (h : V P N x Q e w) (hq : ∀ ex e' w', Q ex e' w' → (∃ e'', Has e'' e' ∧ Q' ex e'' w') ∨ Q' ex e' w') : V P N x Q' e w :=
  ⟨fun a ha => wp_mono (h.run a ha) fun ex a' w' ⟨e', h1, h2⟩ => by
    rcases hq ex e' w' h2 with ⟨e'', h3, h4⟩ | h3
    · exact ⟨e'', h1.weaken h3, h4⟩
    · exact ⟨e', h1, h3⟩⟩
theorem cut_b {ι : Type} {z : Code} {id : Nat} (E : ι → Env) (R : ι → World → Prop) (h2 : ∀ i w', R i w' → goV X N z Q' (E i) w') : ∀ ex e' w', blockE id (thenE (fun e' w' => ∃ i, Has (E i) e' ∧ R i w') Q) ex e' w' → (∃ e'', Has e'' e' ∧ blockE id (thenE (fun e' w' => goV X N z Q' e' w') Q) ex e'' w') ∨ (blockE id (thenE (fun e' w' => goV X N z Q' e' w') Q) ex e' w') := by
  intro ex e' w' h
  cases ex with
  | normal =>
    obtain ⟨i, hi1, hi2⟩ := h
    exact .inl ⟨E i, hi1, h2 i w' hi2⟩
  | exit j =>
    simp only [blockE] at h ⊢
    cases hb : Nat.beq j id with
    | true =>
      rw [hb, cond_true] at h
      obtain ⟨i, hi1, hi2⟩ := h
      exact .inl ⟨E i, hi1, h2 i w' hi2⟩
    | false =>
      rw [hb, cond_false] at h
      rw [cond_false]
      exact .inr h
  | _ => exact .inr h
theorem VC.cutE {ι : Type} {z : Code} (E : ι → Env) (R : ι → World → Prop) (h1 : VC X N c x y (thenE (fun e' w' => ∃ i, Has (E i) e' ∧ R i w') Q) e w) (h2 : ∀ i w', R i w' → goV X N z Q' (E i) w') : VC X N c x y (thenE (fun e' w' => goV X N z Q' e' w') Q) e w := ⟨h1.run.monoO (cut_e E R h2)⟩
theorem VL.cutE {ι : Type} {z : Code} (E : ι → Env) (R : ι → World → Prop) (h1 : VL X N x (thenE (fun e' w' => ∃ i, Has (E i) e' ∧ R i w') Q) e w) (h2 : ∀ i w', R i w' → goV X N z Q' (E i) w') : VL X N x (thenE (fun e' w' => goV X N z Q' e' w') Q) e w := ⟨h1.run.monoO (cut_e E R h2)⟩
theorem VD.cutE {ι : Type} {z : Code} {id : Nat} {ops : Array Oper} (E : ι → Env) (R : ι → World → Prop) (h1 : VD X N id ops (thenE (fun e' w' => ∃ i, Has (E i) e' ∧ R i w') Q) e w) (h2 : ∀ i w', R i w' → goV X N z Q' (E i) w') : VD X N id ops (thenE (fun e' w' => goV X N z Q' e' w') Q) e w := ⟨h1.run.monoO (cut_e E R h2)⟩
theorem VC.cutB {ι : Type} {z : Code} {id : Nat} (E : ι → Env) (R : ι → World → Prop) (h1 : VC X N c x y (blockE id (thenE (fun e' w' => ∃ i, Has (E i) e' ∧ R i w') Q)) e w) (h2 : ∀ i w', R i w' → goV X N z Q' (E i) w') : VC X N c x y (blockE id (thenE (fun e' w' => goV X N z Q' e' w') Q)) e w := ⟨h1.run.monoO (cut_b E R h2)⟩
theorem VL.cutB {ι : Type} {z : Code} {id : Nat} (E : ι → Env) (R : ι → World → Prop) (h1 : VL X N x (blockE id (thenE (fun e' w' => ∃ i, Has (E i) e' ∧ R i w') Q)) e w) (h2 : ∀ i w', R i w' → goV X N z Q' (E i) w') : VL X N x (blockE id (thenE (fun e' w' => goV X N z Q' e' w') Q)) e w := ⟨h1.run.monoO (cut_b E R h2)⟩
end
/-- A function by its body, walked. -/
theorem Does.go {X : Pr} {f : FuncId} {fn : Func} {c : Code} {l : List Value} {w : World} {R : Value → World → Prop} (hf : X.P.funcs[f]? = some fn) (hb : fn.body = some c)
    (hn : (fn.name == "runtime.NumGoroutine") = false) (hl : Nat.ble l.length fn.ntmps = true) (rs : List ResultVar) (hrs : fn.results.toList = rs)
    (h : goV X fn.ntmps c (retPost X rs R) (argsEnv 0 l) w) : Does X.P f l.toArray w R := Does.of hf hb hn hl rs hrs (goV_sound _ h)
end Go.Proofs.YtepamajphjgigaaGreatDoor.K
