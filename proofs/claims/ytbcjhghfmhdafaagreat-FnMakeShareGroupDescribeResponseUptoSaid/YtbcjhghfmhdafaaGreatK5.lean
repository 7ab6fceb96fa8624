/- The judgement over code, its rules, and regions in the order of the text. -/
import Derived.Test.YtbcjhghfmhdafaaGreatK4
import Derived.Deep.LoopGhost
set_option linter.unusedVariables false
set_option linter.unusedSimpArgs false
namespace Go.Proofs.YtbcjhghfmhdafaaGreat.K
open Go

/-- One operation. A bool that is moved is named by a new variable (tests and guards part on it). -/
def vcOp (X : Pr) (o : Oper) (e : Env) (w : World) (K : Value → World → Prop) : Prop :=
  match o.op, tlook X.tab o.type with
  | .move x, some ⟨.bool, _, _, _⟩ => match ev e x with
    | some (.bool b) => ∀ c, b = c → K (.bool c) w
    | _ => False
  | _, _ => match pureOp X.tab o.op e with
    | some v => K v w
    | none => cond (semOp o.op) (semVC X o e w K) (effVC X o e w K)
/-- What a guard's operation has yielded: a bool, or nothing. -/
def gval (ops : List Oper) (e : Env) (j : Nat) : Option (Option Bool) :=
  match ops[j]? with
  | some o => match o.dst with
    | some d => match look e d with
      | some (.bool b) => some (some b)
      | some (.tuple _) => some none
      | _ => none
    | none => none
  | none => none
def vcG (X : Pr) (ops : List Oper) (o : Oper) (e : Env) (w : World) (K : Value → World → Prop) : Prop :=
  match o.guard with
  | none => vcOp X o e w K
  | some (j, want) => match gval ops e j with
    | some (some true) => cond want (vcOp X o e w K) (K undef w)
    | some (some false) => cond want (K undef w) (vcOp X o e w K)
    | some none => K undef w
    | none => False
def putVC (N : Nat) (dst : Option Tmp) (v : Value) (e : Env) (k : Env → Prop) : Prop :=
  match dst with
  | none => k e
  | some d => cond (Nat.blt d N) (k ((d, v) :: e)) False
def vcOps (X : Pr) (N : Nat) (ops : List Oper) : List Oper → (Env → World → Prop) → Env → World → Prop
  | [], K, e, w => K e w
  | o :: r, K, e, w => vcG X ops o e w fun v w' => putVC N o.dst v e fun e' => vcOps X N ops r K e' w'
section
variable {X : Pr} {N : Nat} {e : Env} {a : Act} {w : World} {o : Oper} {Q : Exit → Act → World → Prop} {next : Act → World → Prop}
theorem vcOp_sound {K : Value → World → Prop} (ha : Agree N e a) (h : vcOp X o e w K) (hk : ∀ v w', K v w' → next (a.put o.dst v) w') : o.wp X.P a w next Q := by
  unfold vcOp at h
  split at h
  · rename_i x _ _ _ ho ht
    split at h
    · rename_i b hx
      refine wp_value (v := .bool b) (w' := w) ?_ (hk _ _ (h b rfl))
      simp [execOp, ho, ha.ev hx]
    · exact h.elim
  · split at h
    · rename_i v hv
      exact wp_value (pureOp_sound ha hv) (hk _ _ h)
    · cases hs : semOp o.op with
      | true => rw [hs, cond_true] at h; exact semVC_sound ha h hk
      | false => rw [hs, cond_false] at h; exact effVC_sound ha h hk
theorem gval_yielded {ops : List Oper} (ha : Agree N e a) {j : Nat} {r : Option Bool} (h : gval ops e j = some r) : yielded ops.toArray a.tmps j = r := by
  unfold gval at h
  split at h
  · rename_i oj hj
    split at h
    · rename_i d hd
      have key : ∀ v, look e d = some v → ((ops.toArray[j]?).bind (·.dst)).bind (a.tmps[·]?) = some v := by
        intro v hv
        obtain ⟨h1, h2⟩ := ha.get d v hv
        have hlt : d < a.tmps.size := by rw [ha.size]; exact h1
        have hg : a.tmps[d]? = some v := by
          rw [← h2]
          simp [Array.getD, hlt]
        simp [hj, hd, hg]
      split at h
      · rename_i b hb
        unfold yielded
        rw [key _ hb]
        simpa using h
      · rename_i vs hb
        unfold yielded
        rw [key _ hb]
        simpa using h
      · simp at h
    · simp at h
  · simp at h
/-- One operation with its guard. -/
theorem vcG_sound {ops : List Oper} {K : Value → World → Prop} (ha : Agree N e a) (h : vcG X ops o e w K) (hk : ∀ v w', K v w' → next (a.put o.dst v) w') :
    if Region.wanted o (yielded ops.toArray a.tmps) then o.wp X.P a w next Q ∨ (o.asks X.P a w ∧ LetsOut Q) else next (a.put o.dst undef) w := by
  have run : ∀ hw : Region.wanted o (yielded ops.toArray a.tmps) = true, vcOp X o e w K → if Region.wanted o (yielded ops.toArray a.tmps) then o.wp X.P a w next Q ∨ (o.asks X.P a w ∧ LetsOut Q) else next (a.put o.dst undef) w := by
    intro hw h
    rw [hw]
    exact .inl (vcOp_sound ha h hk)
  have pass : ∀ hw : Region.wanted o (yielded ops.toArray a.tmps) = false, K undef w → if Region.wanted o (yielded ops.toArray a.tmps) then o.wp X.P a w next Q ∨ (o.asks X.P a w ∧ LetsOut Q) else next (a.put o.dst undef) w := by
    intro hw h
    rw [hw]
    exact hk _ _ h
  have wanted : ∀ j want r, o.guard = some (j, want) → gval ops e j = some r → Region.wanted o (yielded ops.toArray a.tmps) = (r == some want) := by
    intro j want r hg hv
    unfold Region.wanted
    rw [hg]
    dsimp only
    rw [gval_yielded ha hv]
  unfold vcG at h
  split at h
  · rename_i hg
    exact run (by unfold Region.wanted; rw [hg]) h
  · rename_i j want hg
    split at h
    · rename_i hv
      have hw := wanted j want _ hg hv
      cases want with
      | true => exact run hw h
      | false => exact pass hw h
    · rename_i hv
      have hw := wanted j want _ hg hv
      cases want with
      | true => exact pass hw h
      | false => exact run hw h
    · rename_i hv
      exact pass (wanted j want _ hg hv) h
    · exact h.elim
theorem putVC_sound {dst : Option Tmp} {v : Value} {k : Env → Prop} (ha : Agree N e a) (h : putVC N dst v e k) : ∃ e', Agree N e' (a.put dst v) ∧ k e' := by
  unfold putVC at h
  split at h
  · exact ⟨e, ha, h⟩
  · rename_i d
    cases hc : Nat.blt d N with
    | true => rw [hc] at h; exact ⟨_, ha.put (by simpa [Nat.blt_eq] using hc) v, h⟩
    | false => rw [hc] at h; exact h.elim
end
/-- From environment e and world w the code comes to an exit, and there Q holds. -/
structure V (P : Program) (N : Nat) (c : Code) (Q : Exit → Env → World → Prop) (e : Env) (w : World) : Prop where
  run : ∀ a, Agree N e a → c.wp P (fun x a' w' => ∃ e', Agree N e' a' ∧ Q x e' w') a w
def thenE (K : Env → World → Prop) (Q : Exit → Env → World → Prop) : Exit → Env → World → Prop
  | .normal, e, w => K e w
  | x, e, w => Q x e w
def blockE (id : Nat) (Q : Exit → Env → World → Prop) : Exit → Env → World → Prop
  | .exit i, e, w => cond (Nat.beq i id) (Q .normal e w) (Q (.exit i) e w)
  | x, e, w => Q x e w
section
variable {P : Program} {X : Pr} {N : Nat} {e : Env} {w : World} {Q : Exit → Env → World → Prop} {x y : Code}
theorem V.weaken {l : Env} (h : V P N x Q l w) (hl : Has l e) : V P N x Q e w := ⟨fun a ha => h.run a (ha.weaken hl)⟩
theorem V.mono {Q' : Exit → Env → World → Prop} (h : V P N x Q e w) (hq : ∀ ex e' w', Q ex e' w' → Q' ex e' w') : V P N x Q' e w :=
  ⟨fun a ha => wp_mono (h.run a ha) fun ex a' w' ⟨e', h1, h2⟩ => ⟨e', h1, hq ex e' w' h2⟩⟩
theorem V.seq (h : V P N x (thenE (fun e' w' => V P N y Q e' w') Q) e w) : V P N (.seq x y) Q e w := by
  refine ⟨fun a ha => wp_seq (wp_mono (h.run a ha) fun ex a' w' ⟨e', h1, h2⟩ => ?_)⟩
  cases ex <;> first | exact h2.run a' h1 | exact ⟨e', h1, h2⟩
theorem V.skip (h : Q .normal e w) : V P N .skip Q e w := ⟨fun a ha => wp_skip ⟨e, ha, h⟩⟩
theorem V.ret (h : Q .ret e w) : V P N .ret Q e w := ⟨fun a ha => wp_ret ⟨e, ha, h⟩⟩
theorem V.exit {id : Nat} (h : Q (.exit id) e w) : V P N (.exit id) Q e w := ⟨fun a ha => wp_exit ⟨e, ha, h⟩⟩
theorem V.cond {c : Operand} {b : Bool} (hc : ev e c = some (.bool b)) (ht : b = true → V P N x Q e w) (hf : b = false → V P N y Q e w) : V P N (.cond c x y) Q e w :=
  ⟨fun a ha => wp_cond_split (ha.ev hc) (fun h => (ht h).run a ha) (fun h => (hf h).run a ha)⟩
theorem V.block {id : Nat} (h : V P N x (blockE id Q) e w) : V P N (.block id x) Q e w := by
  refine ⟨fun a ha => wp_block (wp_mono (h.run a ha) fun ex a' w' ⟨e', h1, h2⟩ => ?_)⟩
  cases ex with
  | exit i =>
    simp only [blockE] at h2
    simp only [Exit.inBlock]
    split
    · rename_i hi
      rw [hi, Nat.beq_refl, cond_true] at h2
      exact ⟨e', h1, h2⟩
    · rename_i hi
      have : Nat.beq i id = false := by
        cases hq : Nat.beq i id with
        | false => rfl
        | true => exact absurd (Nat.eq_of_beq_eq_true hq) hi
      rw [this, cond_false] at h2
      exact ⟨e', h1, h2⟩
  | normal => exact ⟨e', h1, h2⟩
  | goto l => exact ⟨e', h1, h2⟩
  | ret => exact ⟨e', h1, h2⟩
  | panic c => exact ⟨e', h1, h2⟩
  | outgrown => exact ⟨e', h1, h2⟩
/-- A loop: at each round's head the slots E i are known and R i holds; each round lowers the measure. -/
theorem V.loop {ι : Type} (E : ι → Env) (R : ι → World → Prop) (μ : ι → Nat) (i0 : ι) (h0 : Has (E i0) e) (hR : R i0 w)
    (round : ∀ i w, R i w → V P N x (thenE (fun e' w' => ∃ i', Has (E i') e' ∧ R i' w' ∧ μ i' < μ i) Q) (E i) w) : V P N (.loop x) Q e w := by
  refine ⟨fun a ha => ?_⟩
  refine wp_loop_ghost (fun n a' w' => ∃ i, μ i = n ∧ Agree N (E i) a' ∧ R i w') (μ i0) ⟨i0, rfl, ha.weaken h0, hR⟩ ?_
  rintro n a' w' ⟨i, hi, hag, hr⟩
  refine wp_mono ((round i w' hr).run a' hag) fun ex a'' w'' ⟨e'', h1, h2⟩ => ?_
  cases ex with
  | normal =>
    obtain ⟨i', hi1, hi2, hi3⟩ := h2
    exact ⟨μ i', by omega, i', rfl, h1.weaken hi1, hi2⟩
  | exit id => exact ⟨e'', h1, h2⟩
  | goto l => exact ⟨e'', h1, h2⟩
  | ret => exact ⟨e'', h1, h2⟩
  | panic c => exact ⟨e'', h1, h2⟩
  | outgrown => exact ⟨e'', h1, h2⟩
theorem vcOps_sound {ops : List Oper} (l : List Oper) : ∀ {K : Env → World → Prop} {e : Env} {a : Act} {w : World}, Agree N e a → vcOps X N ops l K e w →
    wpList X.P ops.toArray (fun ex a' w' => ∃ e', Agree N e' a' ∧ thenE K Q ex e' w') l a w := by
  induction l with
  | nil => intro K e a w ha h; exact wpList_nil ⟨e, ha, h⟩
  | cons o r ih =>
    intro K e a w ha h
    unfold wpList
    refine vcG_sound (ops := ops) ha h fun v w' hk => ?_
    obtain ⟨e', h1, h2⟩ := putVC_sound ha hk
    exact ih h1 h2
/-- A region, and what stands behind it. -/
theorem V.reg {id : Nat} {l : List Oper} (h : vcOps X N l l (fun e' w' => V X.P N y Q e' w') e w) : V X.P N (.seq (.region id l.toArray false) y) Q e w := by
  exact V.seq ⟨fun a ha => wp_region_lit (vcOps_sound l ha h)⟩
/-- A region at the end of code. -/
theorem V.regEnd {id : Nat} {l : List Oper} (h : vcOps X N l l (fun e' w' => Q .normal e' w') e w) : V X.P N (.region id l.toArray false) Q e w := by
  refine ⟨fun a ha => ?_⟩
  refine wp_mono (wp_region_lit (vcOps_sound (Q := Q) l ha h)) fun ex a' w' ⟨e', h1, h2⟩ => ⟨e', h1, ?_⟩
  cases ex <;> exact h2
/-- Two ways meet: what is known there. -/
theorem V.cut {ι : Type} (E : ι → Env) (R : ι → World → Prop) (h1 : V P N x (thenE (fun e' w' => ∃ i, Has (E i) e' ∧ R i w') Q) e w) (h2 : ∀ i w', R i w' → V P N y Q (E i) w') : V P N (.seq x y) Q e w :=
  V.seq (h1.mono fun ex e' w' h => by
    cases ex <;> first | exact h | (obtain ⟨i, hi1, hi2⟩ := h; exact (h2 i w' hi2).weaken hi1))
/-- The same, where what follows stands in the exit's condition. -/
theorem V.cutE {ι : Type} {Q' : Exit → Env → World → Prop} (E : ι → Env) (R : ι → World → Prop) (h1 : V P N x (thenE (fun e' w' => ∃ i, Has (E i) e' ∧ R i w') Q) e w) (h2 : ∀ i w', R i w' → V P N y Q' (E i) w') : V P N x (thenE (fun e' w' => V P N y Q' e' w') Q) e w :=
  h1.mono fun ex e' w' h => by
    cases ex <;> first | exact h | (obtain ⟨i, hi1, hi2⟩ := h; exact (h2 i w' hi2).weaken hi1)
/-- The same behind a block. -/
theorem V.cutB {ι : Type} {id : Nat} {Q' : Exit → Env → World → Prop} (E : ι → Env) (R : ι → World → Prop) (h1 : V P N x (blockE id (thenE (fun e' w' => ∃ i, Has (E i) e' ∧ R i w') Q)) e w) (h2 : ∀ i w', R i w' → V P N y Q' (E i) w') :
    V P N x (blockE id (thenE (fun e' w' => V P N y Q' e' w') Q)) e w :=
  h1.mono fun ex e' w' h => by
    cases ex with
    | exit j =>
      simp only [blockE] at h ⊢
      cases hb : Nat.beq j id with
      | true =>
        rw [hb, cond_true] at h; rw [cond_true]
        obtain ⟨i, hi1, hi2⟩ := h
        exact (h2 i w' hi2).weaken hi1
      | false =>
        rw [hb, cond_false] at h; rw [cond_false]
        exact h
    | normal =>
      obtain ⟨i, hi1, hi2⟩ := h
      exact (h2 i w' hi2).weaken hi1
    | goto l => exact h
    | ret => exact h
    | panic c => exact h
    | outgrown => exact h
end
theorem V.seqS {P : Program} {N : Nat} {e : Env} {w : World} {Q : Exit → Env → World → Prop} {x y z : Code} (h : V P N (.seq x y) (thenE (fun e' w' => V P N z Q e' w') Q) e w) : V P N (.seq (.seq x y) z) Q e w := V.seq h
theorem V.seqB {P : Program} {N : Nat} {e : Env} {w : World} {Q : Exit → Env → World → Prop} {id : Nat} {x z : Code} (h : V P N (.block id x) (thenE (fun e' w' => V P N z Q e' w') Q) e w) : V P N (.seq (.block id x) z) Q e w := V.seq h
theorem V.seqC {P : Program} {N : Nat} {e : Env} {w : World} {Q : Exit → Env → World → Prop} {c : Operand} {x y z : Code} {b : Bool} (hc : ev e c = some (.bool b)) (ht : b = true → V P N x (thenE (fun e' w' => V P N z Q e' w') Q) e w)
    (hf : b = false → V P N y (thenE (fun e' w' => V P N z Q e' w') Q) e w) : V P N (.seq (.cond c x y) z) Q e w := V.seq (V.cond hc ht hf)
theorem V.condT {P : Program} {N : Nat} {e : Env} {w : World} {Q : Exit → Env → World → Prop} {c : Operand} {x y : Code} (hc : ev e c = some (.bool true)) (h : V P N x Q e w) : V P N (.cond c x y) Q e w := V.cond hc (fun _ => h) (fun h => Bool.noConfusion h)
theorem V.condF {P : Program} {N : Nat} {e : Env} {w : World} {Q : Exit → Env → World → Prop} {c : Operand} {x y : Code} (hc : ev e c = some (.bool false)) (h : V P N y Q e w) : V P N (.cond c x y) Q e w := V.cond hc (fun h => Bool.noConfusion h) (fun _ => h)
theorem V.seqCT {P : Program} {N : Nat} {e : Env} {w : World} {Q : Exit → Env → World → Prop} {c : Operand} {x y z : Code} (hc : ev e c = some (.bool true)) (h : V P N x (thenE (fun e' w' => V P N z Q e' w') Q) e w) : V P N (.seq (.cond c x y) z) Q e w := V.seq (V.condT hc h)
theorem V.seqCF {P : Program} {N : Nat} {e : Env} {w : World} {Q : Exit → Env → World → Prop} {c : Operand} {x y z : Code} (hc : ev e c = some (.bool false)) (h : V P N y (thenE (fun e' w' => V P N z Q e' w') Q) e w) : V P N (.seq (.cond c x y) z) Q e w := V.seq (V.condF hc h)
theorem mvT {K : Bool → Prop} (h : K true) : ∀ c, true = c → K c := fun _ e => e ▸ h
theorem mvF {K : Bool → Prop} (h : K false) : ∀ c, false = c → K c := fun _ e => e ▸ h
theorem mvB {K : Bool → Prop} {b : Bool} (h : K b) : ∀ c, b = c → K c := fun _ e => e ▸ h
/-! ## Whole functions -/
def resVC (X : Pr) : List ResultVar → Env → World → (List Value → Prop) → Prop
  | [], _, _, K => K []
  | .tmp t :: r, e, w, K => match look e t with
    | some v => resVC X r e w fun vs => K (v :: vs)
    | none => False
  | .cell t ty :: r, e, w, K => match look e t with
    | some (.pointer (some ⟨b, o, none⟩)) => loadVC X ty w b o fun v => resVC X r e w fun vs => K (v :: vs)
    | _ => False
def oneOr : List Value → Value
  | [v] => v
  | vs => .tuple vs.toArray
def retPost (X : Pr) (rs : List ResultVar) (R : Value → World → Prop) : Exit → Env → World → Prop
  | .normal, e, w => resVC X rs e w fun vs => R (oneOr vs) w
  | .ret, e, w => resVC X rs e w fun vs => R (oneOr vs) w
  | _, _, _ => False
def argsEnv : Nat → List Value → Env
  | _, [] => []
  | k, v :: r => (k, v) :: argsEnv (k + 1) r
section
variable {X : Pr} {N : Nat}
theorem run_resVC {e : Env} {a : Act} {w : World} (ha : Agree N e a) (g : ResultVar → Sem Value) (hg1 : ∀ t, g (.tmp t) = pure (a.tmps.getD t undef))
    (hg2 : ∀ p t, g (.cell p t) = asAddr (a.tmps.getD p undef) >>= fun q => loadVar t q) : ∀ {rs : List ResultVar} {K : List Value → Prop}, resVC X rs e w K →
    ∃ vs : List Value, (rs.mapM g).run X.P w = .ok vs w ∧ K vs
  | [], K, h => ⟨[], by simp, h⟩
  | .tmp t :: r, K, h => by
    simp only [resVC] at h
    split at h
    · rename_i v hv
      obtain ⟨vs, h1, h2⟩ := run_resVC ha g hg1 hg2 h
      exact ⟨v :: vs, by rw [List.mapM_cons, hg1]; simp only [Sem.run_bind, Sem.run_pure, Result.andThen_ok, (ha.get t v hv).2, h1], h2⟩
    · exact h.elim
  | .cell p t :: r, K, h => by
    simp only [resVC] at h
    split at h
    · rename_i b o hv
      obtain ⟨v, hr, hk⟩ := run_loadVC h
      obtain ⟨vs, h1, h2⟩ := run_resVC ha g hg1 hg2 hk
      exact ⟨v :: vs, by rw [List.mapM_cons, hg2, (ha.get p _ hv).2]; simp only [Sem.run_bind, Sem.run_pure, Result.andThen_ok, asAddr, hr, h1], h2⟩
    · exact h.elim
theorem look_argsEnv : ∀ (l : List Value) (k t : Nat) (v : Value), look (argsEnv k l) t = some v → k ≤ t ∧ l[t - k]? = some v
  | [], k, t, v, h => by simp [argsEnv, look] at h
  | u :: r, k, t, v, h => by
    simp only [argsEnv, look] at h
    cases hq : Nat.beq k t with
    | true =>
      rw [hq, cond_true] at h
      have := Nat.eq_of_beq_eq_true hq
      subst this
      simpa using h
    | false =>
      rw [hq, cond_false] at h
      obtain ⟨h1, h2⟩ := look_argsEnv r (k + 1) t v h
      refine ⟨by omega, ?_⟩
      rw [show t - k = (t - (k + 1)) + 1 by omega, List.getElem?_cons_succ]
      exact h2
/-- A function by its body. -/
theorem Does.of {f : FuncId} {fn : Func} {c : Code} {l : List Value} {w : World} {R : Value → World → Prop} (hf : X.P.funcs[f]? = some fn) (hb : fn.body = some c)
    (hn : (fn.name == "runtime.NumGoroutine") = false) (hl : Nat.ble l.length fn.ntmps = true) (rs : List ResultVar) (hrs : fn.results.toList = rs)
    (h : V X.P fn.ntmps c (retPost X rs R) (argsEnv 0 l) w) : Does X.P f l.toArray w R := by
  refine ⟨.inl ⟨callOK_of hf (by simp [hb]) hn, calls_of_wp hf hb ?_⟩⟩
  have hl := Nat.le_of_ble_eq_true hl
  have ha : Agree fn.ntmps (argsEnv 0 l) { tmps := l.toArray ++ Array.replicate (fn.ntmps - l.toArray.size) undef, defers := [] } := by
    refine ⟨by simp; omega, fun t v hv => ?_, rfl⟩
    obtain ⟨_, h2⟩ := look_argsEnv l 0 t v hv
    rw [Nat.sub_zero] at h2
    have hlt := (List.getElem?_eq_some_iff.1 h2).1
    refine ⟨by omega, ?_⟩
    have hlt' : t < (l.toArray ++ Array.replicate (fn.ntmps - l.toArray.size) undef).size := by simp; omega
    simp only [Array.getD, hlt', dite_true]
    show (l.toArray ++ Array.replicate (fn.ntmps - l.toArray.size) undef)[t] = v
    rw [Array.getElem_append_left (by simpa using hlt)]
    simpa using (List.getElem?_eq_some_iff.1 h2).2
  have hfin : ∀ (a' : Act) (e' : Env) (w' : World), Agree fn.ntmps e' a' → (resVC X rs e' w' fun vs => R (oneOr vs) w') → a'.defers = [] ∧ ∃ v, (results fn a'.tmps).run X.P w' = .ok v w' ∧ retR R (.returned v) w' := by
    intro a' e' w' h1 h2
    obtain ⟨g, hg, hg1, hg2⟩ : ∃ g : ResultVar → Sem Value, results fn a'.tmps = (do let vs ← fn.results.mapM g; pure (if h : vs.size = 1 then vs[0] else .tuple vs)) ∧ (∀ t, g (.tmp t) = pure (a'.tmps.getD t undef)) ∧
        (∀ p t, g (.cell p t) = asAddr (a'.tmps.getD p undef) >>= fun q => loadVar t q) := ⟨_, rfl, fun _ => rfl, fun _ _ => rfl⟩
    obtain ⟨vs, hr, hk⟩ := run_resVC h1 g hg1 hg2 h2
    refine ⟨h1.defers, oneOr vs, ?_, hk⟩
    rw [hg, Sem.run_bind, Array.mapM_eq_mapM_toList, hrs, Sem.run_map, hr]
    simp only [Result.andThen_ok, Sem.run_pure]
    congr 1
    cases vs with
    | nil => simp [oneOr]
    | cons v r => cases r <;> simp [oneOr]
  refine wp_mono (h.run _ ha) fun ex a' w' ⟨e', h1, h2⟩ => ?_
  cases ex with
  | normal => exact hfin a' e' w' h1 h2
  | ret => exact hfin a' e' w' h1 h2
  | exit id => exact h2.elim
  | goto l => exact h2.elim
  | panic c => exact h2.elim
  | outgrown => exact h2.elim
end
end Go.Proofs.YtbcjhghfmhdafaaGreat.K
