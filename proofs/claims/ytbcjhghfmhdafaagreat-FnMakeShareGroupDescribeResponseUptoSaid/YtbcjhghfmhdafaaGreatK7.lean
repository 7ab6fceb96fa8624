/- Regions that draw their order: the simulation. -/
import Derived.Test.YtbcjhghfmhdafaaGreatK6
set_option linter.unusedVariables false
set_option linter.unusedSimpArgs false
namespace Go.Proofs.YtbcjhghfmhdafaaGreat.K
open Go

def isIn (l : List Nat) (i : Nat) : Bool := l.any (Nat.beq i)
theorem isIn_iff {l : List Nat} {i : Nat} : isIn l i = true ↔ i ∈ l := by
  simp only [isIn, List.any_eq_true]
  constructor
  · rintro ⟨x, hx, h⟩
    rw [Nat.eq_of_beq_eq_true h]
    exact hx
  · intro h
    exact ⟨i, h, Nat.beq_refl i⟩
/-- The slots that an operation looks at. -/
def slotsOf (ops : List Oper) (o : Oper) : List Nat :=
  (o.op.operands.toList.filterMap fun | .tmp t => some t | _ => none) ++
  (match o.guard with
    | none => []
    | some (j, _) => match ops[j]? with
      | some oj => oj.dst.toList
      | none => [])
def resE (e : Env) : List Nat → Env
  | [] => []
  | t :: r => match look e t with
    | some v => (t, v) :: resE e r
    | none => resE e r
theorem look_resE {e : Env} : ∀ (S : List Nat) {t : Nat} {v : Value}, look (resE e S) t = some v → t ∈ S ∧ look e t = some v
  | [], t, v, h => by simp [resE, look] at h
  | s :: r, t, v, h => by
    simp only [resE] at h
    split at h
    · rename_i u hu
      simp only [look] at h
      cases hq : Nat.beq s t with
      | true =>
        rw [hq, cond_true] at h
        have := Nat.eq_of_beq_eq_true hq
        subst this
        exact ⟨by simp, by rw [hu, h]⟩
      | false =>
        rw [hq, cond_false] at h
        obtain ⟨h1, h2⟩ := look_resE r h
        exact ⟨by simp [h1], h2⟩
    · obtain ⟨h1, h2⟩ := look_resE r h
      exact ⟨by simp [h1], h2⟩
theorem resE_congr {e e' : Env} : ∀ (S : List Nat), (∀ t, t ∈ S → look e' t = look e t) → resE e' S = resE e S
  | [], _ => rfl
  | t :: r, h => by
    simp only [resE]
    rw [h t (by simp), resE_congr r fun u hu => h u (by simp [hu])]
def quietOp (tab : Tab) (o : Oper) : Bool :=
  match o.op with
  | .move _ | .nilCheck _ | .fieldAddr .. | .field .. | .binOp .. | .unOp .. | .build .. | .pick .. | .extract .. | .makeFunc .. | .makeInterface .. | .load .. | .indexAddr .. | .slice .. => true
  | .convert _ d _ => match tlook tab d with
    | some ⟨.slice _, _, _, _⟩ => false
    | some _ => true
    | none => false
  | .call ⟨.builtin .len, _, _⟩ => true
  | .call ⟨.builtin .min, _, _⟩ => true
  | _ => false
def memOp (tab : Tab) (o : Oper) : Bool :=
  match o.op with
  | .load .. => true
  | .convert _ d _ => match tlook tab d with
    | some ⟨.int _, _, _, _⟩ => false
    | _ => true
  | .call ⟨.builtin .len, _, tys⟩ => match tys.toList with
    | [t] => match tlook tab t with
      | some ⟨.map _ _, _, _, _⟩ => true
      | _ => false
    | _ => false
  | _ => false
abbrev QE (X : Pr) (ops : List Oper) (o : Oper) (e : Env) (w : World) (v : Value) : Prop := vcG X ops o e w fun v' w' => v' = v ∧ w' = w
section
variable {X : Pr} {N : Nat} {e : Env} {w : World} {o : Oper} {ops : List Oper} {K : Value → World → Prop}
theorem loadVC_quiet {t : TypeId} {b p : Nat} {K : Value → Prop} (h : loadVC X t w b p K) : ∃ v, loadVC X t w b p (fun v' => v' = v) ∧ K v := by
  unfold loadVC at h ⊢
  split at h
  · rename_i i hi
    cases hq : i.d.agg with
    | true =>
      rw [hq, cond_true] at h
      obtain ⟨l, h1, h2, h3⟩ := h
      exact ⟨_, by rw [cond_true]; exact ⟨l, h1, h2, rfl⟩, h3⟩
    | false =>
      rw [hq, cond_false] at h
      obtain ⟨v, h1, h2⟩ := h
      exact ⟨v, by rw [cond_false]; exact ⟨v, h1, rfl⟩, h2⟩
  · exact h.elim
theorem eff_quiet (hq : quietOp X.tab o = true) (h : effVC X o e w K) : ∃ v, effVC X o e w (fun v' w' => v' = v ∧ w' = w) ∧ K v w := by
  unfold effVC at h ⊢
  unfold quietOp at hq
  cases ho : o.op <;> rw [ho] at h hq <;> (try (simp only at h; done)) <;> (try (simp at hq; done)) <;> (try dsimp only at h hq ⊢)
  case load t x =>
    split at h
    · obtain ⟨v, h1, h2⟩ := loadVC_quiet h
      refine ⟨v, ?_, h2⟩
      simpa using h1
    · exact h.elim
  case indexAddr t x y =>
    split at h
    · split at h
      · obtain ⟨b, p, h1, h2, h3⟩ := h
        exact ⟨_, ⟨b, p, h1, h2, rfl, rfl⟩, h3⟩
      · exact h.elim
    · exact h.elim
  case slice t x lo hi mx =>
    split at h
    · split at h
      · obtain ⟨h1, h2, h3, h4⟩ := h
        exact ⟨_, ⟨h1, h2, h3, fun v' hv => ⟨hv.symm, rfl⟩⟩, h4 _ rfl⟩
      · exact h.elim
    · split at h
      · exact ⟨_, ⟨rfl, rfl⟩, h⟩
      · exact h.elim
    · exact h.elim
  case convert s d x =>
    split at h
    · split at h
      · rename_i j hj
        cases hc : isU8 j.d with
        | false => rw [hc] at h; exact h.elim
        | true =>
          rw [hc, cond_true] at h
          obtain ⟨F, l, h1, h2⟩ := h
          exact ⟨_, by rw [cond_true]; exact ⟨F, l, h1, rfl, rfl⟩, h2⟩
      · exact h.elim
    · rename_i hs hd hx
      rw [hd] at hq
      simp at hq
    · exact ⟨_, ⟨rfl, rfl⟩, h⟩
    · exact h.elim
  case binOp op t x y yt =>
    cases op <;> (try (simp only at h; done)) <;> (try dsimp only at h ⊢)
    · split at h
      · obtain ⟨h1, h2, h3⟩ := h
        exact ⟨_, ⟨h1, h2, rfl, rfl⟩, h3⟩
      · exact h.elim
    · split at h
      · exact ⟨_, ⟨h.1, rfl, rfl⟩, h.2⟩
      · exact h.elim
    · split at h
      · exact ⟨_, ⟨h.1, rfl, rfl⟩, h.2⟩
      · exact h.elim
  case call c =>
    obtain ⟨callee, args, tys⟩ := c
    cases callee <;> (try (simp only at h; done)) <;> (try (simp at hq; done))
    rename_i b
    cases b <;> (try (simp only at h; done)) <;> (try (simp at hq; done))
    dsimp only at h ⊢
    split at h
    · split at h
      · obtain ⟨n, hn, hk⟩ := h
        exact ⟨_, ⟨n, hn, rfl, rfl⟩, hk⟩
      · exact h.elim
    · exact h.elim
theorem quiet_sem {tab : Tab} (hq : quietOp tab o = true) : semOp o.op = false := by
  unfold quietOp at hq
  cases ho : o.op <;> rw [ho] at hq <;> (try (simp at hq; done)) <;> (try rfl)
  rename_i c
  obtain ⟨callee, args, tys⟩ := c
  cases callee <;> first | rfl | (simp at hq; done)
theorem vcOp_quiet (hq : quietOp X.tab o = true) (h : vcOp X o e w K) : ∃ v, vcOp X o e w (fun v' w' => v' = v ∧ w' = w) ∧ K v w := by
  unfold vcOp at h ⊢
  split at h
  · split at h
    · rename_i b _
      exact ⟨.bool b, fun c hc => ⟨by rw [hc], rfl⟩, h b rfl⟩
    · exact h.elim
  · split at h
    · exact ⟨_, ⟨rfl, rfl⟩, h⟩
    · rw [quiet_sem hq, cond_false] at h
      simp only [quiet_sem hq, cond_false]
      exact eff_quiet hq h
theorem vcG_quiet (hq : quietOp X.tab o = true) (h : vcG X ops o e w K) : ∃ v, QE X ops o e w v ∧ K v w := by
  unfold QE vcG at *
  split at h
  · exact vcOp_quiet hq h
  · rename_i j want _
    split at h
    · cases want with
      | true => exact vcOp_quiet hq h
      | false => exact ⟨undef, ⟨rfl, rfl⟩, h⟩
    · cases want with
      | true => exact ⟨undef, ⟨rfl, rfl⟩, h⟩
      | false => exact vcOp_quiet hq h
    · exact ⟨undef, ⟨rfl, rfl⟩, h⟩
    · exact h.elim
theorem eff_pure {v : Value} {w2 : World} (hq : quietOp X.tab o = true) (hm : memOp X.tab o = false) (h : effVC X o e w (fun v' w' => v' = v ∧ w' = w)) : effVC X o e w2 (fun v' w' => v' = v ∧ w' = w2) := by
  unfold effVC at h ⊢
  unfold quietOp at hq
  unfold memOp at hm
  cases ho : o.op <;> rw [ho] at h hq hm <;> (try (simp only at h; done)) <;> (try (simp at hq; done)) <;> (try (simp at hm; done)) <;> (try dsimp only at h hq hm ⊢)
  case indexAddr t x y =>
    split at h
    · split at h
      · obtain ⟨b, p, h1, h2, h3, _⟩ := h
        exact ⟨b, p, h1, h2, h3, rfl⟩
      · exact h.elim
    · exact h.elim
  case slice t x lo hi mx =>
    split at h
    · split at h
      · obtain ⟨h1, h2, h3, h4⟩ := h
        exact ⟨h1, h2, h3, fun v' hv => ⟨(h4 v' hv).1, rfl⟩⟩
      · exact h.elim
    · split at h
      · exact ⟨h.1, rfl⟩
      · exact h.elim
    · exact h.elim
  case convert s d x =>
    split at h
    · rename_i hs hd hx
      rw [hd] at hm
      simp at hm
    · rename_i hs hd hx
      rw [hd] at hm
      simp at hm
    · exact ⟨h.1, rfl⟩
    · exact h.elim
  case binOp op t x y yt =>
    cases op <;> (try (simp only at h; done)) <;> (try dsimp only at h ⊢)
    · split at h
      · obtain ⟨h1, h2, h3, _⟩ := h
        exact ⟨h1, h2, h3, rfl⟩
      · exact h.elim
    · split at h
      · exact ⟨h.1, h.2.1, rfl⟩
      · exact h.elim
    · split at h
      · exact ⟨h.1, h.2.1, rfl⟩
      · exact h.elim
  case call c =>
    obtain ⟨callee, args, tys⟩ := c
    cases callee <;> (try (simp only at h; done)) <;> (try (simp at hq; done))
    rename_i b
    cases b <;> (try (simp only at h; done)) <;> (try (simp at hq; done))
    dsimp only at h ⊢
    split at h
    · rename_i m t hl htys
      split at h
      · rename_i k el sz by0 z0 ht
        dsimp only at hm
        rw [htys] at hm
        simp only [ht] at hm
        exact Bool.noConfusion hm
      · exact h.elim
    · exact h.elim
theorem vcOp_pure {v : Value} {w2 : World} (hq : quietOp X.tab o = true) (hm : memOp X.tab o = false) (h : vcOp X o e w (fun v' w' => v' = v ∧ w' = w)) : vcOp X o e w2 (fun v' w' => v' = v ∧ w' = w2) := by
  unfold vcOp at h ⊢
  split at h
  · split at h
    · exact fun c hc => ⟨(h c hc).1, rfl⟩
    · exact h.elim
  · split at h
    · exact ⟨h.1, rfl⟩
    · rw [quiet_sem hq, cond_false] at h ⊢
      exact eff_pure hq hm h
theorem vcG_pure {v : Value} {w2 : World} (hq : quietOp X.tab o = true) (hm : memOp X.tab o = false) (h : QE X ops o e w v) : QE X ops o e w2 v := by
  unfold QE vcG at *
  split at h
  · exact vcOp_pure hq hm h
  · rename_i j want _
    split at h
    · cases want with
      | true => exact vcOp_pure hq hm h
      | false => exact ⟨h.1, rfl⟩
    · cases want with
      | true => exact ⟨h.1, rfl⟩
      | false => exact vcOp_pure hq hm h
    · exact ⟨h.1, rfl⟩
    · exact h.elim
end
/-- In which order the conditions are stated: quiet operations as early as they can be; at 'eff' an operation that acts, and the reads that are to be looked at again behind it; at 'alt' either may come first. -/
inductive Plan where
  | done
  | q (i : Nat) (k : Plan)
  | eff (i : Nat) (risk : List Nat) (k : Plan)
  | alt (a b : Plan)
def Plan.heads : Plan → List Nat
  | .eff i _ _ => [i]
  | .alt a b => a.heads ++ b.heads
  | _ => []
def stepP (X : Pr) (N : Nat) (ops : List Oper) (i : Nat) (e : Env) (w : World) (k : Env → World → Prop) : Prop :=
  match ops[i]? with
  | some o => vcG X ops o (resE e (slotsOf ops o)) w fun v w' => putVC N o.dst v e fun e' => k e' w'
  | none => False
/-- What was read is read again, and is the same. -/
def again (X : Pr) (ops : List Oper) (e : Env) (w : World) : List Nat → Prop
  | [] => True
  | q :: r => (match ops[q]? with
    | some o => vcG X ops o (resE e (slotsOf ops o)) w fun v w' => w' = w ∧ (match o.dst with | some d => look e d = some v | none => True)
    | none => True) ∧ again X ops e w r
def vcP (X : Pr) (N : Nat) (ops : List Oper) (K : Env → World → Prop) : Plan → Env → World → Prop
  | .done, e, w => K e w
  | .q i k, e, w => stepP X N ops i e w fun e' w' => vcP X N ops K k e' w'
  | .eff i [] k, e, w => stepP X N ops i e w fun e' w' => vcP X N ops K k e' w'
  | .eff i risk k, e, w => stepP X N ops i e w fun e' w' => again X ops e' w' risk ∧ vcP X N ops K k e' w'
  | .alt a b, e, w => vcP X N ops K a e w ∧ vcP X N ops K b e w
def readyB (dn : List Nat) (o : Oper) : Bool := (predsOf o).all (isIn dn)
def stuckB (tab : Tab) (ops : List Oper) (dn hs : List Nat) : Bool :=
  (List.range ops.length).all fun i => isIn dn i || (match ops[i]? with
    | some o => !readyB dn o || (!quietOp tab o && isIn hs i)
    | none => true)
def ancB (ops : List Oper) : Nat → List Nat → Nat → Bool
  | 0, ps, q => isIn ps q
  | n + 1, ps, q => isIn ps q || ps.any fun p => match ops[p]? with
    | some o => ancB ops n (predsOf o) q
    | none => false
def riskB (tab : Tab) (ops : List Oper) (dn : List Nat) (o : Oper) (risk : List Nat) : Bool :=
  dn.all fun q => isIn risk q || (match ops[q]? with
    | some oq => !(quietOp tab oq && memOp tab oq)
    | none => true) || ancB ops 8 (predsOf o) q
def okP (tab : Tab) (ops : List Oper) : Plan → Bool → List Nat → Bool
  | .done, inAlt, dn => !inAlt && (List.range ops.length).all (isIn dn)
  | .q i k, inAlt, dn => !inAlt && (match ops[i]? with
    | some o => quietOp tab o && !isIn dn i && readyB dn o
    | none => false) && okP tab ops k false (i :: dn)
  | .eff i risk k, inAlt, dn => (inAlt || stuckB tab ops dn [i]) && (match ops[i]? with
    | some o => !quietOp tab o && !isIn dn i && readyB dn o && riskB tab ops dn o risk
    | none => false) && okP tab ops k false (i :: dn)
  | .alt a b, inAlt, dn => (inAlt || stuckB tab ops dn (Plan.alt a b).heads) && okP tab ops a true dn && okP tab ops b true dn
def pairB (tab : Tab) (ops : List Oper) (i j : Nat) (oi oj : Oper) : Bool :=
  !quietOp tab oi || (
    -- who looks at what i yields waits for i
    (match oi.dst with
      | some d => !isIn (slotsOf ops oj) d || isIn (predsOf oj) i
      | none => true) &&
    -- who turns what i looks at comes ahead of i, or waits for it
    (match oj.dst with
      | some s => !isIn (slotsOf ops oi) s || isIn (predsOf oi) j || (isIn (predsOf oj) i && !quietOp tab oj)
      | none => true) &&
    (Nat.beq i j || (match oi.dst, oj.dst with
      | some d, some d' => !Nat.beq d d'
      | _, _ => true)))
def okD (tab : Tab) (ops : List Oper) : Bool :=
  (List.range ops.length).all fun i => (List.range ops.length).all fun j => match ops[i]?, ops[j]? with
    | some oi, some oj => pairB tab ops i j oi oj
    | _, _ => true
def okAll (tab : Tab) (ops : List Oper) (p : Plan) : Bool := backB 0 ops && okD tab ops && okP tab ops p false []
end Go.Proofs.YtbcjhghfmhdafaaGreat.K
