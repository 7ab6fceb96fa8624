/- Regions that draw their order: the plan's condition suffices. -/
import Derived.Test.YtbcjhghfmhdafaaGreatK7
set_option linter.unusedVariables false
set_option linter.unusedSimpArgs false
namespace Go.Proofs.YtbcjhghfmhdafaaGreat.K
open Go

section
variable {X : Pr} {N : Nat} {ops : List Oper} {K : Env → World → Prop}
structure Fits (X : Pr) (ops : List Oper) : Prop where
  d1 : ∀ (i j : Nat) (oi oj : Oper) (d : Nat), ops[i]? = some oi → ops[j]? = some oj → quietOp X.tab oi = true → oi.dst = some d → d ∈ slotsOf ops oj → i ∈ predsOf oj
  d2 : ∀ (i j : Nat) (oi oj : Oper) (s : Nat), ops[i]? = some oi → ops[j]? = some oj → quietOp X.tab oi = true → oj.dst = some s → s ∈ slotsOf ops oi → j ∈ predsOf oi ∨ (i ∈ predsOf oj ∧ quietOp X.tab oj = false)
  d3 : ∀ (i j : Nat) (oi oj : Oper) (d : Nat), ops[i]? = some oi → ops[j]? = some oj → quietOp X.tab oi = true → i ≠ j → oi.dst = some d → oj.dst ≠ some d
theorem fits_of (h : okD X.tab ops = true) : Fits X ops := by
  have key : ∀ (i j : Nat) (oi oj : Oper), ops[i]? = some oi → ops[j]? = some oj → pairB X.tab ops i j oi oj = true := by
    intro i j oi oj hi hj
    have hil := (List.getElem?_eq_some_iff.1 hi).1
    have hjl := (List.getElem?_eq_some_iff.1 hj).1
    have := List.all_eq_true.1 (List.all_eq_true.1 h i (by simpa using hil)) j (by simpa using hjl)
    rw [hi, hj] at this
    exact this
  refine ⟨fun i j oi oj d hi hj hq hd hs => ?_, fun i j oi oj s hi hj hq hd hs => ?_, fun i j oi oj d hi hj hq hne hd hd' => ?_⟩
  · have := key i j oi oj hi hj
    simp only [pairB, hq, hd, Bool.not_true, Bool.false_or, Bool.and_eq_true, isIn_iff.2 hs] at this
    exact isIn_iff.1 this.1.1
  · have := key i j oi oj hi hj
    simp only [pairB, hq, hd, Bool.not_true, Bool.false_or, Bool.and_eq_true, isIn_iff.2 hs, Bool.or_eq_true, isIn_iff, Bool.not_eq_true'] at this
    exact this.1.2
  · have := key i j oi oj hi hj
    have hb : Nat.beq i j = false := by
      cases hq : Nat.beq i j with
      | false => rfl
      | true => exact absurd (Nat.eq_of_beq_eq_true hq) hne
    simp only [pairB, hq, hd, hd', hb, Bool.not_true, Bool.false_or, Bool.and_eq_true, Nat.beq_refl] at this
    exact absurd this.2 (by simp)
/-- How the run stands to the plan: D has been run, dn is behind us in the plan; between them quiet operations alone. -/
structure Sim (X : Pr) (N : Nat) (ops : List Oper) (K : Env → World → Prop) (p : Plan) (dn D : List Nat) (e : Env) (a : Act) (w : World) : Prop where
  sub : ∀ i, i ∈ D → i ∈ dn
  quiet : ∀ (i : Nat) (o : Oper), i ∈ dn → i ∉ D → ops[i]? = some o → quietOp X.tab o = true
  lt : ∀ i, i ∈ dn → i < ops.length
  closed : ∀ (i : Nat) (o : Oper), i ∈ D → ops[i]? = some o → ∀ q, q ∈ predsOf o → q ∈ D
  closedC : ∀ (i : Nat) (o : Oper), i ∈ dn → ops[i]? = some o → ∀ q, q ∈ predsOf o → q ∈ dn
  size : a.tmps.size = N
  defers : a.defers = []
  agree : ∀ t v, look e t = some v → (∀ (i : Nat) (o : Oper), i ∈ dn → i ∉ D → ops[i]? = some o → o.dst ≠ some t) → t < N ∧ a.tmps.getD t undef = v
  pend : ∀ (i : Nat) (o : Oper), i ∈ dn → i ∉ D → ops[i]? = some o → ∃ v, QE X ops o (resE e (slotsOf ops o)) w v ∧ ∀ d, o.dst = some d → look e d = some v ∧ d < N
  ok : okP X.tab ops p false dn = true
  vc : vcP X N ops K p e w
theorem look_cons_ne {e : Env} {d t : Nat} {v : Value} (h : d ≠ t) : look ((d, v) :: e) t = look e t := by
  simp only [look]
  have : Nat.beq d t = false := by
    cases hq : Nat.beq d t with
    | false => rfl
    | true => exact absurd (Nat.eq_of_beq_eq_true hq) h
  rw [this, cond_false]
theorem look_cons_eq {e : Env} {d : Nat} {v : Value} : look ((d, v) :: e) d = some v := by simp [look, Nat.beq_refl]
theorem putVC_cases {dst : Option Tmp} {v : Value} {e : Env} {k : Env → Prop} (h : putVC N dst v e k) : (dst = none ∧ k e) ∨ ∃ d, dst = some d ∧ d < N ∧ k ((d, v) :: e) := by
  unfold putVC at h
  split at h
  · exact .inl ⟨rfl, h⟩
  · rename_i d
    cases hc : Nat.blt d N with
    | true => rw [hc] at h; exact .inr ⟨d, rfl, by simpa [Nat.blt_eq] using hc, h⟩
    | false => rw [hc] at h; exact h.elim
/-- The plan goes on by one quiet operation; the run stands. -/
theorem Sim.quietStep (F : Fits X ops) {i : Nat} {k : Plan} {dn D : List Nat} {e : Env} {a : Act} {w : World} (s : Sim X N ops K (.q i k) dn D e a w) : ∃ e', Sim X N ops K k (i :: dn) D e' a w := by
  have hok := s.ok
  simp only [okP, Bool.and_eq_true, Bool.not_false, true_and] at hok
  obtain ⟨hok1, hok2⟩ := hok
  have hvc := s.vc
  simp only [vcP, stepP] at hvc
  split at hvc
  · rename_i o ho
    rw [ho] at hok1
    simp only [Bool.and_eq_true, Bool.not_eq_true'] at hok1
    obtain ⟨⟨hq, hni⟩, hr⟩ := hok1
    have hni' : i ∉ dn := fun h => by rw [isIn_iff.2 h] at hni; cases hni
    have hpr : ∀ q, q ∈ predsOf o → q ∈ dn := fun q hq => isIn_iff.1 (List.all_eq_true.1 hr q hq)
    obtain ⟨v, hqe, hput⟩ := vcG_quiet hq hvc
    have hil := (List.getElem?_eq_some_iff.1 ho).1
    have hnD : i ∉ D := fun h => hni' (s.sub i h)
    rcases putVC_cases hput with ⟨hd, hk⟩ | ⟨d, hd, hlt, hk⟩
    · refine ⟨e, ⟨fun j hj => List.mem_cons_of_mem _ (s.sub j hj), fun j oj hj hjD hoj => ?_, fun j hj => ?_, s.closed, fun j oj hj hoj q hq' => ?_, s.size, s.defers, fun t u hu hx => ?_, fun j oj hj hjD hoj => ?_, hok2, hk⟩⟩
      · rcases List.mem_cons.1 hj with rfl | hj
        · rw [ho, Option.some.injEq] at hoj; rw [← hoj]; exact hq
        · exact s.quiet j oj hj hjD hoj
      · rcases List.mem_cons.1 hj with rfl | hj
        · exact hil
        · exact s.lt j hj
      · rcases List.mem_cons.1 hj with rfl | hj
        · rw [ho, Option.some.injEq] at hoj; rw [← hoj] at hq'; exact List.mem_cons_of_mem _ (hpr q hq')
        · exact List.mem_cons_of_mem _ (s.closedC j oj hj hoj q hq')
      · exact s.agree t u hu fun j oj hj hjD hoj => hx j oj (List.mem_cons_of_mem _ hj) hjD hoj
      · rcases List.mem_cons.1 hj with rfl | hj
        · rw [ho, Option.some.injEq] at hoj
          subst hoj
          exact ⟨v, hqe, fun d hd' => by rw [hd] at hd'; cases hd'⟩
        · exact s.pend j oj hj hjD hoj
    · have hres : ∀ (j : Nat) (oj : Oper), (j ∈ dn ∨ j = i) → ops[j]? = some oj → quietOp X.tab oj = true → resE ((d, v) :: e) (slotsOf ops oj) = resE e (slotsOf ops oj) := by
        intro j oj hj hoj hqj
        refine resE_congr _ fun t ht => look_cons_ne fun hdt => ?_
        subst hdt
        rcases F.d2 j i oj o d hoj ho hqj hd ht with h | ⟨_, h⟩
        · rcases hj with hj | rfl
          · exact hni' (s.closedC j oj hj hoj i h)
          · rw [ho, Option.some.injEq] at hoj
            subst hoj
            exact hni' (hpr _ h)
        · rw [hq] at h; cases h
      refine ⟨(d, v) :: e, ⟨fun j hj => List.mem_cons_of_mem _ (s.sub j hj), fun j oj hj hjD hoj => ?_, fun j hj => ?_, s.closed, fun j oj hj hoj q hq' => ?_, s.size, s.defers, fun t u hu hx => ?_, fun j oj hj hjD hoj => ?_, hok2, hk⟩⟩
      · rcases List.mem_cons.1 hj with rfl | hj
        · rw [ho, Option.some.injEq] at hoj; rw [← hoj]; exact hq
        · exact s.quiet j oj hj hjD hoj
      · rcases List.mem_cons.1 hj with rfl | hj
        · exact hil
        · exact s.lt j hj
      · rcases List.mem_cons.1 hj with rfl | hj
        · rw [ho, Option.some.injEq] at hoj; rw [← hoj] at hq'; exact List.mem_cons_of_mem _ (hpr q hq')
        · exact List.mem_cons_of_mem _ (s.closedC j oj hj hoj q hq')
      · have hne : d ≠ t := fun h => hx i o (by simp) hnD ho (by rw [hd, h])
        rw [look_cons_ne hne] at hu
        exact s.agree t u hu fun j oj hj hjD hoj => hx j oj (List.mem_cons_of_mem _ hj) hjD hoj
      · rcases List.mem_cons.1 hj with rfl | hj
        · rw [ho, Option.some.injEq] at hoj
          subst hoj
          refine ⟨v, ?_, fun d' hd' => ?_⟩
          · rw [hres j o (.inr rfl) ho hq]; exact hqe
          · rw [hd, Option.some.injEq] at hd'
            subst hd'
            exact ⟨look_cons_eq, hlt⟩
        · have hqj := s.quiet j oj hj hjD hoj
          obtain ⟨v', h1, h2⟩ := s.pend j oj hj hjD hoj
          refine ⟨v', ?_, fun d' hd' => ?_⟩
          · rw [hres j oj (.inl hj) hoj hqj]; exact h1
          · have hne : d ≠ d' := fun h => by
              subst h
              exact F.d3 j i oj o d hoj ho hqj (fun h => hni' (h ▸ hj)) hd' hd
            rw [look_cons_ne hne]
            exact h2 d' hd'
  · exact hvc.elim
theorem stuck_of {dn hs : List Nat} (h : stuckB X.tab ops dn hs = true) {i : Nat} {o : Oper} (ho : ops[i]? = some o) (hi : i ∉ dn) (hp : ∀ q, q ∈ predsOf o → q ∈ dn) : quietOp X.tab o = false ∧ i ∈ hs := by
  have hil := (List.getElem?_eq_some_iff.1 ho).1
  have := List.all_eq_true.1 h i (by simpa using hil)
  rw [ho] at this
  have hb : isIn dn i = false := by
    cases hq : isIn dn i with
    | false => rfl
    | true => exact absurd (isIn_iff.1 hq) hi
  have hr : readyB dn o = true := List.all_eq_true.2 fun q hq => isIn_iff.2 (hp q hq)
  simp only [hb, hr, Bool.not_true, Bool.false_or, Bool.and_eq_true, Bool.not_eq_true'] at this
  exact ⟨this.1, isIn_iff.1 this.2⟩
theorem done_of {dn : List Nat} (h : okP X.tab ops .done false dn = true) {i : Nat} (hi : i < ops.length) : i ∈ dn := by
  simp only [okP, Bool.not_false, Bool.true_and] at h
  exact isIn_iff.1 (List.all_eq_true.1 h i (by simpa using hi))
/-- The plan goes on until it has passed the quiet operation i. -/
theorem Sim.toQuiet (F : Fits X ops) : ∀ (p : Plan) {dn D : List Nat} {e : Env} {a : Act} {w : World} {i : Nat} {o : Oper}, Sim X N ops K p dn D e a w → ops[i]? = some o → quietOp X.tab o = true → (∀ q, q ∈ predsOf o → q ∈ D) →
    ∃ p' dn' e', Sim X N ops K p' dn' D e' a w ∧ i ∈ dn'
  | p, dn, D, e, a, w, i, o, s, ho, hq, hp => by
    by_cases hi : i ∈ dn
    · exact ⟨p, dn, e, s, hi⟩
    · cases p with
      | done => exact absurd (done_of s.ok (List.getElem?_eq_some_iff.1 ho).1) hi
      | q j k =>
        obtain ⟨e', s'⟩ := s.quietStep F
        exact Sim.toQuiet F k s' ho hq hp
      | eff j risk k =>
        have hok := s.ok
        simp only [okP, Bool.and_eq_true, Bool.false_or] at hok
        have := stuck_of hok.1.1 ho hi fun q hq => s.sub q (hp q hq)
        rw [hq] at this
        cases this.1
      | alt b c =>
        have hok := s.ok
        simp only [okP, Bool.and_eq_true, Bool.false_or] at hok
        have := stuck_of hok.1.1 ho hi fun q hq => s.sub q (hp q hq)
        rw [hq] at this
        cases this.1
theorem pick_of : ∀ (p : Plan) {dn : List Nat} {e : Env} {w : World} {i : Nat}, okP X.tab ops p true dn = true → vcP X N ops K p e w → i ∈ p.heads →
    ∃ risk k, okP X.tab ops (.eff i risk k) true dn = true ∧ vcP X N ops K (.eff i risk k) e w
  | .done, dn, e, w, i, h, _, hi => by simp [Plan.heads] at hi
  | .q j k, dn, e, w, i, h, _, hi => by simp [Plan.heads] at hi
  | .eff j risk k, dn, e, w, i, h, hv, hi => by
    simp only [Plan.heads, List.mem_singleton] at hi
    subst hi
    exact ⟨risk, k, h, hv⟩
  | .alt b c, dn, e, w, i, h, hv, hi => by
    simp only [okP, Bool.and_eq_true] at h
    simp only [Plan.heads, List.mem_append] at hi
    rcases hi with hi | hi
    · exact pick_of b h.1.2 hv.1 hi
    · exact pick_of c h.2 hv.2 hi
/-- The plan goes on to the operation i, which acts. -/
theorem Sim.toEff (F : Fits X ops) : ∀ (p : Plan) {dn D : List Nat} {e : Env} {a : Act} {w : World} {i : Nat} {o : Oper}, Sim X N ops K p dn D e a w → ops[i]? = some o → quietOp X.tab o = false → i ∉ D → (∀ q, q ∈ predsOf o → q ∈ D) →
    ∃ p' dn' e' risk k, Sim X N ops K p' dn' D e' a w ∧ i ∉ dn' ∧ okP X.tab ops (.eff i risk k) true dn' = true ∧ vcP X N ops K (.eff i risk k) e' w
  | p, dn, D, e, a, w, i, o, s, ho, hq, hiD, hp => by
    have hi : i ∉ dn := fun h => by
      have := s.quiet i o h hiD ho
      rw [hq] at this
      cases this
    cases p with
    | done => exact absurd (done_of s.ok (List.getElem?_eq_some_iff.1 ho).1) hi
    | q j k =>
      obtain ⟨e', s'⟩ := s.quietStep F
      exact Sim.toEff F k s' ho hq hiD hp
    | eff j risk k =>
      have hok := s.ok
      have hst := hok
      simp only [okP, Bool.and_eq_true, Bool.false_or] at hst
      have := stuck_of hst.1.1 ho hi fun q hq => s.sub q (hp q hq)
      simp only [List.mem_singleton] at this
      obtain ⟨_, rfl⟩ := this
      refine ⟨_, dn, e, risk, k, s, hi, ?_, s.vc⟩
      simp only [okP, Bool.true_or, Bool.true_and, Bool.and_eq_true]
      exact ⟨hst.1.2, hst.2⟩
    | alt b c =>
      have hok := s.ok
      have hst := hok
      simp only [okP, Bool.and_eq_true, Bool.false_or] at hst
      have := stuck_of hst.1.1 ho hi fun q hq => s.sub q (hp q hq)
      obtain ⟨risk, k, h1, h2⟩ := pick_of (.alt b c) (dn := dn) (by simp only [okP, Bool.true_or, Bool.true_and, Bool.and_eq_true]; exact ⟨hst.1.2, hst.2⟩) s.vc this.2
      exact ⟨_, dn, e, risk, k, s, hi, h1, h2⟩
theorem anc_of {D : List Nat} (hD : ∀ (i : Nat) (o : Oper), i ∈ D → ops[i]? = some o → ∀ q, q ∈ predsOf o → q ∈ D) : ∀ (n : Nat) (ps : List Nat) (q : Nat), (∀ p, p ∈ ps → p ∈ D) → ancB ops n ps q = true → q ∈ D
  | 0, ps, q, hps, h => hps q (isIn_iff.1 h)
  | n + 1, ps, q, hps, h => by
    simp only [ancB, Bool.or_eq_true, List.any_eq_true] at h
    rcases h with h | ⟨p, hp, h⟩
    · exact hps q (isIn_iff.1 h)
    · split at h
      · rename_i o ho
        exact anc_of hD n _ q (hD p o (hps p hp) ho) h
      · cases h
theorem again_of {e : Env} {w : World} : ∀ {risk : List Nat} {q : Nat} {o : Oper}, again X ops e w risk → q ∈ risk → ops[q]? = some o →
    vcG X ops o (resE e (slotsOf ops o)) w fun v w' => w' = w ∧ (match o.dst with | some d => look e d = some v | none => True)
  | [], q, o, h, hq, ho => by simp at hq
  | r :: rs, q, o, h, hq, ho => by
    rcases List.mem_cons.1 hq with rfl | hq
    · have := h.1
      rw [ho] at this
      exact this
    · exact again_of h.2 hq ho
theorem eff_parts {i : Nat} {risk : List Nat} {k : Plan} {e : Env} {w : World} (h : vcP X N ops K (.eff i risk k) e w) : stepP X N ops i e w fun e' w' => again X ops e' w' risk ∧ vcP X N ops K k e' w' := by
  cases risk with
  | nil =>
    simp only [vcP] at h
    have : (fun e' w' => again X ops e' w' [] ∧ vcP X N ops K k e' w') = fun e' w' => vcP X N ops K k e' w' := by
      funext e' w'
      simp [again]
    rw [this]
    exact h
  | cons r rs => exact h
theorem agree_res (F : Fits X ops) {p : Plan} {dn D : List Nat} {e : Env} {a : Act} {w : World} {o : Oper} (s : Sim X N ops K p dn D e a w) {i : Nat} (ho : ops[i]? = some o) (hp : ∀ q, q ∈ predsOf o → q ∈ D) : Agree N (resE e (slotsOf ops o)) a := by
  refine ⟨s.size, fun t v hv => ?_, s.defers⟩
  obtain ⟨h1, h2⟩ := look_resE _ hv
  refine s.agree t v h2 fun j oj hj hjD hoj hd => hjD (hp j ?_)
  exact F.d1 j i oj o t hoj ho (s.quiet j oj hj hjD hoj) hd h1
/-- In whatever order the edges allow. -/
theorem sim_sound (F : Fits X ops) {Q : Exit → Act → World → Prop} (hK : ∀ e a w, Agree N e a → K e w → Q .normal a w) : ∀ (l D : List Nat), Lin ops D l → ∀ (p : Plan) (dn : List Nat) (e : Env) (a : Act) (w : World), Sim X N ops K p dn D e a w →
    wpOps X.P ops.toArray Q l a w := by
  intro l D hl
  induction hl with
  | nil D hD =>
    intro p dn e a w s
    have hall : ∀ i, i < ops.length → i ∈ dn := fun i hi => s.sub i (hD i hi)
    have hin : ∀ (i : Nat) (o : Oper), ops[i]? = some o → isIn dn i = true := fun i o ho => isIn_iff.2 (hall i (List.getElem?_eq_some_iff.1 ho).1)
    have hpd : vcP X N ops K .done e w := by
      cases p with
      | done => exact s.vc
      | q j k =>
        have hok := s.ok
        simp only [okP, Bool.and_eq_true] at hok
        exfalso
        have h := hok.1.2
        split at h
        · rename_i o ho
          simp [hin j o ho] at h
        · cases h
      | eff j risk k =>
        have hok := s.ok
        simp only [okP, Bool.and_eq_true] at hok
        exfalso
        have h := hok.1.2
        split at h
        · rename_i o ho
          simp [hin j o ho] at h
        · cases h
      | alt b c =>
        exfalso
        have hok := s.ok
        simp only [okP, Bool.and_eq_true] at hok
        have hhead : ∀ (p : Plan), okP X.tab ops p true dn = true → False := by
          intro p
          induction p with
          | done => intro h; simp [okP] at h
          | q i k _ => intro h; simp [okP] at h
          | eff i r k _ =>
            intro h
            simp only [okP, Bool.and_eq_true] at h
            have h := h.1.2
            split at h
            · rename_i o ho
              simp [hin i o ho] at h
            · cases h
          | alt b c ihb ihc =>
            intro h
            simp only [okP, Bool.and_eq_true] at h
            exact ihb h.1.2
        exact hhead b hok.1.2
    have hag : Agree N e a := by
      refine ⟨s.size, fun t v hv => s.agree t v hv fun i o hi hiD ho => ?_, s.defers⟩
      exact absurd (hD i (s.lt i hi)) hiD
    exact hK e a w hag hpd
  | cons D i l o ho hiD hp hl ih =>
    intro p dn e a w s
    have hoA : ops.toArray[i]? = some o := by simpa using ho
    show match ops.toArray[i]? with
      | none => wpOps X.P ops.toArray Q l a w
      | some o => if Region.wanted o (yielded ops.toArray a.tmps) then o.wp X.P a w (wpOps X.P ops.toArray Q l) Q ∨ (o.asks X.P a w ∧ LetsOut Q) else wpOps X.P ops.toArray Q l (a.put o.dst undef) w
    rw [hoA]
    cases hq : quietOp X.tab o with
    | true =>
      obtain ⟨p, dn, e, s, hin⟩ := s.toQuiet F p ho hq hp
      obtain ⟨v, hqe, hv⟩ := s.pend i o hin hiD ho
      refine vcG_sound (Q := Q) (agree_res F s ho hp) hqe fun v' w' hvw => ?_
      obtain ⟨rfl, rfl⟩ := hvw
      refine ih p dn e _ w' ⟨fun j hj => ?_, fun j oj hj hjD hoj => s.quiet j oj hj (fun h => hjD (List.mem_cons_of_mem _ h)) hoj, s.lt, fun j oj hj hoj q hq' => ?_, s.closedC, ?_, ?_, fun t u hu hx => ?_, fun j oj hj hjD hoj => s.pend j oj hj (fun h => hjD (List.mem_cons_of_mem _ h)) hoj, s.ok, s.vc⟩
      · rcases List.mem_cons.1 hj with rfl | hj
        · exact hin
        · exact s.sub j hj
      · rcases List.mem_cons.1 hj with rfl | hj
        · rw [ho, Option.some.injEq] at hoj; rw [← hoj] at hq'; exact List.mem_cons_of_mem _ (hp q hq')
        · exact List.mem_cons_of_mem _ (s.closed j oj hj hoj q hq')
      · cases hd : o.dst with
        | none => simpa [Act.put] using s.size
        | some d => simpa [Act.put] using s.size
      · cases hd : o.dst with
        | none => simpa [Act.put] using s.defers
        | some d => simpa [Act.put] using s.defers
      · cases hd : o.dst with
        | none =>
          simp only [Act.put]
          refine s.agree t u hu fun j oj hj hjD hoj => ?_
          by_cases hji : j = i
          · subst hji
            rw [ho, Option.some.injEq] at hoj
            rw [← hoj, hd]
            simp
          · exact hx j oj hj (fun h => by rcases List.mem_cons.1 h with h | h; exact hji h; exact hjD h) hoj
        | some d =>
          obtain ⟨hld, hdN⟩ := hv d hd
          by_cases hdt : d = t
          · subst hdt
            rw [hld, Option.some.injEq] at hu
            refine ⟨hdN, ?_⟩
            rw [← hu]
            simp [Act.put, Array.getD, s.size, hdN]
          · have := s.agree t u hu fun j oj hj hjD hoj => by
              by_cases hji : j = i
              · subst hji
                rw [ho, Option.some.injEq] at hoj
                rw [← hoj, hd]
                simpa using hdt
              · exact hx j oj hj (fun h => by rcases List.mem_cons.1 h with h | h; exact hji h; exact hjD h) hoj
            refine ⟨this.1, ?_⟩
            rw [← this.2]
            simp [Act.put, Array.getD, s.size, this.1, hdt]
    | false =>
      obtain ⟨p, dn, e, risk, k, s, hin, hok, hvc⟩ := s.toEff F p ho hq hiD hp
      have hvc := eff_parts hvc
      unfold stepP at hvc
      rw [ho] at hvc
      simp only [okP, Bool.true_or, Bool.true_and, Bool.and_eq_true] at hok
      obtain ⟨hok1, hok2⟩ := hok
      rw [ho] at hok1
      simp only [Bool.and_eq_true] at hok1
      have hrisk := hok1.2
      refine vcG_sound (Q := Q) (agree_res F s ho hp) hvc fun v w' hput => ?_
      have hpl : ∀ j, j ∈ i :: dn → j ∉ i :: D → j ∈ dn ∧ j ∉ D ∧ j ≠ i := by
        intro j hj hjD
        rcases List.mem_cons.1 hj with rfl | hj
        · exact absurd (by simp) hjD
        · exact ⟨hj, fun h => hjD (List.mem_cons_of_mem _ h), fun h => hjD (by simp [h])⟩
      have common : ∀ (e' : Env), (∀ d, o.dst = some d → e' = (d, v) :: e) → (o.dst = none → e' = e) → again X ops e' w' risk → ∀ (j : Nat) (oj : Oper), j ∈ i :: dn → j ∉ i :: D → ops[j]? = some oj →
          ∃ u, QE X ops oj (resE e' (slotsOf ops oj)) w' u ∧ ∀ d, oj.dst = some d → look e' d = some u ∧ d < N := by
        intro e' he1 he2 hag j oj hj hjD hoj
        obtain ⟨hjd, hjD', hji⟩ := hpl j hj hjD
        have hqj := s.quiet j oj hjd hjD' hoj
        obtain ⟨u, h1, h2⟩ := s.pend j oj hjd hjD' hoj
        have hlk : ∀ t, (t ∈ slotsOf ops oj ∨ oj.dst = some t) → look e' t = look e t := by
          intro t ht
          cases hd : o.dst with
          | none => rw [he2 hd]
          | some d =>
            rw [he1 d hd]
            refine look_cons_ne fun hdt => ?_
            subst hdt
            rcases ht with ht | ht
            · rcases F.d2 j i oj o d hoj ho hqj hd ht with h | ⟨h, _⟩
              · exact hin (s.closedC j oj hjd hoj i h)
              · exact hjD' (hp j h)
            · exact F.d3 j i oj o d hoj ho hqj hji ht hd
        have hres : resE e' (slotsOf ops oj) = resE e (slotsOf ops oj) := resE_congr _ fun t ht => hlk t (.inl ht)
        have hdd : ∀ d, oj.dst = some d → look e' d = some u ∧ d < N := fun d hd => by
          rw [hlk d (.inr hd)]
          exact h2 d hd
        cases hm : memOp X.tab oj with
        | false => exact ⟨u, by rw [hres]; exact vcG_pure hqj hm h1, hdd⟩
        | true =>
          have hr := List.all_eq_true.1 hrisk j hjd
          rw [hoj] at hr
          simp only [hqj, hm, Bool.and_self, Bool.not_true, Bool.or_false, Bool.or_eq_true] at hr
          rcases hr with hr | hr
          · have hag' := again_of hag (isIn_iff.1 hr) hoj
            obtain ⟨u', g1, g2⟩ := vcG_quiet hqj hag'
            refine ⟨u', g1, fun d hd => ?_⟩
            have g3 := g2.2
            rw [hd] at g3
            exact ⟨g3, (hdd d hd).2⟩
          · exact absurd (anc_of s.closed 8 _ j hp hr) hjD'
      have hsub : ∀ j, j ∈ i :: D → j ∈ i :: dn := fun j hj => by
        rcases List.mem_cons.1 hj with rfl | hj
        · simp
        · exact List.mem_cons_of_mem _ (s.sub j hj)
      have hquiet : ∀ (j : Nat) (oj : Oper), j ∈ i :: dn → j ∉ i :: D → ops[j]? = some oj → quietOp X.tab oj = true := fun j oj hj hjD hoj => by
        obtain ⟨h1, h2, _⟩ := hpl j hj hjD
        exact s.quiet j oj h1 h2 hoj
      have hlt : ∀ j, j ∈ i :: dn → j < ops.length := fun j hj => by
        rcases List.mem_cons.1 hj with rfl | hj
        · exact (List.getElem?_eq_some_iff.1 ho).1
        · exact s.lt j hj
      have hcl : ∀ (j : Nat) (oj : Oper), j ∈ i :: D → ops[j]? = some oj → ∀ q, q ∈ predsOf oj → q ∈ i :: D := fun j oj hj hoj q hq' => by
        rcases List.mem_cons.1 hj with rfl | hj
        · rw [ho, Option.some.injEq] at hoj; rw [← hoj] at hq'; exact List.mem_cons_of_mem _ (hp q hq')
        · exact List.mem_cons_of_mem _ (s.closed j oj hj hoj q hq')
      have hclC : ∀ (j : Nat) (oj : Oper), j ∈ i :: dn → ops[j]? = some oj → ∀ q, q ∈ predsOf oj → q ∈ i :: dn := fun j oj hj hoj q hq' => by
        rcases List.mem_cons.1 hj with rfl | hj
        · rw [ho, Option.some.injEq] at hoj; rw [← hoj] at hq'; exact List.mem_cons_of_mem _ (s.sub q (hp q hq'))
        · exact List.mem_cons_of_mem _ (s.closedC j oj hj hoj q hq')
      rcases putVC_cases hput with ⟨hd, hag, hk⟩ | ⟨d, hd, hdN, hag, hk⟩
      · refine ih k (i :: dn) e _ w' ⟨hsub, hquiet, hlt, hcl, hclC, by simpa [hd, Act.put] using s.size, by simpa [hd, Act.put] using s.defers, fun t u hu hx => ?_, common e (fun d' hd' => by rw [hd] at hd'; cases hd') (fun _ => rfl) hag, hok2, hk⟩
        simp only [hd, Act.put]
        exact s.agree t u hu fun j oj hj hjD hoj => by
          by_cases hji : j = i
          · subst hji
            exact absurd hj hin
          · exact hx j oj (List.mem_cons_of_mem _ hj) (fun h => by rcases List.mem_cons.1 h with h | h; exact hji h; exact hjD h) hoj
      · refine ih k (i :: dn) ((d, v) :: e) _ w' ⟨hsub, hquiet, hlt, hcl, hclC, by simpa [hd, Act.put] using s.size, by simpa [hd, Act.put] using s.defers, fun t u hu hx => ?_, common _ (fun d' hd' => by rw [hd, Option.some.injEq] at hd'; rw [hd']) (fun h => by rw [hd] at h; cases h) hag, hok2, hk⟩
        by_cases hdt : d = t
        · subst hdt
          rw [look_cons_eq, Option.some.injEq] at hu
          subst hu
          refine ⟨hdN, ?_⟩
          simp [hd, Act.put, Array.getD, s.size, hdN]
        · rw [look_cons_ne hdt] at hu
          have := s.agree t u hu fun j oj hj hjD hoj => by
            by_cases hji : j = i
            · subst hji
              exact absurd hj hin
            · exact hx j oj (List.mem_cons_of_mem _ hj) (fun h => by rcases List.mem_cons.1 h with h | h; exact hji h; exact hjD h) hoj
          refine ⟨this.1, ?_⟩
          rw [← this.2]
          simp [hd, Act.put, Array.getD, s.size, this.1, hdt]
end
section
variable {X : Pr} {N : Nat} {e : Env} {w : World} {Q : Exit → Env → World → Prop} {y : Code}
theorem Ext.undrew {M : Nat → Prop} {w w' : World} (h : Ext M w.drew w') : Ext M w w' := ⟨h.os, h.tape, h.output, h.size, h.block⟩
theorem draw_wp {id : Nat} {l : List Oper} {K : Env → World → Prop} (hm : X.P.follows .mixedOrders = true) (p : Plan) (hok : okAll X.tab l p = true) (h : vcP X N l K p e w.drew) {a : Act} (ha : Agree N e a) {Q : Exit → Act → World → Prop}
    (hK : ∀ e a w, Agree N e a → K e w → Q .normal a w) : (Code.region id l.toArray true).wp X.P Q a w := by
  simp only [okAll, Bool.and_eq_true] at hok
  refine wp_region_draw fun t => ?_
  have hs : Region.schedule (X.P.follows .mixedOrders) l.toArray t = Region.linearise .any l.toArray t := by
    unfold Region.schedule
    rw [hm]
    simp
  rw [hs]
  refine sim_sound (fits_of hok.1.2) hK _ [] (lin_of hok.1.1 t) p [] e a _ ⟨by simp, by simp, by simp, by simp, by simp, ha.size, ha.defers, fun t v hv _ => ha.get t v hv, by simp, hok.2, h⟩
/-- A region that draws its order, and what stands behind it. -/
theorem V.draw {id : Nat} {l : List Oper} (hm : X.P.follows .mixedOrders = true) (p : Plan) (hok : okAll X.tab l p = true) (h : vcP X N l (fun e' w' => V X.P N y Q e' w') p e w.drew) : V X.P N (.seq (.region id l.toArray true) y) Q e w :=
  V.seq ⟨fun a ha => draw_wp hm p hok h ha fun e' a' w' h1 h2 => ⟨e', h1, h2⟩⟩
theorem V.drawEnd {id : Nat} {l : List Oper} (hm : X.P.follows .mixedOrders = true) (p : Plan) (hok : okAll X.tab l p = true) (h : vcP X N l (fun e' w' => Q .normal e' w') p e w.drew) : V X.P N (.region id l.toArray true) Q e w :=
  ⟨fun a ha => draw_wp hm p hok h ha fun e' a' w' h1 h2 => ⟨e', h1, h2⟩⟩
end
end Go.Proofs.YtbcjhghfmhdafaaGreat.K
