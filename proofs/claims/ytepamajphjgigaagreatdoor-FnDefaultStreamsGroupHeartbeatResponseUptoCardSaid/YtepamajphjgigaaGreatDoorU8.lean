
/- How many cells a part has that was read; a cell is set anew. -/
import Derived.Test.YtepamajphjgigaaGreatDoorU1
set_option linter.unusedVariables false
set_option linter.unusedSimpArgs false
namespace Go.Proofs.YtepamajphjgigaaGreatDoor.K
open Go
set_option maxHeartbeats 800000

theorem QV_len {QP : List Fd → WR → List Value → T → Prop} {sp : List Fd → Nat} {kind : Int} {sub : List Fd} {nb : Bool} {wf : WR} {cs : List Value} {x : T} (hp : QP sub wf cs x → cs.length = sp sub) (h : QV QP kind sub nb wf cs x) : cs.length = szV sp kind sub := by
  unfold QV at h
  unfold szV
  split at h
  · rename_i e
    obtain ⟨b, rfl, _⟩ := h
    rw [if_neg (by omega), if_neg (by omega)]
    rfl
  split at h
  · rename_i e
    obtain ⟨u, hu, rfl, _⟩ := h
    rw [if_pos e, List.length_map, hu]
  rename_i e7
  rw [if_neg e7]
  split at h
  · rename_i e
    rw [if_neg (by omega)]
    split at h
    · obtain ⟨c, nl, u, rfl, _⟩ := h
      rfl
    · obtain ⟨u, rfl, _⟩ := h
      rfl
  split at h
  · rename_i e
    obtain ⟨c, nl, u, rfl, _⟩ := h
    rw [if_neg (by omega)]
    rfl
  split at h
  · rename_i e
    rw [if_pos e]
    exact hp h
  · rename_i e
    obtain ⟨n, _, rfl, _⟩ := h
    rw [if_neg e]
    rfl
theorem QAll_len {QF : Fd → WR → List Value → T → Prop} {sf : Fd → Nat} {wf : WR} : ∀ {fs : List Fd} {cs : List Value} {l : List T}, (∀ f, f ∈ fs → ∀ cs x, QF f wf cs x → cs.length = sf f) → QAll QF wf fs cs l → cs.length = (fs.map sf).sum
  | [], cs, l, _, h => by
    obtain ⟨rfl, _⟩ := (h : cs = [] ∧ l = [])
    rfl
  | f :: r, cs, l, hf, h => by
    obtain ⟨c1, c2, x, l2, rfl, rfl, h1, h2⟩ := (h : ∃ c1 c2 x l2, cs = c1 ++ c2 ∧ l = x :: l2 ∧ QF f wf c1 x ∧ QAll QF wf r c2 l2)
    rw [List.length_append, hf f (by simp) c1 x h1, QAll_len (fun g hg => hf g (by simp [hg])) h2, List.map_cons, List.sum_cons]
theorem QPartW_len {QF : Fd → WR → List Value → T → Prop} {sf : Fd → Nat} {tg : Bool} {fs : List Fd} {wf : WR} {cs : List Value} {t : T} (hf : ∀ f, f ∈ fs → ∀ cs x, QF f wf cs x → cs.length = sf f) (h : QPartW QF tg fs wf cs t) : cs.length = (fs.map sf).sum + (if tg = true then 1 else 0) := by
  obtain ⟨c1, l, u, c2, rfl, rfl, h1, h2⟩ := h
  rw [List.length_append, QAll_len hf h1]
  split at h2
  · rename_i e
    obtain ⟨m, rfl, _⟩ := h2
    rw [if_pos e]
    rfl
  · rename_i e
    obtain ⟨rfl, _⟩ := h2
    rw [if_neg e]
    rfl
theorem QField_len (tg : Bool) : ∀ (d : Nat) (f : Fd) (wf : WR) (cs : List Value) (x : T), QField tg d f wf cs x → cs.length = szF tg d f
  | 0, _, _, _, _, h => h.elim
  | d + 1, f, wf, cs, x, h => by
    have h : QFW (fun sub wf cs x => QPartW (QField tg d) tg sub wf cs x) (fun sub => szP tg d sub) f wf cs x := h
    unfold QFW at h
    unfold szF
    split at h
    · rename_i e
      obtain ⟨c, nl, l, rfl, _⟩ := h
      rw [if_pos e]
      rfl
    · rename_i e
      rw [if_neg e]
      exact QV_len (sp := fun sub => (sub.map (szF tg d)).sum + (if tg = true then 1 else 0)) (fun h => QPartW_len (fun g _ cs x h => QField_len tg d g wf cs x h) h) h
theorem QPart_len {tg : Bool} {d : Nat} {fs : List Fd} {wf : WR} {cs : List Value} {t : T} (h : QPart tg d fs wf cs t) : cs.length = szP tg d fs := QPartW_len (fun g _ cs x h => QField_len tg d g wf cs x h) h
theorem QAll_set {QF : Fd → WR → List Value → T → Prop} {sf : Fd → Nat} {wf : WR} : ∀ {fs : List Fd} {cs : List Value} {l : List T} (i : Nat) {f : Fd} {c' : Value} {x' : T}, (∀ g, g ∈ fs → ∀ cs x, QF g wf cs x → cs.length = sf g) → QAll QF wf fs cs l → fs[i]? = some f → sf f = 1 → QF f wf [c'] x' → QAll QF wf fs (cs.set ((fs.take i).map sf).sum c') (l.set i x')
  | [], cs, l, i, f, c', x', _, _, h, _, _ => by simp at h
  | g :: r, cs, l, 0, f, c', x', hf, h, hi, h1, hq => by
    obtain ⟨c1, c2, x, l2, rfl, rfl, g1, g2⟩ := (h : ∃ c1 c2 x l2, cs = c1 ++ c2 ∧ l = x :: l2 ∧ QF g wf c1 x ∧ QAll QF wf r c2 l2)
    simp only [List.getElem?_cons_zero, Option.some.injEq] at hi
    subst hi
    have hl := hf g (by simp) c1 x g1
    rw [h1] at hl
    match c1, hl with
    | [c], _ => exact ⟨[c'], c2, x', l2, rfl, rfl, hq, g2⟩
  | g :: r, cs, l, i + 1, f, c', x', hf, h, hi, h1, hq => by
    obtain ⟨c1, c2, x, l2, rfl, rfl, g1, g2⟩ := (h : ∃ c1 c2 x l2, cs = c1 ++ c2 ∧ l = x :: l2 ∧ QF g wf c1 x ∧ QAll QF wf r c2 l2)
    have hl := hf g (by simp) c1 x g1
    have ih := QAll_set i (fun g hg => hf g (by simp [hg])) g2 (by simpa using hi) h1 hq
    refine ⟨c1, _, x, _, ?_, rfl, g1, ih⟩
    rw [List.take_succ_cons, List.map_cons, List.sum_cons, ← hl, List.set_append_right _ _ (by omega), Nat.add_sub_cancel_left]
theorem QPart_set {d : Nat} {fs : List Fd} {wf : WR} {cs : List Value} {l : List T} {u : List Tg} (i : Nat) {f : Fd} {c' : Value} {x' : T} (h : QPart true d fs wf cs (.mk 0 [] false l u)) (hi : fs[i]? = some f) (h1 : szF true d f = 1) (hq : QField true d f wf [c'] x') : QPart true d fs wf (cs.set ((fs.take i).map (szF true d)).sum c') (.mk 0 [] false (l.set i x') u) := by
  obtain ⟨c1, l1, u1, c2, rfl, e, g1, m, rfl, g2⟩ := h
  injection e with _ _ _ e1 e2
  subst e1
  subst e2
  have hf := fun (g : Fd) (_ : g ∈ fs) (cs : List Value) (x : T) (h : QField true d g wf cs x) => QField_len true d g wf cs x h
  have hlen := QAll_len hf g1
  have hlt : ((fs.take i).map (szF true d)).sum < c1.length := by
    rw [hlen]
    obtain ⟨hil, hif⟩ := List.getElem?_eq_some_iff.1 hi
    have : fs = fs.take i ++ f :: fs.drop (i + 1) := by rw [← hif, List.getElem_cons_drop, List.take_append_drop]
    conv => rhs; rw [this]
    rw [List.map_append, List.sum_append, List.map_cons, List.sum_cons, h1]
    omega
  refine ⟨c1.set _ c', l.set i x', u, [m], ?_, rfl, QAll_set i hf g1 hi h1 hq, m, rfl, g2⟩
  rw [List.set_append_left _ _ hlt]
theorem LimT.set {n : Int} {s : List UInt8} {nl : Bool} {l : List T} {u : List Tg} (h : LimT (.mk n s nl l u)) (i : Nat) {x : T} (hx : LimT x) : LimT (.mk n s nl (l.set i x) u) := by
  cases h
  rename_i a1 a2 a3 a4 a5 a6 a7
  refine .mk _ _ _ _ _ (by assumption) (by assumption) (by rw [List.length_set]; assumption) (by assumption) (by assumption) (by assumption) fun y hy => ?_
  rcases List.mem_or_eq_of_mem_set hy with hy | rfl
  · exact (by assumption : ∀ x, x ∈ l → LimT x) y hy
  · exact hx
theorem Nrm.small' {t : T} (hl : LimT t) : ∀ {a : T}, Nrm t a → Small a := by
  induction hl with
  | mk n s nl l u hn hs hl hu hk hd hls ih =>
    intro a ha
    cases ha
    rename_i l1 u1 hp1 hl1 hh1 hq1
    refine .mk _ _ _ _ _ (by omega) (by rw [hq1.length_eq]; exact hu) fun x hx => ?_
    obtain ⟨i, hi⟩ := List.mem_iff_getElem?.1 hx
    have hil := (List.getElem?_eq_some_iff.1 hi).1
    exact ih l[i] (List.getElem_mem _) (hh1 i l[i] x (by simp [show i < l.length by omega]) hi)
theorem Nrm.at {n : Int} {s : List UInt8} {nl : Bool} {l : List T} {u : List Tg} {a : T} (h : Nrm (.mk n s nl l u) a) (i : Nat) {k : Int} (hi : l[i]? = some (numT k)) : (atT a i).n = k := by
  cases h
  rename_i l1 u1 hp1 hl1 hh1 hq1
  have hil := (List.getElem?_eq_some_iff.1 hi).1
  have h2 : l1[i]? = some l1[i] := by simp [show i < l1.length by omega]
  have h3 := hh1 i _ _ hi h2
  show ((l1[i]?).getD T.zero).n = k
  rw [h2]
  show (l1[i]).n = k
  generalize l1[i] = y at h3
  cases h3
  rfl
end Go.Proofs.YtepamajphjgigaaGreatDoor.K
