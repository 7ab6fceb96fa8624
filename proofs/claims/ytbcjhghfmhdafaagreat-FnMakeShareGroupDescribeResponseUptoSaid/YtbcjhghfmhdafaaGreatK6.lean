/- Regions that draw their order: one plan serves for every order. -/
import Derived.Test.YtbcjhghfmhdafaaGreatK5
set_option linter.unusedVariables false
set_option linter.unusedSimpArgs false
namespace Go.Proofs.YtbcjhghfmhdafaaGreat.K
open Go

def predsOf (o : Oper) : List Nat := (o.after.toList.filter fun e => Region.binds .any e).map (·.on)
/-- A list of places is an order that the edges allow, behind those that are done. -/
inductive Lin (ops : List Oper) : List Nat → List Nat → Prop
  | nil (dn : List Nat) (h : ∀ i, i < ops.length → i ∈ dn) : Lin ops dn []
  | cons (dn : List Nat) (i : Nat) (l : List Nat) (o : Oper) (ho : ops[i]? = some o) (hi : i ∉ dn) (hp : ∀ p, p ∈ predsOf o → p ∈ dn) (h : Lin ops (i :: dn) l) : Lin ops dn (i :: l)
/-- Every edge leads back. -/
def backB : Nat → List Oper → Bool
  | _, [] => true
  | k, o :: r => (predsOf o).all (fun p => Nat.blt p k) && backB (k + 1) r
theorem backB_of : ∀ (ops : List Oper) (k i : Nat) (o : Oper), backB k ops = true → ops[i]? = some o → ∀ p, p ∈ predsOf o → p < k + i
  | [], k, i, o, h, ho, p, hp => by simp at ho
  | o' :: r, k, 0, o, h, ho, p, hp => by
    simp only [List.getElem?_cons_zero, Option.some.injEq] at ho
    subst ho
    simp only [backB, Bool.and_eq_true, List.all_eq_true] at h
    have := h.1 p hp
    rw [Nat.blt_eq] at this
    omega
  | o' :: r, k, i + 1, o, h, ho, p, hp => by
    simp only [backB, Bool.and_eq_true] at h
    have := backB_of r (k + 1) i o h.2 (by simpa using ho) p hp
    omega
theorem lin_go {ops : List Oper} (hb : backB 0 ops = true) : ∀ (fuel t : Nat) (listed : Array Bool) (acc dn : List Nat), listed.size = ops.length → (∀ i, i < ops.length → (listed.getD i true = true ↔ i ∈ dn)) →
    ((List.range ops.length).filter (fun i => decide (i ∉ dn))).length ≤ fuel → ∃ l, Region.linearise.go .any ops.toArray fuel t listed acc = acc.reverse ++ l ∧ Lin ops dn l
  | 0, t, listed, acc, dn, hsz, hl, hf => by
    refine ⟨[], by simp [Region.linearise.go], Lin.nil dn fun i hi => ?_⟩
    have h0 : ((List.range ops.length).filter (fun i => decide (i ∉ dn))) = [] := List.eq_nil_of_length_eq_zero (by omega)
    rw [List.filter_eq_nil_iff] at h0
    have := h0 i (by simpa using hi)
    simpa using this
  | fuel + 1, t, listed, acc, dn, hsz, hl, hf => by
    unfold Region.linearise.go
    have hrs : ∀ i, i ∈ ((List.range ops.toArray.size).filter fun i => !listed.getD i true && ((ops.toArray[i]?).map (·.after.all fun e => !Region.binds .any e || listed.getD e.on false)).getD false) →
        ∃ o, ops[i]? = some o ∧ i ∉ dn ∧ ∀ p, p ∈ predsOf o → p ∈ dn := by
      intro i hi
      simp only [List.mem_filter, List.mem_range, Bool.and_eq_true, Bool.not_eq_true'] at hi
      obtain ⟨h1, h2, h3⟩ := hi
      have h1' : i < ops.length := by simpa using h1
      refine ⟨ops[i], by simp [h1'], fun hd => ?_, fun p hp => ?_⟩
      · rw [(hl i h1').2 hd] at h2
        cases h2
      · have hg : ops.toArray[i]? = some ops[i] := by simp [h1']
        rw [hg] at h3
        simp only [Option.map_some, Option.getD_some] at h3
        rw [← Array.all_toList, List.all_eq_true] at h3
        simp only [predsOf, List.mem_map, List.mem_filter] at hp
        obtain ⟨ed, ⟨he1, he2⟩, rfl⟩ := hp
        have := h3 ed he1
        rw [he2] at this
        simp only [Bool.not_true, Bool.false_or] at this
        have hlt' : ed.on < ops.length := by
          rcases Nat.lt_or_ge ed.on ops.length with h | h
          · exact h
          · rw [Array.getD] at this
            simp [hsz, Nat.not_lt.2 h] at this
        refine (hl ed.on hlt').1 ?_
        have hlt2 : ed.on < listed.size := by omega
        simp only [Array.getD, hlt2, dite_true] at this ⊢
        exact this
    dsimp only
    generalize hR : ((List.range ops.toArray.size).filter fun i => !listed.getD i true && ((ops.toArray[i]?).map (·.after.all fun e => !Region.binds .any e || listed.getD e.on false)).getD false) = rs at hrs
    split
    · rename_i i hi
      have him : i ∈ rs := List.mem_of_getElem? hi
      obtain ⟨o, ho, hnd', hp⟩ := hrs i him
      have hilt : i < ops.length := (List.getElem?_eq_some_iff.1 ho).1
      obtain ⟨l, h1, h2⟩ := lin_go hb fuel (t / rs.length) (listed.setIfInBounds i true) (i :: acc) (i :: dn) (by simp [hsz]) (fun k hk => by
          by_cases hki : k = i
          · subst hki
            simp [Array.getD, hsz, hk]
          · have := hl k hk
            simp only [List.mem_cons, hki, false_or]
            rw [← this]
            have hsame : (listed.setIfInBounds i true).getD k true = listed.getD k true := by
              rw [Array.getD_eq_getD_getElem?, Array.getD_eq_getD_getElem?, Array.getElem?_setIfInBounds_ne (Ne.symm hki)]
            rw [hsame]) (by
          have hsub : ((List.range ops.length).filter (fun k => decide (k ∉ i :: dn))) = ((List.range ops.length).filter (fun k => decide (k ∉ dn))).filter (fun k => decide (k ∉ i :: dn)) := by
            rw [List.filter_filter]
            congr 1
            funext k
            by_cases h1 : k = i <;> by_cases h2 : k ∈ dn <;> simp [h1, h2]
          rw [hsub]
          have hlt : (((List.range ops.length).filter (fun k => decide (k ∉ dn))).filter (fun k => decide (k ∉ i :: dn))).length < ((List.range ops.length).filter (fun k => decide (k ∉ dn))).length := by
            rw [List.length_filter_lt_length_iff_exists]
            exact ⟨i, by simp [hilt, hnd'], by simp⟩
          omega)
      exact ⟨i :: l, by rw [h1]; simp, Lin.cons dn i l o ho hnd' hp h2⟩
    · rename_i hnone
      refine ⟨[], by simp, Lin.nil dn fun i hi => ?_⟩
      -- nothing is ready: then nothing is left (the least one left would be ready)
      classical
      by_cases hm : i ∈ dn
      · exact hm
      · exfalso
        obtain ⟨k, ⟨hk1, hk2⟩, hk3⟩ := exists_least (p := fun k => k < ops.length ∧ k ∉ dn) ⟨i, hi, hm⟩
        have hkm : k ∈ rs := by
          rw [← hR]
          simp only [List.mem_filter, List.mem_range, Bool.and_eq_true, Bool.not_eq_true']
          refine ⟨by simpa using hk1, ?_, ?_⟩
          · cases hq : listed.getD k true with
            | false => rfl
            | true => exact absurd ((hl k hk1).1 hq) hk2
          · have hg : ops.toArray[k]? = some ops[k] := by simp [hk1]
            rw [hg]
            simp only [Option.map_some, Option.getD_some]
            rw [← Array.all_toList, List.all_eq_true]
            intro ed he
            cases hbd : Region.binds .any ed with
            | false => simp
            | true =>
              simp only [Bool.not_true, Bool.false_or]
              have hmem : ed.on ∈ predsOf ops[k] := by
                simp only [predsOf, List.mem_map, List.mem_filter]
                exact ⟨ed, ⟨he, hbd⟩, rfl⟩
              have hlt' := backB_of ops 0 k ops[k] hb (by simp [hk1]) ed.on hmem
              have hin : ed.on ∈ dn := by
                rcases Classical.em (ed.on ∈ dn) with h | h
                · exact h
                · have := hk3 ed.on ⟨by omega, h⟩
                  omega
              have h2 := (hl ed.on (by omega)).2 hin
              have hlt2 : ed.on < listed.size := by omega
              simp only [Array.getD, hlt2, dite_true] at h2 ⊢
              exact h2
        have hpos : 0 < rs.length := List.length_pos_of_mem hkm
        have hmod : t % rs.length < rs.length := Nat.mod_lt _ hpos
        rw [List.getElem?_eq_none_iff] at hnone
        omega
theorem lin_of {ops : List Oper} (hb : backB 0 ops = true) (t : Nat) : Lin ops [] (Region.linearise .any ops.toArray t) := by
  unfold Region.linearise
  obtain ⟨l, h1, h2⟩ := lin_go hb ops.toArray.size t (Array.replicate ops.toArray.size false) [] [] (by simp) (fun i hi => by simp [Array.getD, hi]) (by have := List.length_filter_le (fun i => decide (i ∉ ([] : List Nat))) (List.range ops.length); simpa using this)
  rw [h1]
  simpa using h2
end Go.Proofs.YtbcjhghfmhdafaaGreat.K
