/- Going over the tags by rising numbers. -/
import Derived.Test.YtepamajphjgigaaGreatDoorB10
set_option linter.unusedVariables false
set_option linter.unusedSimpArgs false
namespace Go.Proofs.YtepamajphjgigaaGreatDoor.K
open Go
set_option maxHeartbeats 800000

theorem findNow_some {kd : IntKind} (y : Nat × Value) : ∀ (kvs : List (Nat × Value)) (i j : Nat), (kvs.map Prod.fst).Nodup → y ∈ kvs → ∃ n, Instr.findNow (.int kd) (.int .u32 (y.1 : Int)) ((kvs.zipIdx i).map ent) j = some (some (n, y.2))
  | [], i, j, _, h => by simp at h
  | z :: r, i, j, hn, h => by
    rw [List.zipIdx_cons, List.map_cons, Instr.findNow]
    rw [List.map_cons, List.nodup_cons] at hn
    rcases List.mem_cons.1 h with rfl | h
    · refine ⟨j, ?_⟩
      simp only [ent, Instr.sameNow, if_true, beq_self_eq_true]
    · have h1 : z.1 ≠ y.1 := fun e => hn.1 (List.mem_map.2 ⟨y, h, e.symm⟩)
      have h2 : ((y.1 : Int) == (z.1 : Int)) = false := by
        rw [Bool.eq_false_iff]
        intro h
        have := eq_of_beq h
        omega
      simp only [ent, Instr.sameNow, if_true, h2]
      exact findNow_some y r (i + 1) (j + 1) hn.2 h
theorem lookup_map {o : Oper} {e : Env} {w : World} {K : Value → World → Prop} {t kt et : TypeId} {m x : Operand} {b : Nat} {y : Nat × Value} {kvs : List (Nat × Value)} {s1 b1 s2 b2 : Nat} {z1 z2 : List Value} (ho : o.op = .lookup t m x false) (hm : ev e m = some (.map (some b))) (hx : ev e x = some (.int .u32 (y.1 : Int)))
    (ht : tlook X.tab t = some ⟨.map kt et, s1, b1, z1⟩) (hkt : tlook X.tab kt = some ⟨.int .u32, s2, b2, z2⟩) (hb : MapO w b kvs) (hn : (kvs.map Prod.fst).Nodup) (hy : y ∈ kvs) (hk : K y.2 w) : semVC X o e w K := by
  obtain ⟨d, inf, zv, hr⟩ := X.row ht
  have hd := hr.desc
  cases d <;> simp [descOf] at hd
  obtain ⟨hd1, hd2⟩ := hd
  have hd1 := hd1.symm
  have hd2 := hd2.symm
  subst hd1
  subst hd2
  obtain ⟨dk, infk, zk, hrk⟩ := X.row hkt
  have hdk := hrk.desc
  cases dk <;> simp [descOf] at hdk
  subst hdk
  refine .inl ⟨y.2, w, fun ρ hρ => .inl ?_, hk⟩
  have h1 := hρ m _ hm
  have h2 := hρ x _ hx
  obtain ⟨n, hf⟩ := findNow_some (kd := .u32) y kvs 0 0 hn hy
  have hb' : w.heap[b]? = some (.map (kvs.zipIdx.map ent).toArray kvs.length) := hb
  have hck : ∀ em, (Instr.checkKey em 10000 kt (.int .u32 (y.1 : Int))).run X.P w = .ok () w := by
    intro em
    show (Instr.checkKey em (9999 + 1) kt (.int .u32 (y.1 : Int))).run X.P w = .ok () w
    unfold Instr.checkKey
    simp [hrk.run_und]
  have hfk : (Instr.findKey kt (.int .u32 (y.1 : Int)) (kvs.zipIdx.map ent)).run X.P w = .ok (some (n, y.2)) w := by
    simp [Instr.findKey, hrk.run_und, hf]
  have hrun : (Instr.lookup t (.map (some b)) (.int .u32 (y.1 : Int)) false).run X.P w = .ok y.2 w := by
    have hg : (getObj b).run X.P w = .ok (.map (kvs.zipIdx.map ent).toArray kvs.length) w := by simp [getObj, Sem.run, hb']
    unfold Instr.lookup
    simp only [Sem.run_bind, hr.run_und, Result.andThen_ok, hg, hck, hfk, Sem.run_pure]
    simp
  unfold execOp
  rw [ho]
  dsimp only
  rw [h1, h2, Sem.run_bind, hrun]
  rfl
theorem OwnSl.row {w : World} {T : TypeId} {v : Value} {n : Nat} {xs : List Value} (h : OwnSl w T 1 v n xs) (hn : 0 < n) : ∃ g cap rest, v = .slice (some ⟨g, 0, none⟩) n cap ∧ Own w g T (xs ++ rest) := by
  obtain ⟨hl, hc⟩ := h
  rcases hc with ⟨_, h0⟩ | ⟨g, cap, cur, rfl, h0, hg, hn, hm, hcur, hp⟩
  · omega
  · refine ⟨g, cap, cur.toList.drop (n * 1), rfl, ?_⟩
    rw [← hp, List.take_append_drop]
    simpa [Own] using hg
theorem OSl.mk0 {w : World} {b : Nat} {T : TypeId} {l : List Value} {sz n : Nat} (h : Own w b T l) (hl : l.length = n * sz) (hn : n ≤ maxLen) {B : Nat} (hB : B ≤ b) : OSl w B T sz (.slice (some ⟨b, 0, none⟩) 0 n) [] := by
  refine ⟨?_, by simp, fun k hk => ?_⟩
  · have := OwnSl.of_own (sz := sz) (n := 0) (cap := n) h (Nat.zero_le _) hn hl
    rw [Nat.zero_mul, List.take_zero] at this
    exact this
  · simp only [Value.ownBlock, Option.some.injEq] at hk
    omega
/-- The tags in a cell: none, or a map of them. -/
inductive TagM (w : World) (F : Nat → Prop) : Value → List (Nat × Value) → Prop
  | none : TagM w F (.map none) []
  | some (b : Nat) (kvs : List (Nat × Value)) (hb : MapO w b kvs) (hF : F b) (hne : kvs ≠ []) : TagM w F (.map (some b)) kvs
theorem TagM.ext {M F : Nat → Prop} {w w' : World} {m : Value} {kvs : List (Nat × Value)} (h : TagM w F m kvs) (x : Ext M w w') (hF : ∀ k, k < w.heap.size → F k → ¬ M k) : TagM w' F m kvs := by
  cases h with
  | none => exact .none
  | some b kvs hb hf hne => exact .some b kvs (hb.ext x (hF b hb.lt hf)) hf hne
theorem TagM.e0 {F : Nat → Prop} {w w' : World} {m : Value} {kvs : List (Nat × Value)} (h : TagM w F m kvs) (x : Ext nob w w') : TagM w' F m kvs := h.ext x fun _ _ _ f => f
theorem TagM.mono {F F' : Nat → Prop} {w : World} {m : Value} {kvs : List (Nat × Value)} (h : TagM w F m kvs) (hF : ∀ k, k < w.heap.size → F k → F' k) : TagM w F' m kvs := by
  cases h with
  | none => exact .none
  | some b kvs hb hf hne => exact .some b kvs hb (hF b hb.lt hf) hne
end Go.Proofs.YtepamajphjgigaaGreatDoor.K
