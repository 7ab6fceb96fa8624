
/- Unknown tags. -/
import Derived.Test.YtjepglidlblmlaaDoorG4
set_option linter.unusedVariables false
set_option linter.unusedSimpArgs false
namespace Go.Proofs.YtjepglidlblmlaaDoor.K
open Go
set_option maxHeartbeats 800000

def TgC (w : World) (F : Nat → Prop) (c : List Value) (x : Tg) : Prop := x.1 < 4294967296 ∧ ∃ bv, c = [.int .u32 (x.1 : Int), bv] ∧ Bytes w F bv x.2
theorem TgC.ext {M F : Nat → Prop} {w w' : World} {c : List Value} {u : Tg} (h : TgC w F c u) (x : Ext M w w') (hF : ∀ k, k < w.heap.size → F k → ¬ M k) : TgC w' F c u := by
  obtain ⟨g1, bv, g2, g3⟩ := h
  exact ⟨g1, bv, g2, g3.ext x hF⟩
theorem TgC.len {w : World} {F : Nat → Prop} {c : List Value} {u : Tg} (h : TgC w F c u) : c.length = 2 := by
  obtain ⟨g1, bv, rfl, g3⟩ := h
  rfl
theorem TgC.ok {w : World} {F : Nat → Prop} {c : List Value} {u : Tg} (h : TgC w F c u) : okCells c = true := by
  obtain ⟨g1, bv, rfl, g3⟩ := h
  have h1 := Sl.one g3
  simp only [okCells, List.all_cons, List.all_nil, h1]
  rfl
/-- A slice of tags of our own; their octets lie in F. Ty: the type of the tags. -/
def OTg (Ty : TypeId) (w : World) (B : Nat) (F : Nat → Prop) (v : Value) (u : List Tg) : Prop :=
  ∃ ls, OSl w B Ty 2 v ls ∧ ls.length = u.length ∧ ∀ (i : Nat) (c : List Value) (x : Tg), ls[i]? = some c → u[i]? = some x → TgC w F c x
theorem OTg.ext {M F : Nat → Prop} {w w' : World} {Ty : TypeId} {B : Nat} {v : Value} {u : List Tg} (h : OTg Ty w B F v u) (x : Ext M w w') (hb : ∀ k, v.ownBlock = some k → ¬ M k) (hF : ∀ k, k < w.heap.size → F k → ¬ M k) : OTg Ty w' B F v u := by
  obtain ⟨ls, h1, h2, h3⟩ := h
  exact ⟨ls, h1.ext x hb, h2, fun i c y hc hy => (h3 i c y hc hy).ext x hF⟩
theorem OTg.nil (Ty : TypeId) (w : World) (B : Nat) (F : Nat → Prop) : OTg Ty w B F (.slice none 0 0) [] := ⟨[], OSl.nil w B Ty 2, rfl, by simp⟩
theorem OTg.tgs {Ty : TypeId} {w : World} {B : Nat} {F G : Nat → Prop} {v : Value} {u : List Tg} (h : OTg Ty w B F v u) (hB : ∀ k, B ≤ k → G k) (hF : ∀ k, F k → G k) : TgsR w G v u := by
  obtain ⟨ls, h1, h2, h3⟩ := h
  refine ⟨ls, h1.sl hB, h2, fun i c x hc hx => ?_⟩
  obtain ⟨g1, bv, g2, g3⟩ := h3 i c x hc hx
  exact ⟨g1, bv, g2, Sl.mono g3 fun k _ hk => hF k hk⟩
theorem ins_same : ∀ (o : List Tg) (t x : Tg) (i : Nat), (∀ j y, j < i → o[j]? = some y → y.1 < t.1) → o[i]? = some x → x.1 = t.1 → insT o t = o
  | [], t, x, i, _, h, _ => by simp at h
  | y :: r, t, x, 0, _, h, hx => by
    simp only [List.getElem?_cons_zero, Option.some.injEq] at h
    subst h
    simp [insT, hx]
  | y :: r, t, x, i + 1, hl, h, hx => by
    have h1 := hl 0 y (by omega) (by simp)
    rw [insT, if_pos h1, ins_same r t x i (fun j z hj hz => hl (j + 1) z (by omega) (by simpa using hz)) (by simpa using h) hx]
theorem ins_new : ∀ (o : List Tg) (t : Tg) (i : Nat), i ≤ o.length → (∀ j y, j < i → o[j]? = some y → y.1 < t.1) → (∀ x, o[i]? = some x → t.1 < x.1) → insT o t = o.take i ++ t :: o.drop i
  | [], t, i, hi, _, _ => by simp [insT]
  | y :: r, t, 0, _, _, h => by
    have := h y (by simp)
    rw [insT, if_neg (by omega), if_neg (by omega)]
    simp
  | y :: r, t, i + 1, hi, hl, h => by
    have h1 := hl 0 y (by omega) (by simp)
    rw [insT, if_pos h1, ins_new r t i (by simpa using hi) (fun j z hj hz => hl (j + 1) z (by omega) (by simpa using hz)) (fun x hx => h x (by simpa using hx))]
    simp
theorem insT_length : ∀ (o : List Tg) (t : Tg), (insT o t).length ≤ o.length + 1
  | [], t => by simp [insT]
  | x :: r, t => by
    have := insT_length r t
    unfold insT
    split
    · simp; omega
    · split <;> simp
theorem unkT_length (least : Nat) : ∀ (l o : List Tg), (unkT least o l).length ≤ o.length + l.length
  | [], o => by simp [unkT]
  | t :: r, o => by
    have h2 := insT_length o t
    unfold unkT
    simp only [List.length_cons]
    split
    · have h1 := unkT_length least r o
      omega
    · have h1 := unkT_length least r (insT o t)
      omega
theorem take_most_length {α : Type} (l : List α) : (l.take most).length ≤ 32767 := by rw [List.length_take]; exact Nat.min_le_left _ _
end Go.Proofs.YtjepglidlblmlaaDoor.K
