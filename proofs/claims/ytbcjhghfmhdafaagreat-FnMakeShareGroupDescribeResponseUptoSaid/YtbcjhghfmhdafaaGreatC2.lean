/- What is appended of the fields, piece by piece; the fields as the appenders take them. -/
import Derived.Test.YtbcjhghfmhdafaaGreatC1
set_option linter.unusedVariables false
set_option linter.unusedSimpArgs false
namespace Go.Proofs.YtbcjhghfmhdafaaGreat.K
open Go
set_option maxHeartbeats 800000

def txA (fx : Bool) (s : List UInt8) : List UInt8 := if fx = true then uvar (s.length + 1) ++ s else fixed s.length 2 ++ s
def ntA (fx nl : Bool) (s : List UInt8) : List UInt8 := if nl = true then (if fx = true then [0] else fixed (-1) 2) else txA fx s
def ocA (fx : Bool) (s : List UInt8) : List UInt8 := if fx = true then uvar (s.length + 1) ++ s else fixed s.length 4 ++ s
def noA (fx nl : Bool) (s : List UInt8) : List UInt8 := if nl = true then (if fx = true then [0] else fixed (-1) 4) else ocA fx s
def arA (fx : Bool) (n : Nat) : List UInt8 := if fx = true then uvar (n + 1) else fixed n 4
def naA (fx nl : Bool) (n : Nat) : List UInt8 := if nl = true then (if fx = true then [0] else fixed (-1) 4) else arA fx n
def boA (n : Int) : List UInt8 := [b8 (n % 2)]
def lsT (t : T) : List T := if t.nl = true then [] else t.l
section
variable {d : Nat} {v : Int} {fx : Bool} {fr to nul tag df of k : Int} {sub : List Fd} {x : T}
theorem fieldOK_nl {f : Fd} (h : fieldOK d v f x) : x.nl = true → 0 ≤ f.nul ∧ f.nul ≤ v := by
  match d, h with
  | d + 1, h => exact h.1
theorem fieldOK_neg (h : fieldOK d v (.mk k fr to (-1) tag df of sub) x) : x.nl = false := by
  cases hn : x.nl with
  | false => rfl
  | true => exact absurd (fieldOK_nl h hn).1 (by simp [Fd.nul])
theorem fieldOK_null {f : Fd} (h : fieldOK d v f x) : nullF f v x = x.nl := by
  have := fieldOK_nl h
  unfold nullF
  cases hn : x.nl with
  | false => rfl
  | true => simp [this hn]
theorem fieldOK_val (h : fieldOK (d + 1) v (.mk k fr to nul tag df of sub) x) (hk : k ≠ 11) : okV (partOK d v) k sub x := by
  have h2 := h.2
  rw [if_neg (show ¬ (Fd.mk k fr to nul tag df of sub).kind = 11 from hk)] at h2
  exact h2
theorem fieldOK_text (h : fieldOK (d + 1) v (.mk 8 fr to nul tag df of sub) x) : x.s.length ≤ 32767 := (fieldOK_val h (by decide)).1 (.inl rfl)
theorem fieldOK_bytes (h : fieldOK (d + 1) v (.mk 9 fr to nul tag df of sub) x) : x.s.length ≤ 32767 := (fieldOK_val h (by decide)).1 (.inr rfl)
theorem fieldOK_part (h : fieldOK (d + 1) v (.mk 10 fr to nul tag df of sub) x) : partOK d v sub x := (fieldOK_val h (by decide)).2 rfl
theorem fieldOK_list (h : fieldOK (d + 1) v (.mk 11 fr to nul tag df of sub) x) : x.l.length ≤ 32767 ∧ ∀ y, y ∈ x.l → y.nl = false ∧ okV (partOK d v) of sub y := by
  have h2 := h.2
  rw [if_pos (show (Fd.mk 11 fr to nul tag df of sub).kind = 11 from rfl)] at h2
  exact h2
theorem lsT_len (h : fieldOK (d + 1) v (.mk 11 fr to nul tag df of sub) x) : (lsT x).length ≤ 32767 := by
  unfold lsT
  split
  · simp
  · exact (fieldOK_list h).1
theorem lsT_ok (h : fieldOK (d + 1) v (.mk 11 fr to nul tag df of sub) x) : ∀ y, y ∈ lsT x → y.nl = false ∧ okV (partOK d v) of sub y := by
  intro y hy
  unfold lsT at hy
  split at hy
  · simp at hy
  · exact (fieldOK_list h).2 y hy
theorem nt_eq (h : fieldOK (d + 1) v (.mk 8 fr to nul tag df of sub) x) : fieldA (d + 1) v fx (.mk 8 fr to nul tag df of sub) x = ntA fx x.nl x.s := by
  have e : fieldA (d + 1) v fx (.mk 8 fr to nul tag df of sub) x = countedB fx (nullF (.mk 8 fr to nul tag df of sub) v x) (if nullF (.mk 8 fr to nul tag df of sub) v x = true then [] else x.s).length 2 ++ (if nullF (.mk 8 fr to nul tag df of sub) v x = true then [] else x.s) := rfl
  rw [e, fieldOK_null h]
  unfold countedB ntA txA
  cases x.nl <;> cases fx <;> rfl
theorem tx_eq (h : fieldOK (d + 1) v (.mk 8 fr to (-1) tag df of sub) x) : fieldA (d + 1) v fx (.mk 8 fr to (-1) tag df of sub) x = txA fx x.s := by
  rw [nt_eq h, fieldOK_neg h]
  rfl
theorem no_eq (h : fieldOK (d + 1) v (.mk 9 fr to nul tag df of sub) x) : fieldA (d + 1) v fx (.mk 9 fr to nul tag df of sub) x = noA fx x.nl x.s := by
  have e : fieldA (d + 1) v fx (.mk 9 fr to nul tag df of sub) x = countedB fx (nullF (.mk 9 fr to nul tag df of sub) v x) (if nullF (.mk 9 fr to nul tag df of sub) v x = true then [] else x.s).length 4 ++ (if nullF (.mk 9 fr to nul tag df of sub) v x = true then [] else x.s) := rfl
  rw [e, fieldOK_null h]
  unfold countedB noA ocA
  cases x.nl <;> cases fx <;> rfl
theorem oc_eq (h : fieldOK (d + 1) v (.mk 9 fr to (-1) tag df of sub) x) : fieldA (d + 1) v fx (.mk 9 fr to (-1) tag df of sub) x = ocA fx x.s := by
  rw [no_eq h, fieldOK_neg h]
  rfl
theorem na_eq {g : T → List UInt8} (h : fieldOK (d + 1) v (.mk 11 fr to nul tag df of sub) x) (hg : ∀ y, y ∈ lsT x → valueA (fun sub t => partA d v fx sub t) of sub false fx y = g y) : fieldA (d + 1) v fx (.mk 11 fr to nul tag df of sub) x = naA fx x.nl (lsT x).length ++ (lsT x).flatMap g := by
  have e : fieldA (d + 1) v fx (.mk 11 fr to nul tag df of sub) x = countedB fx (nullF (.mk 11 fr to nul tag df of sub) v x) (if nullF (.mk 11 fr to nul tag df of sub) v x = true then [] else x.l).length 4 ++ (if nullF (.mk 11 fr to nul tag df of sub) v x = true then [] else x.l).flatMap (valueA (fun sub t => partA d v fx sub t) of sub false fx) := rfl
  rw [e, fieldOK_null h]
  have e2 : (if x.nl = true then [] else x.l) = lsT x := rfl
  rw [e2]
  have e3 : ∀ l : List T, (∀ y, y ∈ l → valueA (fun sub t => partA d v fx sub t) of sub false fx y = g y) → l.flatMap (valueA (fun sub t => partA d v fx sub t) of sub false fx) = l.flatMap g := by
    intro l hl
    induction l with
    | nil => rfl
    | cons y r ih => rw [List.flatMap_cons, List.flatMap_cons, hl y (by simp), ih fun z hz => hl z (by simp [hz])]
  rw [e3 _ hg]
  congr 1
  unfold countedB naA arA
  cases x.nl <;> cases fx <;> rfl
theorem ar_eq {g : T → List UInt8} (h : fieldOK (d + 1) v (.mk 11 fr to (-1) tag df of sub) x) (hg : ∀ y, y ∈ lsT x → valueA (fun sub t => partA d v fx sub t) of sub false fx y = g y) : fieldA (d + 1) v fx (.mk 11 fr to (-1) tag df of sub) x = arA fx (lsT x).length ++ (lsT x).flatMap g := by
  rw [na_eq h hg, fieldOK_neg h]
  rfl
theorem vtx_eq {pw : List Fd → T → List UInt8} : valueA pw 8 sub false fx x = txA fx x.s := by
  unfold txA
  cases fx <;> rfl
end
theorem flat_take {α : Type} (f : α → List UInt8) (l : List α) (i : Nat) (h : i < l.length) : (l.take (i + 1)).flatMap f = (l.take i).flatMap f ++ f l[i] ∧ ((l.take i).flatMap f).length + (f l[i]).length ≤ (l.flatMap f).length := by
  have e : (l.take (i + 1)).flatMap f = (l.take i).flatMap f ++ f l[i] := by
    rw [List.take_succ_eq_append_getElem h, List.flatMap_append, List.flatMap_cons, List.flatMap_nil, List.append_nil]
  refine ⟨e, ?_⟩
  have h2 : l.flatMap f = (l.take (i + 1)).flatMap f ++ (l.drop (i + 1)).flatMap f := by rw [← List.flatMap_append, List.take_append_drop]
  rw [h2, e]
  simp only [List.length_append]
  omega
/-! ## The appenders over fields -/
theorem AppendNullableString_R {w : World} {F : Nat → Prop} {B : Nat} {v c : Value} {l : List UInt8} {t : T} (h : OB w B v l) (hB : B ≤ w.heap.size) (hc : NTextR w F c t) (hl : l.length + (t.s.length + 10) ≤ 140737488355328) : Does X.P 72 #[v, c] w fun r w' => Apd w B v l (ntA false t.nl t.s) r w' := by
  rcases hc with ⟨hn, rfl⟩ | ⟨hn, b, o, rfl, _, _, hc⟩
  · rw [hn]
    exact AppendNullableString_nil h hB (by omega)
  · rw [hn]
    exact AppendNullableString_some h hB hc (by omega)
theorem AppendCompactNullableString_R {w : World} {F : Nat → Prop} {B : Nat} {v c : Value} {l : List UInt8} {t : T} (h : OB w B v l) (hB : B ≤ w.heap.size) (hc : NTextR w F c t) (hs : t.s.length ≤ 32767) (hl : l.length + (t.s.length + 10) ≤ 140737488355328) : Does X.P 71 #[v, c] w fun r w' => Apd w B v l (ntA true t.nl t.s) r w' := by
  rcases hc with ⟨hn, rfl⟩ | ⟨hn, b, o, rfl, _, _, hc⟩
  · rw [hn]
    exact AppendCompactNullableString_nil h hB (by omega)
  · rw [hn]
    exact AppendCompactNullableString_some h hB hc (by omega) (by omega)
/-- A list, opened. -/
theorem ListR.view {nb : Bool} {sz : Nat} {R : List Value → T → Prop} {w : World} {F : Nat → Prop} {c : Value} {t : T} (h : ListR nb sz R w F c t) : ∃ (a : Option Addr) (k : Nat) (ls : List (List Value)), c = .slice a ls.length k ∧ k ≤ maxLen ∧ ls.length = (lsT t).length ∧ (nb = true → a.isNone = t.nl) ∧
    (∀ (i : Nat) (c' : List Value), ls[i]? = some c' → ∃ b o, a = some ⟨b, o, none⟩ ∧ F b ∧ b < w.heap.size ∧ Cells w b (o + i * sz) c') ∧ ∀ (i : Nat) (c' : List Value) (x : T), ls[i]? = some c' → (lsT t)[i]? = some x → R c' x := by
  rcases h with ⟨hn, rfl⟩ | ⟨hn, hnb, ls, hls, hlen, hR⟩
  · refine ⟨none, 0, [], rfl, Nat.zero_le _, by simp [lsT, hn], fun _ => by simp [hn], by simp, by simp⟩
  · have e : lsT t = t.l := by simp [lsT, hn]
    obtain ⟨a, k, rfl, hk, hm, hF, _, hC⟩ := hls.view
    refine ⟨a, k, ls, rfl, hm, by rw [e]; exact hlen, fun h => ?_, fun i c' hi => ?_, by rw [e]; exact hR⟩
    · obtain ⟨a', n, k', h'⟩ := hnb h
      injection h' with h1 _ _
      rw [h1, hn]
      rfl
    · obtain ⟨b, o, rfl, hc⟩ := hC i c' hi
      have hb := hF b o rfl (by have := (List.getElem?_eq_some_iff.1 hi).1; omega)
      exact ⟨b, o, rfl, hb.1, hb.2, hc⟩
end Go.Proofs.YtbcjhghfmhdafaaGreat.K
