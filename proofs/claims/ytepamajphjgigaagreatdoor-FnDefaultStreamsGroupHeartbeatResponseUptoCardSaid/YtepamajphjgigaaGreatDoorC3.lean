
/- How the fields of a message lie in memory. Setting unknown tags. What is appended of the fields, piece by piece; the fields as the appenders take them. Setting texts and octets. -/
import Derived.Test.YtepamajphjgigaaGreatDoorP0
import Derived.Test.YtepamajphjgigaaGreatDoorB12
import Derived.Test.YtepamajphjgigaaGreatDoorB13
import Derived.Test.YtepamajphjgigaaGreatDoorM0
/-! How the fields of a message lie in memory. -/
set_option linter.unusedVariables false
set_option linter.unusedSimpArgs false
namespace Go.Proofs.YtepamajphjgigaaGreatDoor.K
open Go
set_option maxHeartbeats 800000

/-- A text, or none. -/
def NTextR (w : World) (F : Nat → Prop) (c : Value) (t : T) : Prop := (t.nl = true ∧ c = .pointer none) ∨ (t.nl = false ∧ ∃ b o, c = .pointer (some ⟨b, o, none⟩) ∧ F b ∧ b < w.heap.size ∧ w.cell? ⟨b, o, none⟩ = some (str t.s))
/-- Octets; nb: none is told apart. -/
def OctR (nb : Bool) (w : World) (F : Nat → Prop) (c : Value) (t : T) : Prop := (t.nl = true ∧ c = .slice none 0 0) ∨ (t.nl = false ∧ (nb = true → ∃ a n k, c = .slice (some a) n k) ∧ Bytes w F c t.s)
/-- A list of things of sz cells; nb: none is told apart. -/
def ListR (nb : Bool) (sz : Nat) (R : List Value → T → Prop) (w : World) (F : Nat → Prop) (c : Value) (t : T) : Prop :=
  (t.nl = true ∧ c = .slice none 0 0) ∨ (t.nl = false ∧ (nb = true → ∃ a n k, c = .slice (some a) n k) ∧ ∃ ls : List (List Value), SlE w F sz c ls ∧ ls.length = t.l.length ∧ ∀ (i : Nat) (c' : List Value) (x : T), ls[i]? = some c' → t.l[i]? = some x → R c' x)
/-- Unknown tags. -/
def TagsR (w : World) (F : Nat → Prop) (c : Value) (u : List Tg) : Prop := ∃ kvs, TagM w F c kvs ∧ kvs.length = u.length ∧ ∀ (i : Nat) (y : Nat × Value) (x : Tg), kvs[i]? = some y → u[i]? = some x → y.1 = x.1 ∧ Bytes w F y.2 x.2
section
variable {M F : Nat → Prop} {w w' : World}
theorem NTextR.ext {c : Value} {t : T} (h : NTextR w F c t) (x : Ext M w w') (hF : ∀ k, k < w.heap.size → F k → ¬ M k) : NTextR w' F c t := by
  rcases h with h | ⟨h1, b, o, h2, h3, h4, h5⟩
  · exact .inl h
  · exact .inr ⟨h1, b, o, h2, h3, Nat.lt_of_lt_of_le h4 x.size, x.cell h5 (hF b h4 h3)⟩
theorem NTextR.mono {F' : Nat → Prop} {c : Value} {t : T} (h : NTextR w F c t) (hF : ∀ k, k < w.heap.size → F k → F' k) : NTextR w F' c t := by
  rcases h with h | ⟨h1, b, o, h2, h3, h4, h5⟩
  · exact .inl h
  · exact .inr ⟨h1, b, o, h2, hF b h4 h3, h4, h5⟩
theorem OctR.ext {nb : Bool} {c : Value} {t : T} (h : OctR nb w F c t) (x : Ext M w w') (hF : ∀ k, k < w.heap.size → F k → ¬ M k) : OctR nb w' F c t := by
  rcases h with h | ⟨h1, h2, h3⟩
  · exact .inl h
  · exact .inr ⟨h1, h2, h3.ext x hF⟩
theorem OctR.mono {F' : Nat → Prop} {nb : Bool} {c : Value} {t : T} (h : OctR nb w F c t) (hF : ∀ k, k < w.heap.size → F k → F' k) : OctR nb w F' c t := by
  rcases h with h | ⟨h1, h2, h3⟩
  · exact .inl h
  · exact .inr ⟨h1, h2, Sl.mono h3 hF⟩
theorem ListR.ext {nb : Bool} {sz : Nat} {R R' : List Value → T → Prop} {c : Value} {t : T} (h : ListR nb sz R w F c t) (x : Ext M w w') (hF : ∀ k, k < w.heap.size → F k → ¬ M k) (hR : ∀ c x, R c x → R' c x) : ListR nb sz R' w' F c t := by
  rcases h with h | ⟨h1, h2, ls, h3, h4, h5⟩
  · exact .inl h
  · exact .inr ⟨h1, h2, ls, h3.ext x hF, h4, fun i c' y hc hy => hR _ _ (h5 i c' y hc hy)⟩
theorem ListR.mono {F' : Nat → Prop} {nb : Bool} {sz : Nat} {R R' : List Value → T → Prop} {c : Value} {t : T} (h : ListR nb sz R w F c t) (hF : ∀ k, k < w.heap.size → F k → F' k) (hR : ∀ c x, R c x → R' c x) : ListR nb sz R' w F' c t := by
  rcases h with h | ⟨h1, h2, ls, h3, h4, h5⟩
  · exact .inl h
  · exact .inr ⟨h1, h2, ls, h3.mono hF, h4, fun i c' y hc hy => hR _ _ (h5 i c' y hc hy)⟩
theorem TagsR.ext {c : Value} {u : List Tg} (h : TagsR w F c u) (x : Ext M w w') (hF : ∀ k, k < w.heap.size → F k → ¬ M k) : TagsR w' F c u := by
  obtain ⟨kvs, h1, h2, h3⟩ := h
  exact ⟨kvs, h1.ext x hF, h2, fun i y z hy hz => ⟨(h3 i y z hy hz).1, (h3 i y z hy hz).2.ext x hF⟩⟩
theorem TagsR.mono {F' : Nat → Prop} {c : Value} {u : List Tg} (h : TagsR w F c u) (hF : ∀ k, k < w.heap.size → F k → F' k) : TagsR w F' c u := by
  obtain ⟨kvs, h1, h2, h3⟩ := h
  exact ⟨kvs, h1.mono hF, h2, fun i y z hy hz => ⟨(h3 i y z hy hz).1, Sl.mono (h3 i y z hy hz).2 hF⟩⟩
theorem TagsR.nil (w : World) (F : Nat → Prop) : TagsR w F (.map none) [] := ⟨[], .none, rfl, by simp⟩
end
/-! ## Tags are counted and appended -/
theorem Each_none {w : World} {p o : Nat} {f : Value} (hp : w.cell? ⟨p, o, none⟩ = some (.map none)) :
    Does X.P 35 #[.pointer (some ⟨p, o, none⟩), f] w fun r w' => w' = w := by
  refine Does.go (X := X) (l := [_, _]) Tryz.func35 rfl (by kernel_rfl) (by kernel_rfl) _ rfl ?_
  ((conv=>whnf);repeat((first|refine mvT ?_|refine mvF ?_|refine yT ?_|refine yF ?_);conv=>whnf))
  refine ⟨_, ld hp (by omega), ?_⟩
  ((conv=>whnf);repeat((first|refine mvT ?_|refine mvF ?_|refine yT ?_|refine yF ?_);conv=>whnf))
  refine ⟨0, rfl, ?_⟩
  ((conv=>whnf);repeat((first|refine mvT ?_|refine mvF ?_|refine yT ?_|refine yF ?_);conv=>whnf))
def tagZ (u : List Tg) : Nat := (u.map fun x => 20 + x.2.length).sum
end Go.Proofs.YtepamajphjgigaaGreatDoor.K
/-! Setting unknown tags. -/
set_option linter.unusedVariables false
set_option linter.unusedSimpArgs false
namespace Go.Proofs.YtepamajphjgigaaGreatDoor.K
open Go
set_option maxHeartbeats 800000

/-- Tags in a map of our own (of a block from N on), their octets in region F. -/
def TagsO (w : World) (N : Nat) (F : Nat → Prop) (c : Value) (u : List Tg) : Prop := ∃ kvs, TagM w (fun k => N ≤ k) c kvs ∧ kvs.length = u.length ∧ ∀ (i : Nat) (y : Nat × Value) (x : Tg), kvs[i]? = some y → u[i]? = some x → y.1 = x.1 ∧ Bytes w F y.2 x.2
theorem TagsO.nil (w : World) (N : Nat) (F : Nat → Prop) : TagsO w N F (.map none) [] := ⟨[], .none, rfl, by simp⟩
theorem TagsO.ext {M F : Nat → Prop} {w w' : World} {N : Nat} {c : Value} {u : List Tg} (h : TagsO w N F c u) (x : Ext M w w') (hF : ∀ k, k < w.heap.size → F k → ¬ M k) (hN : ∀ k, k < w.heap.size → N ≤ k → ¬ M k) : TagsO w' N F c u := by
  obtain ⟨kvs, h1, h2, h3⟩ := h
  exact ⟨kvs, h1.ext x hN, h2, fun i y z hy hz => ⟨(h3 i y z hy hz).1, (h3 i y z hy hz).2.ext x hF⟩⟩
theorem TagsO.e0 {F : Nat → Prop} {w w' : World} {N : Nat} {c : Value} {u : List Tg} (h : TagsO w N F c u) (x : Ext nob w w') : TagsO w' N F c u := h.ext x (fun _ _ _ f => f) fun _ _ _ f => f
theorem TagsO.tags {F : Nat → Prop} {w : World} {N : Nat} {c : Value} {u : List Tg} (h : TagsO w N F c u) : TagsR w (fun k => F k ∨ N ≤ k) c u := by
  obtain ⟨kvs, h1, h2, h3⟩ := h
  exact ⟨kvs, h1.mono fun _ _ h => .inr h, h2, fun i y z hy hz => ⟨(h3 i y z hy hz).1, Sl.mono (h3 i y z hy hz).2 fun _ _ h => .inl h⟩⟩
end Go.Proofs.YtepamajphjgigaaGreatDoor.K
/-! What is appended of the fields, piece by piece; the fields as the appenders take them. -/
set_option linter.unusedVariables false
set_option linter.unusedSimpArgs false
namespace Go.Proofs.YtepamajphjgigaaGreatDoor.K
open Go
set_option maxHeartbeats 800000

def txA (fx : Bool) (s : List UInt8) : List UInt8 := if fx = true then uvar (s.length + 1) ++ s else fixed s.length 2 ++ s
def ntA (fx nl : Bool) (s : List UInt8) : List UInt8 := if nl = true then (if fx = true then [0] else fixed (-1) 2) else txA fx s
def ocA (fx : Bool) (s : List UInt8) : List UInt8 := if fx = true then uvar (s.length + 1) ++ s else fixed s.length 4 ++ s
def noA (fx nl : Bool) (s : List UInt8) : List UInt8 := if nl = true then (if fx = true then [0] else fixed (-1) 4) else ocA fx s
def arA (fx : Bool) (n : Nat) : List UInt8 := if fx = true then uvar (n + 1) else fixed n 4
def naA (fx nl : Bool) (n : Nat) : List UInt8 := if nl = true then (if fx = true then [0] else fixed (-1) 4) else arA fx n
def boA (n : Int) : List UInt8 := [b8 (n % 2)]
def lsT (t : T) : List T := if t.nl = true then [] else t.l
section
variable {d : Nat} {v : Int} {fx : Bool} {fr to nul tag df of k : Int} {sub : List Fd} {x : T}
end
/-! ## The appenders over fields -/
/-- A list, opened. -/
theorem ListR.view {nb : Bool} {sz : Nat} {R : List Value → T → Prop} {w : World} {F : Nat → Prop} {c : Value} {t : T} (h : ListR nb sz R w F c t) : ∃ (a : Option Addr) (k : Nat) (ls : List (List Value)), c = .slice a ls.length k ∧ k ≤ maxLen ∧ ls.length = (lsT t).length ∧ (nb = true → a.isNone = t.nl) ∧
    (∀ (i : Nat) (c' : List Value), ls[i]? = some c' → ∃ b o, a = some ⟨b, o, none⟩ ∧ F b ∧ b < w.heap.size ∧ Cells w b (o + i * sz) c') ∧ ∀ (i : Nat) (c' : List Value) (x : T), ls[i]? = some c' → (lsT t)[i]? = some x → R c' x := by
  rcases h with ⟨hn, rfl⟩ | ⟨hn, hnb, ls, hls, hlen, hR⟩
  · refine ⟨none, 0, [], rfl, Nat.zero_le _, by simp [lsT, hn], fun _ => by simp [hn], by simp, by simp⟩
  · have e : lsT t = t.l := by simp [lsT, hn]
    obtain ⟨a, k, rfl, hk, hm, hF, _, hC⟩ := hls.view
    refine ⟨a, k, ls, rfl, hm, by rw [e]; exact hlen, fun h => ?_, fun i c' hi => ?_, by rw [e]; exact hR⟩
    · obtain ⟨a', n, k', h'⟩ := hnb h
      injection h' with h1 _ _
      rw [h1, hn]
      rfl
    · obtain ⟨b, o, rfl, hc⟩ := hC i c' hi
      have hb := hF b o rfl (by have := (List.getElem?_eq_some_iff.1 hi).1; omega)
      exact ⟨b, o, rfl, hb.1, hb.2, hc⟩
end Go.Proofs.YtepamajphjgigaaGreatDoor.K
/-! Setting texts and octets. -/
set_option linter.unusedVariables false
set_option linter.unusedSimpArgs false
namespace Go.Proofs.YtepamajphjgigaaGreatDoor.K
open Go
set_option maxHeartbeats 800000
theorem ok_nil : okCells [] = true := rfl
theorem ok_cons {c : Value} {l : List Value} (h : c.oneCell' = true) (h2 : okCells l = true) : okCells (c :: l) = true := by
  simp only [okCells, List.all_cons, Bool.and_eq_true] at h2 ⊢
  exact ⟨h, h2⟩
theorem NTextR.one {w : World} {F : Nat → Prop} {c : Value} {t : T} (h : NTextR w F c t) : c.oneCell' = true := by
  rcases h with ⟨_, rfl⟩ | ⟨_, b, o, rfl, _⟩ <;> rfl
theorem OctR.one {nb : Bool} {w : World} {F : Nat → Prop} {c : Value} {t : T} (h : OctR nb w F c t) : c.oneCell' = true := by
  rcases h with ⟨_, rfl⟩ | ⟨_, _, h⟩
  · rfl
  · exact Sl.one h
theorem ListR.one {nb : Bool} {sz : Nat} {R : List Value → T → Prop} {w : World} {F : Nat → Prop} {c : Value} {t : T} (h : ListR nb sz R w F c t) : c.oneCell' = true := by
  obtain ⟨a, k, ls, rfl, _⟩ := h.view
  rfl
theorem TagM.one {w : World} {F : Nat → Prop} {c : Value} {kvs : List (Nat × Value)} (h : TagM w F c kvs) : c.oneCell' = true := by cases h <;> rfl
theorem TagsR.one {w : World} {F : Nat → Prop} {c : Value} {u : List Tg} (h : TagsR w F c u) : c.oneCell' = true := by
  obtain ⟨kvs, h, _⟩ := h
  exact h.one
theorem cells_one {v : Value} (h : v.oneCell' = true) : v.cells.toList = [v] := by
  cases v <;> first | rfl | exact Bool.noConfusion h
theorem Cells.sub {w : World} {b : Nat} {l : List Value} (h : Cells w b 0 l) (j n : Nat) {m : List Value} (hm : (l.drop j).take n = m) : Cells w b (0 + j) m := by
  intro i u hi
  rw [← hm, List.getElem?_take] at hi
  split at hi
  · rw [List.getElem?_drop] at hi
    have := h (j + i) u hi
    rw [show 0 + j + i = 0 + (j + i) by omega]
    exact this
  · simp at hi
theorem Cells.sub2 {w : World} {b o o' : Nat} {l : List Value} (h : Cells w b o l) (j n : Nat) {m : List Value} (hm : (l.drop j).take n = m) (ho : o' = o + j) : Cells w b o' m := by
  subst ho
  intro i u hi
  rw [← hm, List.getElem?_take] at hi
  split at hi
  · rw [List.getElem?_drop] at hi
    have := h (j + i) u hi
    rw [show o + j + i = o + (j + i) by omega]
    exact this
  · simp at hi
end Go.Proofs.YtepamajphjgigaaGreatDoor.K
