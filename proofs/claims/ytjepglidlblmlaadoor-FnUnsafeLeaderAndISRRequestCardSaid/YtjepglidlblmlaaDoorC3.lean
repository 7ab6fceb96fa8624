/- How the fields of a message lie in memory. Setting unknown tags. What is appended of the fields, piece by piece; the fields as the appenders take them. Setting texts and octets. -/
import Derived.Test.YtjepglidlblmlaaDoorP0
import Derived.Test.YtjepglidlblmlaaDoorB12
import Derived.Test.YtjepglidlblmlaaDoorB13
import Derived.Test.YtjepglidlblmlaaDoorM0
/-! How the fields of a message lie in memory. -/
set_option linter.unusedVariables false
set_option linter.unusedSimpArgs false
namespace Go.Proofs.YtjepglidlblmlaaDoor.K
open Go
set_option maxHeartbeats 800000

/-- A text, or none. -/
def NTextR (w : World) (F : Nat → Prop) (c : Value) (t : T) : Prop := (t.nl = true ∧ c = .pointer none) ∨ (t.nl = false ∧ ∃ b o, c = .pointer (some ⟨b, o, none⟩) ∧ F b ∧ b < w.heap.size ∧ w.cell? ⟨b, o, none⟩ = some (str t.s))
/-- Octets; nb: none is told apart. -/
def OctR (nb : Bool) (w : World) (F : Nat → Prop) (c : Value) (t : T) : Prop := (t.nl = true ∧ c = .slice none 0 0) ∨ (t.nl = false ∧ (nb = true → ∃ a n k, c = .slice (some a) n k) ∧ Bytes w F c t.s)
/-- A list of things of sz cells; nb: none is told apart. -/
def ListR (nb : Bool) (sz : Nat) (R : List Value → T → Prop) (w : World) (F : Nat → Prop) (c : Value) (t : T) : Prop :=
  (t.nl = true ∧ c = .slice none 0 0) ∨ (t.nl = false ∧ (nb = true → ∃ a n k, c = .slice (some a) n k) ∧ ∃ ls : List (List Value), SlE w F sz c ls ∧ ls.length = t.l.length ∧ ∀ (i : Nat) (c' : List Value) (x : T), ls[i]? = some c' → t.l[i]? = some x → R c' x)
/-- Unknown tags. -/
def TagsR (w : World) (F : Nat → Prop) (c : Value) (u : List Tg) : Prop := ∃ kvs, TagM w F c kvs ∧ kvs.length = u.length ∧ ∀ (i : Nat) (y : Nat × Value) (x : Tg), kvs[i]? = some y → u[i]? = some x → y.1 = x.1 ∧ Bytes w F y.2 x.2
section
variable {M F : Nat → Prop} {w w' : World}
theorem NTextR.ext {c : Value} {t : T} (h : NTextR w F c t) (x : Ext M w w') (hF : ∀ k, k < w.heap.size → F k → ¬ M k) : NTextR w' F c t := by
  rcases h with h | ⟨h1, b, o, h2, h3, h4, h5⟩
  · exact .inl h
  · exact .inr ⟨h1, b, o, h2, h3, Nat.lt_of_lt_of_le h4 x.size, x.cell h5 (hF b h4 h3)⟩
theorem NTextR.mono {F' : Nat → Prop} {c : Value} {t : T} (h : NTextR w F c t) (hF : ∀ k, k < w.heap.size → F k → F' k) : NTextR w F' c t := by
  rcases h with h | ⟨h1, b, o, h2, h3, h4, h5⟩
  · exact .inl h
  · exact .inr ⟨h1, b, o, h2, hF b h4 h3, h4, h5⟩
theorem OctR.ext {nb : Bool} {c : Value} {t : T} (h : OctR nb w F c t) (x : Ext M w w') (hF : ∀ k, k < w.heap.size → F k → ¬ M k) : OctR nb w' F c t := by
  rcases h with h | ⟨h1, h2, h3⟩
  · exact .inl h
  · exact .inr ⟨h1, h2, h3.ext x hF⟩
theorem OctR.mono {F' : Nat → Prop} {nb : Bool} {c : Value} {t : T} (h : OctR nb w F c t) (hF : ∀ k, k < w.heap.size → F k → F' k) : OctR nb w F' c t := by
  rcases h with h | ⟨h1, h2, h3⟩
  · exact .inl h
  · exact .inr ⟨h1, h2, Sl.mono h3 hF⟩
theorem ListR.ext {nb : Bool} {sz : Nat} {R R' : List Value → T → Prop} {c : Value} {t : T} (h : ListR nb sz R w F c t) (x : Ext M w w') (hF : ∀ k, k < w.heap.size → F k → ¬ M k) (hR : ∀ c x, R c x → R' c x) : ListR nb sz R' w' F c t := by
  rcases h with h | ⟨h1, h2, ls, h3, h4, h5⟩
  · exact .inl h
  · exact .inr ⟨h1, h2, ls, h3.ext x hF, h4, fun i c' y hc hy => hR _ _ (h5 i c' y hc hy)⟩
theorem ListR.mono {F' : Nat → Prop} {nb : Bool} {sz : Nat} {R R' : List Value → T → Prop} {c : Value} {t : T} (h : ListR nb sz R w F c t) (hF : ∀ k, k < w.heap.size → F k → F' k) (hR : ∀ c x, R c x → R' c x) : ListR nb sz R' w F' c t := by
  rcases h with h | ⟨h1, h2, ls, h3, h4, h5⟩
  · exact .inl h
  · exact .inr ⟨h1, h2, ls, h3.mono hF, h4, fun i c' y hc hy => hR _ _ (h5 i c' y hc hy)⟩
theorem TagsR.ext {c : Value} {u : List Tg} (h : TagsR w F c u) (x : Ext M w w') (hF : ∀ k, k < w.heap.size → F k → ¬ M k) : TagsR w' F c u := by
  obtain ⟨kvs, h1, h2, h3⟩ := h
  exact ⟨kvs, h1.ext x hF, h2, fun i y z hy hz => ⟨(h3 i y z hy hz).1, (h3 i y z hy hz).2.ext x hF⟩⟩
theorem TagsR.mono {F' : Nat → Prop} {c : Value} {u : List Tg} (h : TagsR w F c u) (hF : ∀ k, k < w.heap.size → F k → F' k) : TagsR w F' c u := by
  obtain ⟨kvs, h1, h2, h3⟩ := h
  exact ⟨kvs, h1.mono hF, h2, fun i y z hy hz => ⟨(h3 i y z hy hz).1, Sl.mono (h3 i y z hy hz).2 hF⟩⟩
theorem TagsR.nil (w : World) (F : Nat → Prop) : TagsR w F (.map none) [] := ⟨[], .none, rfl, by simp⟩
end
/-! ## Tags are counted and appended -/
theorem Each_none {w : World} {p o : Nat} {f : Value} (hp : w.cell? ⟨p, o, none⟩ = some (.map none)) :
    Does X.P 23 #[.pointer (some ⟨p, o, none⟩), f] w fun r w' => w' = w := by
  refine Does.go (X := X) (l := [_, _]) Tryd.func23 rfl (by kernel_rfl) (by kernel_rfl) _ rfl ?_
  ((conv=>whnf);repeat((first|refine mvT ?_|refine mvF ?_|refine yT ?_|refine yF ?_);conv=>whnf))
  refine ⟨_, ld hp (by omega), ?_⟩
  ((conv=>whnf);repeat((first|refine mvT ?_|refine mvF ?_|refine yT ?_|refine yF ?_);conv=>whnf))
  refine ⟨0, rfl, ?_⟩
  ((conv=>whnf);repeat((first|refine mvT ?_|refine mvF ?_|refine yT ?_|refine yF ?_);conv=>whnf))
def tagZ (u : List Tg) : Nat := (u.map fun x => 20 + x.2.length).sum
theorem tagZ_take (u : List Tg) (i : Nat) (x : Tg) (h : u[i]? = some x) (hk : ∀ x, x ∈ u → x.1 < 4294967296 ∧ x.2.length < 4294967296) : ((u.take i).flatMap tagB).length + (20 + x.2.length) ≤ tagZ u := by
  induction u generalizing i with
  | nil => simp at h
  | cons y r ih =>
    have hy := hk y (by simp)
    have hyl : (tagB y).length ≤ 20 + y.2.length := by
      have h1 := uvar10 (n := y.1) (by omega)
      have h2 := uvar10 (n := y.2.length) (by omega)
      unfold tagB
      simp only [List.length_append]
      omega
    have hz : tagZ (y :: r) = (20 + y.2.length) + tagZ r := by simp [tagZ]
    cases i with
    | zero =>
      simp only [List.getElem?_cons_zero, Option.some.injEq] at h
      subst h
      simp only [List.take_zero, List.flatMap_nil, List.length_nil]
      omega
    | succ i =>
      have := ih i (by simpa using h) fun z hz => hk z (by simp [hz])
      rw [List.take_succ_cons, List.flatMap_cons, List.length_append]
      omega
theorem tagZ_le {u : List Tg} (h : TagOK u) : tagZ u ≤ 1074331629 := by
  have : ∀ (l : List Tg), (∀ x, x ∈ l → x.2.length ≤ 32767) → tagZ l ≤ l.length * 32787 := by
    intro l
    induction l with
    | nil => simp [tagZ]
    | cons y r ih =>
      intro hl
      have h1 := hl y (by simp)
      have h2 := ih fun z hz => hl z (by simp [hz])
      have hz : tagZ (y :: r) = (20 + y.2.length) + tagZ r := by simp [tagZ]
      rw [hz, List.length_cons, Nat.add_mul]
      omega
  have h1 := this u h.val
  have h2 : u.length * 32787 ≤ 1074331629 := Nat.le_trans (Nat.mul_le_mul_right _ h.len) (by decide)
  exact Nat.le_trans h1 h2
end Go.Proofs.YtjepglidlblmlaaDoor.K
/-! Setting unknown tags. -/
set_option linter.unusedVariables false
set_option linter.unusedSimpArgs false
namespace Go.Proofs.YtjepglidlblmlaaDoor.K
open Go
set_option maxHeartbeats 800000

/-- Tags in a map of our own (of a block from N on), their octets in region F. -/
def TagsO (w : World) (N : Nat) (F : Nat → Prop) (c : Value) (u : List Tg) : Prop := ∃ kvs, TagM w (fun k => N ≤ k) c kvs ∧ kvs.length = u.length ∧ ∀ (i : Nat) (y : Nat × Value) (x : Tg), kvs[i]? = some y → u[i]? = some x → y.1 = x.1 ∧ Bytes w F y.2 x.2
theorem TagsO.nil (w : World) (N : Nat) (F : Nat → Prop) : TagsO w N F (.map none) [] := ⟨[], .none, rfl, by simp⟩
theorem TagsO.ext {M F : Nat → Prop} {w w' : World} {N : Nat} {c : Value} {u : List Tg} (h : TagsO w N F c u) (x : Ext M w w') (hF : ∀ k, k < w.heap.size → F k → ¬ M k) (hN : ∀ k, k < w.heap.size → N ≤ k → ¬ M k) : TagsO w' N F c u := by
  obtain ⟨kvs, h1, h2, h3⟩ := h
  exact ⟨kvs, h1.ext x hN, h2, fun i y z hy hz => ⟨(h3 i y z hy hz).1, (h3 i y z hy hz).2.ext x hF⟩⟩
theorem TagsO.e0 {F : Nat → Prop} {w w' : World} {N : Nat} {c : Value} {u : List Tg} (h : TagsO w N F c u) (x : Ext nob w w') : TagsO w' N F c u := h.ext x (fun _ _ _ f => f) fun _ _ _ f => f
theorem TagsO.tags {F : Nat → Prop} {w : World} {N : Nat} {c : Value} {u : List Tg} (h : TagsO w N F c u) : TagsR w (fun k => F k ∨ N ≤ k) c u := by
  obtain ⟨kvs, h1, h2, h3⟩ := h
  exact ⟨kvs, h1.mono fun _ _ h => .inr h, h2, fun i y z hy hz => ⟨(h3 i y z hy hz).1, Sl.mono (h3 i y z hy hz).2 fun _ _ h => .inl h⟩⟩
theorem Tags_Set_does {w : World} {F : Nat → Prop} {N p o : Nat} {ty : TypeId} {cs : List Value} {c : Value} {u : List Tg} {key : Nat} {a : Option Addr} {n cap : Nat} {m : List UInt8} (hp : Own w p ty cs) (ho : cs[o]? = some c) (hc : TagsO w N F c u) (hN : N ≤ w.heap.size) (hpN : p < N) (hF : ∀ k, F k → k < N ∧ k ≠ p)
    (hv : Bytes w F (.slice a n cap) m) (hn : ∀ x, x ∈ u → x.1 ≠ key) :
    Does X.P 54 #[.pointer (some ⟨p, o, none⟩), .int .u32 (key : Int), .slice a n cap] w fun r w' => ∃ c', c'.oneCell' = true ∧ Own w' p ty (cs.set o c') ∧ TagsO w' N F c' (u ++ [(key, m)]) ∧ Ext (fun k => k = p ∨ N ≤ k) w w' := by
  obtain ⟨kvs, hm, hlen, hkv⟩ := hc
  cases hm with
  | none =>
    have hu0 : u = [] := List.eq_nil_of_length_eq_zero (by simpa using hlen.symm)
    subst hu0
    refine Does.mono (Tags_Set_nil hp ho) ?_
    rintro r w' ⟨b, hb, hp', hm', hx⟩
    refine ⟨_, rfl, hp', ⟨_, .some b _ hm' (by omega) (by simp), rfl, ?_⟩, hx.mono fun _ _ h => .inl h⟩
    intro i y x hy hx'
    match i, hy, hx' with
    | 0, hy, hx' =>
      simp only [List.nil_append, List.getElem?_cons_zero, Option.some.injEq] at hy hx'
      subst hy
      subst hx'
      exact ⟨rfl, hv.ext hx fun k _ hk e => (hF k hk).2 e⟩
    | i + 1, hy, _ => simp at hy
  | some b kvs hb hf hne0 =>
    have hnk : ∀ y, y ∈ kvs → y.1 ≠ key := by
      intro y hy
      obtain ⟨i, hi⟩ := List.mem_iff_getElem?.1 hy
      have hil := (List.getElem?_eq_some_iff.1 hi).1
      obtain ⟨x, hx⟩ : ∃ x, u[i]? = some x := ⟨u[i]'(by omega), by simp [← hlen, hil]⟩
      rw [(hkv i y x hi hx).1]
      exact hn x (List.mem_of_getElem? hx)
    refine Does.mono (Tags_Set_some hp ho hb hnk) ?_
    rintro r w' ⟨hm', hx⟩
    have hol := (List.getElem?_eq_some_iff.1 ho).1
    have hset : cs.set o (.map (some b)) = cs := by
      apply List.ext_getElem?
      intro i
      by_cases hi : i = o
      · subst hi
        rw [List.getElem?_set_self hol, ho]
      · rw [List.getElem?_set_ne (Ne.symm hi)]
    refine ⟨.map (some b), rfl, by rw [hset]; exact hp.ext hx (by omega), ⟨_, .some b _ hm' hf (by simp), by simp [hlen], ?_⟩, hx.mono fun k _ h => .inr (by omega)⟩
    intro i y x hy hx'
    rcases Nat.lt_trichotomy i kvs.length with hi | hi | hi
    · rw [List.getElem?_append_left hi] at hy
      rw [List.getElem?_append_left (by omega)] at hx'
      obtain ⟨h1, h2⟩ := hkv i y x hy hx'
      exact ⟨h1, h2.ext hx fun k _ hk e => by have := (hF k hk).1; omega⟩
    · rw [List.getElem?_append_right (by omega)] at hy hx'
      rw [show i - kvs.length = 0 by omega, List.getElem?_cons_zero, Option.some.injEq] at hy
      rw [show i - u.length = 0 by omega, List.getElem?_cons_zero, Option.some.injEq] at hx'
      subst hy
      subst hx'
      exact ⟨rfl, hv.ext hx fun k _ hk e => by have := (hF k hk).1; omega⟩
    · rw [List.getElem?_append_right (by omega)] at hy
      have := (List.getElem?_eq_some_iff.1 hy).1
      simp at this
      omega
theorem Apd.ne {w w' : World} {B : Nat} {v r : Value} {l m : List UInt8} (h : Apd w B v l m r w') {j : Nat} (hv : v.ownBlock ≠ some j) (hj : j < w.heap.size) : r.ownBlock ≠ some j := by
  intro hr
  rcases h.blk with e | ⟨q, hq, hle⟩
  · exact hv (e ▸ hr)
  · rw [hq, Option.some.injEq] at hr
    omega
theorem plainW_all {fw : Fd → T → List UInt8} {v : Int} {t : T} {i : Nat} {k nul df of : Int} {sub r : List Fd} (hv : 0 ≤ v) : plainW fw v t i (.mk k 0 (-1) nul (-1) df of sub :: r) = fw (.mk k 0 (-1) nul (-1) df of sub) (atT t i) ++ plainW fw v t (i + 1) r := by
  rw [plainW, if_pos ⟨by simp [Fd.tag], by simp [hasF, Fd.fr, Fd.to, hv]⟩]
theorem plainW_ver {fw : Fd → T → List UInt8} {v : Int} {t : T} {i : Nat} {k fr to nul df of : Int} {sub r : List Fd} : plainW fw v t i (.mk k fr to nul (-1) df of sub :: r) = (if (decide (fr ≤ v) && (decide (to < 0) || decide (v ≤ to))) = true then fw (.mk k fr to nul (-1) df of sub) (atT t i) else []) ++ plainW fw v t (i + 1) r := by
  have : ((Fd.mk k fr to nul (-1) df of sub).tag < 0 ∧ hasF (.mk k fr to nul (-1) df of sub) v = true) ↔ (decide (fr ≤ v) && (decide (to < 0) || decide (v ≤ to))) = true := ⟨fun h => h.2, fun h => ⟨by simp [Fd.tag], h⟩⟩
  rw [plainW]
  simp only [this]
end Go.Proofs.YtjepglidlblmlaaDoor.K
/-! What is appended of the fields, piece by piece; the fields as the appenders take them. -/
set_option linter.unusedVariables false
set_option linter.unusedSimpArgs false
namespace Go.Proofs.YtjepglidlblmlaaDoor.K
open Go
set_option maxHeartbeats 800000

def txA (fx : Bool) (s : List UInt8) : List UInt8 := if fx = true then uvar (s.length + 1) ++ s else fixed s.length 2 ++ s
def ntA (fx nl : Bool) (s : List UInt8) : List UInt8 := if nl = true then (if fx = true then [0] else fixed (-1) 2) else txA fx s
def ocA (fx : Bool) (s : List UInt8) : List UInt8 := if fx = true then uvar (s.length + 1) ++ s else fixed s.length 4 ++ s
def noA (fx nl : Bool) (s : List UInt8) : List UInt8 := if nl = true then (if fx = true then [0] else fixed (-1) 4) else ocA fx s
def arA (fx : Bool) (n : Nat) : List UInt8 := if fx = true then uvar (n + 1) else fixed n 4
def naA (fx nl : Bool) (n : Nat) : List UInt8 := if nl = true then (if fx = true then [0] else fixed (-1) 4) else arA fx n
def boA (n : Int) : List UInt8 := [b8 (n % 2)]
def lsT (t : T) : List T := if t.nl = true then [] else t.l
section
variable {d : Nat} {v : Int} {fx : Bool} {fr to nul tag df of k : Int} {sub : List Fd} {x : T}
theorem fieldOK_nl {f : Fd} (h : fieldOK d v f x) : x.nl = true → (0 ≤ f.nul ∧ (hasF f v = true → f.nul ≤ v)) ∨ (f.nul < 0 ∧ (f.kind = 9 ∨ f.kind = 11) ∧ x.s = [] ∧ x.l = [] ∧ (f.nul = -2 → f.tag < 0 → ¬ hasF f v = true)) := by
  match d, h with
  | d + 1, h => exact h.1
theorem fieldOK_neg (h : fieldOK d v (.mk k fr to (-1) tag df of sub) x) (hk : k ≠ 9 ∧ k ≠ 11) : x.nl = false := by
  cases hn : x.nl with
  | false => rfl
  | true =>
    rcases fieldOK_nl h hn with h | h
    · exact absurd h.1 (by simp [Fd.nul])
    · rcases h.2.1 with e | e
      · exact absurd e hk.1
      · exact absurd e hk.2
theorem fieldOK_empty (h : fieldOK d v (.mk k fr to (-1) tag df of sub) x) (hn : x.nl = true) : x.s = [] ∧ x.l = [] := by
  rcases fieldOK_nl h hn with h | h
  · exact absurd h.1 (by simp [Fd.nul])
  · exact ⟨h.2.2.1, h.2.2.2.1⟩
theorem fieldOK_two (h : fieldOK d v (.mk k fr to (-2) (-1) df of sub) x) (hp : hasF (.mk k fr to (-2) (-1) df of sub) v = true) : x.nl = false := by
  cases hn : x.nl with
  | false => rfl
  | true =>
    rcases fieldOK_nl h hn with h | h
    · exact absurd h.1 (by simp [Fd.nul])
    · exact absurd hp (h.2.2.2.2 rfl (show (-1 : Int) < 0 by decide))
theorem fieldOK_null (h : fieldOK d v (.mk k fr to nul tag df of sub) x) (h0 : 0 ≤ nul) (hp : hasF (.mk k fr to nul tag df of sub) v = true ∨ nul ≤ v) : nullF (.mk k fr to nul tag df of sub) v x = x.nl := by
  have := fieldOK_nl h
  unfold nullF
  cases hn : x.nl with
  | false => rfl
  | true =>
    have h1 : nul ≤ v := by
      rcases hp with hp | hp
      · rcases this hn with h2 | h2
        · exact h2.2 hp
        · have h2 : nul < 0 := h2.1
          omega
      · exact hp
    simp [Fd.nul, h0, h1]
theorem nullF_no : nullF (.mk k fr to (-1) tag df of sub) v x = false := by simp [nullF, Fd.nul]
theorem fieldOK_val (h : fieldOK (d + 1) v (.mk k fr to nul tag df of sub) x) (hk : k ≠ 11) : okV (partOK d v) k sub x := by
  have h2 := h.2
  rw [if_neg (show ¬ (Fd.mk k fr to nul tag df of sub).kind = 11 from hk)] at h2
  exact h2
theorem fieldOK_text (h : fieldOK (d + 1) v (.mk 8 fr to nul tag df of sub) x) : x.s.length ≤ 32767 := (fieldOK_val h (by decide)).1 (.inl rfl)
theorem fieldOK_bytes (h : fieldOK (d + 1) v (.mk 9 fr to nul tag df of sub) x) : x.s.length ≤ 32767 := (fieldOK_val h (by decide)).1 (.inr rfl)
theorem fieldOK_part (h : fieldOK (d + 1) v (.mk 10 fr to nul tag df of sub) x) : partOK d v sub x := (fieldOK_val h (by decide)).2 rfl
theorem fieldOK_list (h : fieldOK (d + 1) v (.mk 11 fr to nul tag df of sub) x) : x.l.length ≤ 32767 ∧ ∀ y, y ∈ x.l → y.nl = false ∧ okV (partOK d v) of sub y := by
  have h2 := h.2
  rw [if_pos (show (Fd.mk 11 fr to nul tag df of sub).kind = 11 from rfl)] at h2
  exact h2
theorem lsT_len (h : fieldOK (d + 1) v (.mk 11 fr to nul tag df of sub) x) : (lsT x).length ≤ 32767 := by
  unfold lsT
  split
  · simp
  · exact (fieldOK_list h).1
theorem lsT_ok (h : fieldOK (d + 1) v (.mk 11 fr to nul tag df of sub) x) : ∀ y, y ∈ lsT x → y.nl = false ∧ okV (partOK d v) of sub y := by
  intro y hy
  unfold lsT at hy
  split at hy
  · simp at hy
  · exact (fieldOK_list h).2 y hy
theorem flat_congr {f g : T → List UInt8} : ∀ l : List T, (∀ y, y ∈ l → f y = g y) → l.flatMap f = l.flatMap g
  | [], _ => rfl
  | y :: r, hl => by rw [List.flatMap_cons, List.flatMap_cons, hl y (by simp), flat_congr r fun z hz => hl z (by simp [hz])]
theorem nt_eq (h : fieldOK (d + 1) v (.mk 8 fr to nul tag df of sub) x) (h0 : 0 ≤ nul) (hp : hasF (.mk 8 fr to nul tag df of sub) v = true ∨ nul ≤ v) : fieldA (d + 1) v fx (.mk 8 fr to nul tag df of sub) x = ntA fx x.nl x.s := by
  have e : fieldA (d + 1) v fx (.mk 8 fr to nul tag df of sub) x = countedB fx (nullF (.mk 8 fr to nul tag df of sub) v x) (if nullF (.mk 8 fr to nul tag df of sub) v x = true then [] else x.s).length 2 ++ (if nullF (.mk 8 fr to nul tag df of sub) v x = true then [] else x.s) := rfl
  rw [e, fieldOK_null h h0 hp]
  unfold countedB ntA txA
  cases x.nl <;> cases fx <;> rfl
theorem tx_eq (h : fieldOK (d + 1) v (.mk 8 fr to (-1) tag df of sub) x) : fieldA (d + 1) v fx (.mk 8 fr to (-1) tag df of sub) x = txA fx x.s := by
  have e : fieldA (d + 1) v fx (.mk 8 fr to (-1) tag df of sub) x = countedB fx (nullF (.mk 8 fr to (-1) tag df of sub) v x) (if nullF (.mk 8 fr to (-1) tag df of sub) v x = true then [] else x.s).length 2 ++ (if nullF (.mk 8 fr to (-1) tag df of sub) v x = true then [] else x.s) := rfl
  rw [e, nullF_no]
  unfold countedB txA
  cases fx <;> rfl
theorem no_eq (h : fieldOK (d + 1) v (.mk 9 fr to nul tag df of sub) x) (h0 : 0 ≤ nul) (hp : hasF (.mk 9 fr to nul tag df of sub) v = true ∨ nul ≤ v) : fieldA (d + 1) v fx (.mk 9 fr to nul tag df of sub) x = noA fx x.nl x.s := by
  have e : fieldA (d + 1) v fx (.mk 9 fr to nul tag df of sub) x = countedB fx (nullF (.mk 9 fr to nul tag df of sub) v x) (if nullF (.mk 9 fr to nul tag df of sub) v x = true then [] else x.s).length 4 ++ (if nullF (.mk 9 fr to nul tag df of sub) v x = true then [] else x.s) := rfl
  rw [e, fieldOK_null h h0 hp]
  unfold countedB noA ocA
  cases x.nl <;> cases fx <;> rfl
theorem oc_eq (h : fieldOK (d + 1) v (.mk 9 fr to (-1) tag df of sub) x) : fieldA (d + 1) v fx (.mk 9 fr to (-1) tag df of sub) x = ocA fx x.s := by
  have e : fieldA (d + 1) v fx (.mk 9 fr to (-1) tag df of sub) x = countedB fx (nullF (.mk 9 fr to (-1) tag df of sub) v x) (if nullF (.mk 9 fr to (-1) tag df of sub) v x = true then [] else x.s).length 4 ++ (if nullF (.mk 9 fr to (-1) tag df of sub) v x = true then [] else x.s) := rfl
  rw [e, nullF_no]
  unfold countedB ocA
  cases fx <;> rfl
theorem na_eq {g : T → List UInt8} (h : fieldOK (d + 1) v (.mk 11 fr to nul tag df of sub) x) (h0 : 0 ≤ nul) (hp : hasF (.mk 11 fr to nul tag df of sub) v = true ∨ nul ≤ v) (hg : ∀ y, y ∈ lsT x → valueA (fun sub t => partA d v fx sub t) of sub false fx y = g y) : fieldA (d + 1) v fx (.mk 11 fr to nul tag df of sub) x = naA fx x.nl (lsT x).length ++ (lsT x).flatMap g := by
  have e : fieldA (d + 1) v fx (.mk 11 fr to nul tag df of sub) x = countedB fx (nullF (.mk 11 fr to nul tag df of sub) v x) (if nullF (.mk 11 fr to nul tag df of sub) v x = true then [] else x.l).length 4 ++ (if nullF (.mk 11 fr to nul tag df of sub) v x = true then [] else x.l).flatMap (valueA (fun sub t => partA d v fx sub t) of sub false fx) := rfl
  rw [e, fieldOK_null h h0 hp]
  have e2 : (if x.nl = true then [] else x.l) = lsT x := rfl
  rw [e2]
  rw [flat_congr _ hg]
  congr 1
  unfold countedB naA arA
  cases x.nl <;> cases fx <;> rfl
theorem lsT_eq (h : fieldOK (d + 1) v (.mk 11 fr to (-1) tag df of sub) x) : lsT x = x.l := by
  unfold lsT
  split
  · rename_i hn
    exact (fieldOK_empty h hn).2.symm
  · rfl
theorem n2_eq_of {g : T → List UInt8} (hx : x.nl = false) (hg : ∀ y, y ∈ lsT x → valueA (fun sub t => partA d v fx sub t) of sub false fx y = g y) : fieldA (d + 1) v fx (.mk 11 fr to (-2) tag df of sub) x = naA fx x.nl (lsT x).length ++ (lsT x).flatMap g := by
  have hn0 : nullF (.mk 11 fr to (-2) tag df of sub) v x = false := by simp [nullF, Fd.nul]
  have e : fieldA (d + 1) v fx (.mk 11 fr to (-2) tag df of sub) x = countedB fx (nullF (.mk 11 fr to (-2) tag df of sub) v x) (if nullF (.mk 11 fr to (-2) tag df of sub) v x = true then [] else x.l).length 4 ++ (if nullF (.mk 11 fr to (-2) tag df of sub) v x = true then [] else x.l).flatMap (valueA (fun sub t => partA d v fx sub t) of sub false fx) := rfl
  have e2 : (if false = true then [] else x.l) = lsT x := by
    unfold lsT
    rw [hx]
  rw [e, hn0, e2, flat_congr _ hg, hx]
  unfold countedB naA arA
  cases fx <;> rfl
theorem n2_eq {g : T → List UInt8} (h : fieldOK (d + 1) v (.mk 11 fr to (-2) (-1) df of sub) x) (hp : hasF (.mk 11 fr to (-2) (-1) df of sub) v = true) (hg : ∀ y, y ∈ lsT x → valueA (fun sub t => partA d v fx sub t) of sub false fx y = g y) : fieldA (d + 1) v fx (.mk 11 fr to (-2) (-1) df of sub) x = naA fx x.nl (lsT x).length ++ (lsT x).flatMap g := n2_eq_of (fieldOK_two h hp) hg
theorem ar_eq {g : T → List UInt8} (h : fieldOK (d + 1) v (.mk 11 fr to (-1) tag df of sub) x) (hg : ∀ y, y ∈ lsT x → valueA (fun sub t => partA d v fx sub t) of sub false fx y = g y) : fieldA (d + 1) v fx (.mk 11 fr to (-1) tag df of sub) x = arA fx (lsT x).length ++ (lsT x).flatMap g := by
  have e : fieldA (d + 1) v fx (.mk 11 fr to (-1) tag df of sub) x = countedB fx (nullF (.mk 11 fr to (-1) tag df of sub) v x) (if nullF (.mk 11 fr to (-1) tag df of sub) v x = true then [] else x.l).length 4 ++ (if nullF (.mk 11 fr to (-1) tag df of sub) v x = true then [] else x.l).flatMap (valueA (fun sub t => partA d v fx sub t) of sub false fx) := rfl
  rw [e, nullF_no]
  have e2 : (if false = true then [] else x.l) = lsT x := (lsT_eq h).symm
  rw [e2, flat_congr _ hg]
  unfold countedB arA
  cases fx <;> rfl
theorem vtx_eq {pw : List Fd → T → List UInt8} : valueA pw 8 sub false fx x = txA fx x.s := by
  unfold txA
  cases fx <;> rfl
end
theorem flat_take {α : Type} (f : α → List UInt8) (l : List α) (i : Nat) (h : i < l.length) : (l.take (i + 1)).flatMap f = (l.take i).flatMap f ++ f l[i] ∧ ((l.take i).flatMap f).length + (f l[i]).length ≤ (l.flatMap f).length := by
  have e : (l.take (i + 1)).flatMap f = (l.take i).flatMap f ++ f l[i] := by
    rw [List.take_succ_eq_append_getElem h, List.flatMap_append, List.flatMap_cons, List.flatMap_nil, List.append_nil]
  refine ⟨e, ?_⟩
  have h2 : l.flatMap f = (l.take (i + 1)).flatMap f ++ (l.drop (i + 1)).flatMap f := by rw [← List.flatMap_append, List.take_append_drop]
  rw [h2, e]
  simp only [List.length_append]
  omega
/-! ## The appenders over fields -/
/-- A list, opened. -/
theorem ListR.view {nb : Bool} {sz : Nat} {R : List Value → T → Prop} {w : World} {F : Nat → Prop} {c : Value} {t : T} (h : ListR nb sz R w F c t) : ∃ (a : Option Addr) (k : Nat) (ls : List (List Value)), c = .slice a ls.length k ∧ k ≤ maxLen ∧ ls.length = (lsT t).length ∧ (nb = true → a.isNone = t.nl) ∧
    (∀ (i : Nat) (c' : List Value), ls[i]? = some c' → ∃ b o, a = some ⟨b, o, none⟩ ∧ F b ∧ b < w.heap.size ∧ Cells w b (o + i * sz) c') ∧ ∀ (i : Nat) (c' : List Value) (x : T), ls[i]? = some c' → (lsT t)[i]? = some x → R c' x := by
  rcases h with ⟨hn, rfl⟩ | ⟨hn, hnb, ls, hls, hlen, hR⟩
  · refine ⟨none, 0, [], rfl, Nat.zero_le _, by simp [lsT, hn], fun _ => by simp [hn], by simp, by simp⟩
  · have e : lsT t = t.l := by simp [lsT, hn]
    obtain ⟨a, k, rfl, hk, hm, hF, _, hC⟩ := hls.view
    refine ⟨a, k, ls, rfl, hm, by rw [e]; exact hlen, fun h => ?_, fun i c' hi => ?_, by rw [e]; exact hR⟩
    · obtain ⟨a', n, k', h'⟩ := hnb h
      injection h' with h1 _ _
      rw [h1, hn]
      rfl
    · obtain ⟨b, o, rfl, hc⟩ := hC i c' hi
      have hb := hF b o rfl (by have := (List.getElem?_eq_some_iff.1 hi).1; omega)
      exact ⟨b, o, rfl, hb.1, hb.2, hc⟩
end Go.Proofs.YtjepglidlblmlaaDoor.K
/-! Setting texts and octets. -/
set_option linter.unusedVariables false
set_option linter.unusedSimpArgs false
namespace Go.Proofs.YtjepglidlblmlaaDoor.K
open Go
set_option maxHeartbeats 800000
theorem ok_nil : okCells [] = true := rfl
theorem ok_cons {c : Value} {l : List Value} (h : c.oneCell' = true) (h2 : okCells l = true) : okCells (c :: l) = true := by
  simp only [okCells, List.all_cons, Bool.and_eq_true] at h2 ⊢
  exact ⟨h, h2⟩
theorem ok_at {l : List Value} {c : Value} (h : okCells l = true) (j : Nat) (hj : l[j]? = some c) : c.oneCell' = true := by
  simp only [okCells, List.all_eq_true] at h
  exact h c (List.mem_of_getElem? hj)
theorem NTextR.one {w : World} {F : Nat → Prop} {c : Value} {t : T} (h : NTextR w F c t) : c.oneCell' = true := by
  rcases h with ⟨_, rfl⟩ | ⟨_, b, o, rfl, _⟩ <;> rfl
theorem OctR.one {nb : Bool} {w : World} {F : Nat → Prop} {c : Value} {t : T} (h : OctR nb w F c t) : c.oneCell' = true := by
  rcases h with ⟨_, rfl⟩ | ⟨_, _, h⟩
  · rfl
  · exact Sl.one h
theorem ListR.one {nb : Bool} {sz : Nat} {R : List Value → T → Prop} {w : World} {F : Nat → Prop} {c : Value} {t : T} (h : ListR nb sz R w F c t) : c.oneCell' = true := by
  obtain ⟨a, k, ls, rfl, _⟩ := h.view
  rfl
theorem TagM.one {w : World} {F : Nat → Prop} {c : Value} {kvs : List (Nat × Value)} (h : TagM w F c kvs) : c.oneCell' = true := by cases h <;> rfl
theorem TagsR.one {w : World} {F : Nat → Prop} {c : Value} {u : List Tg} (h : TagsR w F c u) : c.oneCell' = true := by
  obtain ⟨kvs, h, _⟩ := h
  exact h.one
theorem and1_bool (n : Int) : (IntKind.i64.wrap ((BitVec.ofInt IntKind.i64.bits n &&& BitVec.ofInt IntKind.i64.bits 1).toNat : Int) == 1) = decide (n % 2 = 1) := by
  rw [and1]
  rfl
theorem bo_eq (n : Int) : [if (decide (n % 2 = 1)) = true then (1 : UInt8) else 0] = boA n := by
  unfold boA
  rcases (show n % 2 = 0 ∨ n % 2 = 1 by omega) with h | h <;> rw [h] <;> rfl
theorem cells_one {v : Value} (h : v.oneCell' = true) : v.cells.toList = [v] := by
  cases v <;> first | rfl | exact Bool.noConfusion h
theorem uuid_len (s : List UInt8) : (uuidB s).length = 16 := by simp [uuidB]
theorem uuid_lit (s : List UInt8) : ∃ u0 u1 u2 u3 u4 u5 u6 u7 u8 u9 u10 u11 u12 u13 u14 u15, uuidB s = [u0, u1, u2, u3, u4, u5, u6, u7, u8, u9, u10, u11, u12, u13, u14, u15] := by
  have h := uuid_len s
  match uuidB s, h with
  | [u0, u1, u2, u3, u4, u5, u6, u7, u8, u9, u10, u11, u12, u13, u14, u15], _ => exact ⟨u0, u1, u2, u3, u4, u5, u6, u7, u8, u9, u10, u11, u12, u13, u14, u15, rfl⟩
theorem Cells.sub {w : World} {b : Nat} {l : List Value} (h : Cells w b 0 l) (j n : Nat) {m : List Value} (hm : (l.drop j).take n = m) : Cells w b (0 + j) m := by
  intro i u hi
  rw [← hm, List.getElem?_take] at hi
  split at hi
  · rw [List.getElem?_drop] at hi
    have := h (j + i) u hi
    rw [show 0 + j + i = 0 + (j + i) by omega]
    exact this
  · simp at hi
theorem Cells.sub2 {w : World} {b o o' : Nat} {l : List Value} (h : Cells w b o l) (j n : Nat) {m : List Value} (hm : (l.drop j).take n = m) (ho : o' = o + j) : Cells w b o' m := by
  subst ho
  intro i u hi
  rw [← hm, List.getElem?_take] at hi
  split at hi
  · rw [List.getElem?_drop] at hi
    have := h (j + i) u hi
    rw [show o + j + i = o + (j + i) by omega]
    exact this
  · simp at hi
theorem uuid_splice (s : List UInt8) : splice (List.replicate 16 (Value.int .u8 0)) 0 ((s.map bcell).take (Nat.min s.length 16 * 1)) = (uuidB s).map bcell := by
  unfold splice uuidB
  apply List.ext_getElem?
  intro i
  rw [List.take_zero, List.nil_append, Nat.mul_one]
  have hmin : Nat.min s.length 16 = min s.length 16 := rfl
  rw [hmin]
  simp only [List.length_take, List.length_map, Nat.zero_add]
  rcases Nat.lt_or_ge i (min s.length 16) with hi | hi
  · rw [List.getElem?_append_left (by simp; omega), List.getElem?_take, if_pos hi, List.getElem?_map, List.getElem?_map, List.getElem?_take, if_pos (by omega), List.getElem?_append_left (by omega)]
  · rw [List.getElem?_append_right (by simp; omega), List.getElem?_drop, List.getElem?_map, List.getElem?_take]
    simp only [List.length_take, List.length_map]
    by_cases h16 : i < 16
    · rw [if_pos h16, List.getElem?_append_right (by omega), List.getElem?_replicate, List.getElem?_replicate, if_pos (by omega), if_pos (by omega)]
      rfl
    · rw [if_neg h16, List.getElem?_replicate, if_neg (by omega)]
      rfl
theorem ifT {c : Bool} {a b z : List UInt8} (h : c = true → a = b) : (if c = true then a else z) = (if c = true then b else z) := by
  by_cases hc : c = true
  · rw [if_pos hc, if_pos hc, h hc]
  · rw [if_neg hc, if_neg hc]
theorem has_alw {k nul tag df of v : Int} {sub : List Fd} (hv : 0 ≤ v) : hasF (.mk k 0 (-1) nul tag df of sub) v = true := by simp [hasF, Fd.fr, Fd.to, hv]
end Go.Proofs.YtjepglidlblmlaaDoor.K
