/- Setting unknown tags. -/
import Derived.Test.YtbcjhghfmhdafaaGreatC0
set_option linter.unusedVariables false
set_option linter.unusedSimpArgs false
namespace Go.Proofs.YtbcjhghfmhdafaaGreat.K
open Go
set_option maxHeartbeats 800000

/-- Tags in a map of our own (of a block from N on), their octets in region F. -/
def TagsO (w : World) (N : Nat) (F : Nat → Prop) (c : Value) (u : List Tg) : Prop := ∃ kvs, TagM w (fun k => N ≤ k) c kvs ∧ kvs.length = u.length ∧ ∀ (i : Nat) (y : Nat × Value) (x : Tg), kvs[i]? = some y → u[i]? = some x → y.1 = x.1 ∧ Bytes w F y.2 x.2
theorem TagsO.nil (w : World) (N : Nat) (F : Nat → Prop) : TagsO w N F (.map none) [] := ⟨[], .none, rfl, by simp⟩
theorem TagsO.ext {M F : Nat → Prop} {w w' : World} {N : Nat} {c : Value} {u : List Tg} (h : TagsO w N F c u) (x : Ext M w w') (hF : ∀ k, k < w.heap.size → F k → ¬ M k) (hN : ∀ k, k < w.heap.size → N ≤ k → ¬ M k) : TagsO w' N F c u := by
  obtain ⟨kvs, h1, h2, h3⟩ := h
  exact ⟨kvs, h1.ext x hN, h2, fun i y z hy hz => ⟨(h3 i y z hy hz).1, (h3 i y z hy hz).2.ext x hF⟩⟩
theorem TagsO.e0 {F : Nat → Prop} {w w' : World} {N : Nat} {c : Value} {u : List Tg} (h : TagsO w N F c u) (x : Ext nob w w') : TagsO w' N F c u := h.ext x (fun _ _ _ f => f) fun _ _ _ f => f
theorem TagsO.tags {F : Nat → Prop} {w : World} {N : Nat} {c : Value} {u : List Tg} (h : TagsO w N F c u) : TagsR w (fun k => F k ∨ N ≤ k) c u := by
  obtain ⟨kvs, h1, h2, h3⟩ := h
  exact ⟨kvs, h1.mono fun _ _ h => .inr h, h2, fun i y z hy hz => ⟨(h3 i y z hy hz).1, Sl.mono (h3 i y z hy hz).2 fun _ _ h => .inl h⟩⟩
theorem Tags_Set_does {w : World} {F : Nat → Prop} {N p o : Nat} {ty : TypeId} {cs : List Value} {c : Value} {u : List Tg} {key : Nat} {a : Option Addr} {n cap : Nat} {m : List UInt8} (hp : Own w p ty cs) (ho : cs[o]? = some c) (hc : TagsO w N F c u) (hN : N ≤ w.heap.size) (hpN : p < N) (hF : ∀ k, F k → k < N ∧ k ≠ p)
    (hv : Bytes w F (.slice a n cap) m) (hn : ∀ x, x ∈ u → x.1 ≠ key) :
    Does X.P 62 #[.pointer (some ⟨p, o, none⟩), .int .u32 (key : Int), .slice a n cap] w fun r w' => ∃ c', c'.oneCell' = true ∧ Own w' p ty (cs.set o c') ∧ TagsO w' N F c' (u ++ [(key, m)]) ∧ Ext (fun k => k = p ∨ N ≤ k) w w' := by
  obtain ⟨kvs, hm, hlen, hkv⟩ := hc
  cases hm with
  | none =>
    have hu0 : u = [] := List.eq_nil_of_length_eq_zero (by simpa using hlen.symm)
    subst hu0
    refine Does.mono (Tags_Set_nil hp ho) ?_
    rintro r w' ⟨b, hb, hp', hm', hx⟩
    refine ⟨_, rfl, hp', ⟨_, .some b _ hm' (by omega), rfl, ?_⟩, hx.mono fun _ _ h => .inl h⟩
    intro i y x hy hx'
    match i, hy, hx' with
    | 0, hy, hx' =>
      simp only [List.nil_append, List.getElem?_cons_zero, Option.some.injEq] at hy hx'
      subst hy
      subst hx'
      exact ⟨rfl, hv.ext hx fun k _ hk e => (hF k hk).2 e⟩
    | i + 1, hy, _ => simp at hy
  | some b kvs hb hf =>
    have hnk : ∀ y, y ∈ kvs → y.1 ≠ key := by
      intro y hy
      obtain ⟨i, hi⟩ := List.mem_iff_getElem?.1 hy
      have hil := (List.getElem?_eq_some_iff.1 hi).1
      obtain ⟨x, hx⟩ : ∃ x, u[i]? = some x := ⟨u[i]'(by omega), by simp [← hlen, hil]⟩
      rw [(hkv i y x hi hx).1]
      exact hn x (List.mem_of_getElem? hx)
    refine Does.mono (Tags_Set_some hp ho hb hnk) ?_
    rintro r w' ⟨hm', hx⟩
    have hol := (List.getElem?_eq_some_iff.1 ho).1
    have hset : cs.set o (.map (some b)) = cs := by
      apply List.ext_getElem?
      intro i
      by_cases hi : i = o
      · subst hi
        rw [List.getElem?_set_self hol, ho]
      · rw [List.getElem?_set_ne (Ne.symm hi)]
    refine ⟨.map (some b), rfl, by rw [hset]; exact hp.ext hx (by omega), ⟨_, .some b _ hm' hf, by simp [hlen], ?_⟩, hx.mono fun k _ h => .inr (by omega)⟩
    intro i y x hy hx'
    rcases Nat.lt_trichotomy i kvs.length with hi | hi | hi
    · rw [List.getElem?_append_left hi] at hy
      rw [List.getElem?_append_left (by omega)] at hx'
      obtain ⟨h1, h2⟩ := hkv i y x hy hx'
      exact ⟨h1, h2.ext hx fun k _ hk e => by have := (hF k hk).1; omega⟩
    · rw [List.getElem?_append_right (by omega)] at hy hx'
      rw [show i - kvs.length = 0 by omega, List.getElem?_cons_zero, Option.some.injEq] at hy
      rw [show i - u.length = 0 by omega, List.getElem?_cons_zero, Option.some.injEq] at hx'
      subst hy
      subst hx'
      exact ⟨rfl, hv.ext hx fun k _ hk e => by have := (hF k hk).1; omega⟩
    · rw [List.getElem?_append_right (by omega)] at hy
      have := (List.getElem?_eq_some_iff.1 hy).1
      simp at this
      omega
theorem Apd.ne {w w' : World} {B : Nat} {v r : Value} {l m : List UInt8} (h : Apd w B v l m r w') {j : Nat} (hv : v.ownBlock ≠ some j) (hj : j < w.heap.size) : r.ownBlock ≠ some j := by
  intro hr
  rcases h.blk with e | ⟨q, hq, hle⟩
  · exact hv (e ▸ hr)
  · rw [hq, Option.some.injEq] at hr
    omega
theorem plainW_all {fw : Fd → T → List UInt8} {v : Int} {t : T} {i : Nat} {k nul df of : Int} {sub r : List Fd} (hv : 0 ≤ v) : plainW fw v t i (.mk k 0 (-1) nul (-1) df of sub :: r) = fw (.mk k 0 (-1) nul (-1) df of sub) (atT t i) ++ plainW fw v t (i + 1) r := by
  rw [plainW, if_pos ⟨by simp [Fd.tag], by simp [hasF, Fd.fr, Fd.to, hv]⟩]
theorem plainW_ver {fw : Fd → T → List UInt8} {v : Int} {t : T} {i : Nat} {k fr to nul df of : Int} {sub r : List Fd} : plainW fw v t i (.mk k fr to nul (-1) df of sub :: r) = (if (decide (fr ≤ v) && (decide (to < 0) || decide (v ≤ to))) = true then fw (.mk k fr to nul (-1) df of sub) (atT t i) else []) ++ plainW fw v t (i + 1) r := by
  have : ((Fd.mk k fr to nul (-1) df of sub).tag < 0 ∧ hasF (.mk k fr to nul (-1) df of sub) v = true) ↔ (decide (fr ≤ v) && (decide (to < 0) || decide (v ≤ to))) = true := ⟨fun h => h.2, fun h => ⟨by simp [Fd.tag], h⟩⟩
  rw [plainW]
  simp only [this]
end Go.Proofs.YtbcjhghfmhdafaaGreat.K
