/- How the fields of a message lie in memory. -/
import Derived.Test.YtbcjhghfmhdafaaGreatP0
import Derived.Test.YtbcjhghfmhdafaaGreatB12
import Derived.Test.YtbcjhghfmhdafaaGreatB13
import Derived.Test.YtbcjhghfmhdafaaGreatM0
set_option linter.unusedVariables false
set_option linter.unusedSimpArgs false
namespace Go.Proofs.YtbcjhghfmhdafaaGreat.K
open Go
set_option maxHeartbeats 800000

/-- A text, or none. -/
def NTextR (w : World) (F : Nat → Prop) (c : Value) (t : T) : Prop := (t.nl = true ∧ c = .pointer none) ∨ (t.nl = false ∧ ∃ b o, c = .pointer (some ⟨b, o, none⟩) ∧ F b ∧ b < w.heap.size ∧ w.cell? ⟨b, o, none⟩ = some (str t.s))
/-- Octets; nb: none is told apart. -/
def OctR (nb : Bool) (w : World) (F : Nat → Prop) (c : Value) (t : T) : Prop := (t.nl = true ∧ c = .slice none 0 0) ∨ (t.nl = false ∧ (nb = true → ∃ a n k, c = .slice (some a) n k) ∧ Bytes w F c t.s)
/-- A list of things of sz cells; nb: none is told apart. -/
def ListR (nb : Bool) (sz : Nat) (R : List Value → T → Prop) (w : World) (F : Nat → Prop) (c : Value) (t : T) : Prop :=
  (t.nl = true ∧ c = .slice none 0 0) ∨ (t.nl = false ∧ (nb = true → ∃ a n k, c = .slice (some a) n k) ∧ ∃ ls : List (List Value), SlE w F sz c ls ∧ ls.length = t.l.length ∧ ∀ (i : Nat) (c' : List Value) (x : T), ls[i]? = some c' → t.l[i]? = some x → R c' x)
/-- Unknown tags. -/
def TagsR (w : World) (F : Nat → Prop) (c : Value) (u : List Tg) : Prop := ∃ kvs, TagM w F c kvs ∧ kvs.length = u.length ∧ ∀ (i : Nat) (y : Nat × Value) (x : Tg), kvs[i]? = some y → u[i]? = some x → y.1 = x.1 ∧ Bytes w F y.2 x.2
section
variable {M F : Nat → Prop} {w w' : World}
theorem NTextR.ext {c : Value} {t : T} (h : NTextR w F c t) (x : Ext M w w') (hF : ∀ k, k < w.heap.size → F k → ¬ M k) : NTextR w' F c t := by
  rcases h with h | ⟨h1, b, o, h2, h3, h4, h5⟩
  · exact .inl h
  · exact .inr ⟨h1, b, o, h2, h3, Nat.lt_of_lt_of_le h4 x.size, x.cell h5 (hF b h4 h3)⟩
theorem NTextR.mono {F' : Nat → Prop} {c : Value} {t : T} (h : NTextR w F c t) (hF : ∀ k, k < w.heap.size → F k → F' k) : NTextR w F' c t := by
  rcases h with h | ⟨h1, b, o, h2, h3, h4, h5⟩
  · exact .inl h
  · exact .inr ⟨h1, b, o, h2, hF b h4 h3, h4, h5⟩
theorem OctR.ext {nb : Bool} {c : Value} {t : T} (h : OctR nb w F c t) (x : Ext M w w') (hF : ∀ k, k < w.heap.size → F k → ¬ M k) : OctR nb w' F c t := by
  rcases h with h | ⟨h1, h2, h3⟩
  · exact .inl h
  · exact .inr ⟨h1, h2, h3.ext x hF⟩
theorem OctR.mono {F' : Nat → Prop} {nb : Bool} {c : Value} {t : T} (h : OctR nb w F c t) (hF : ∀ k, k < w.heap.size → F k → F' k) : OctR nb w F' c t := by
  rcases h with h | ⟨h1, h2, h3⟩
  · exact .inl h
  · exact .inr ⟨h1, h2, Sl.mono h3 hF⟩
theorem ListR.ext {nb : Bool} {sz : Nat} {R R' : List Value → T → Prop} {c : Value} {t : T} (h : ListR nb sz R w F c t) (x : Ext M w w') (hF : ∀ k, k < w.heap.size → F k → ¬ M k) (hR : ∀ c x, R c x → R' c x) : ListR nb sz R' w' F c t := by
  rcases h with h | ⟨h1, h2, ls, h3, h4, h5⟩
  · exact .inl h
  · exact .inr ⟨h1, h2, ls, h3.ext x hF, h4, fun i c' y hc hy => hR _ _ (h5 i c' y hc hy)⟩
theorem ListR.mono {F' : Nat → Prop} {nb : Bool} {sz : Nat} {R R' : List Value → T → Prop} {c : Value} {t : T} (h : ListR nb sz R w F c t) (hF : ∀ k, k < w.heap.size → F k → F' k) (hR : ∀ c x, R c x → R' c x) : ListR nb sz R' w F' c t := by
  rcases h with h | ⟨h1, h2, ls, h3, h4, h5⟩
  · exact .inl h
  · exact .inr ⟨h1, h2, ls, h3.mono hF, h4, fun i c' y hc hy => hR _ _ (h5 i c' y hc hy)⟩
theorem TagsR.ext {c : Value} {u : List Tg} (h : TagsR w F c u) (x : Ext M w w') (hF : ∀ k, k < w.heap.size → F k → ¬ M k) : TagsR w' F c u := by
  obtain ⟨kvs, h1, h2, h3⟩ := h
  exact ⟨kvs, h1.ext x hF, h2, fun i y z hy hz => ⟨(h3 i y z hy hz).1, (h3 i y z hy hz).2.ext x hF⟩⟩
theorem TagsR.mono {F' : Nat → Prop} {c : Value} {u : List Tg} (h : TagsR w F c u) (hF : ∀ k, k < w.heap.size → F k → F' k) : TagsR w F' c u := by
  obtain ⟨kvs, h1, h2, h3⟩ := h
  exact ⟨kvs, h1.mono hF, h2, fun i y z hy hz => ⟨(h3 i y z hy hz).1, Sl.mono (h3 i y z hy hz).2 hF⟩⟩
theorem TagsR.nil (w : World) (F : Nat → Prop) : TagsR w F (.map none) [] := ⟨[], .none, rfl, by simp⟩
end
/-! ## Tags are counted and appended -/
theorem Tags_Len_does {w : World} {F : Nat → Prop} {p o : Nat} {c : Value} {u : List Tg} (hp : w.cell? ⟨p, o, none⟩ = some c) (hu : TagsR w F c u) : Does X.P 74 #[.pointer (some ⟨p, o, none⟩)] w fun r w' => r = .int .i64 (u.length : Nat) ∧ w' = w := by
  obtain ⟨kvs, hm, hlen, _⟩ := hu
  cases hm with
  | none =>
    refine Does.mono (Tags_Len_nil hp) ?_
    rintro r w' ⟨rfl, rfl⟩
    rw [← hlen]
    exact ⟨rfl, rfl⟩
  | some b kvs hb hf =>
    refine Does.mono (Tags_Len_some hp hb) ?_
    rintro r w' ⟨rfl, rfl⟩
    rw [← hlen]
    exact ⟨rfl, rfl⟩
theorem Each_none {w : World} {p o : Nat} {f : Value} (hp : w.cell? ⟨p, o, none⟩ = some (.map none)) :
    Does X.P 102 #[.pointer (some ⟨p, o, none⟩), f] w fun r w' => w' = w := by
  refine Does.go (X := X) (l := [_, _]) Tryz.func102 rfl (by kernel_rfl) (by kernel_rfl) _ rfl ?_
  ((conv=>whnf);repeat(first|(refine mvT ?_;conv=>whnf)|(refine mvF ?_;conv=>whnf)|(refine cT (by rfl) ?_;conv=>whnf)|(refine cF (by rfl) ?_;conv=>whnf)))
  refine ⟨_, ld hp (by omega), ?_⟩
  ((conv=>whnf);repeat(first|(refine mvT ?_;conv=>whnf)|(refine mvF ?_;conv=>whnf)|(refine cT (by rfl) ?_;conv=>whnf)|(refine cF (by rfl) ?_;conv=>whnf)))
  refine ⟨0, rfl, ?_⟩
  ((conv=>whnf);repeat(first|(refine mvT ?_;conv=>whnf)|(refine mvF ?_;conv=>whnf)|(refine cT (by rfl) ?_;conv=>whnf)|(refine cF (by rfl) ?_;conv=>whnf)))
def tagZ (u : List Tg) : Nat := (u.map fun x => 20 + x.2.length).sum
theorem tagZ_take (u : List Tg) (i : Nat) (x : Tg) (h : u[i]? = some x) (hk : ∀ x, x ∈ u → x.1 < 4294967296 ∧ x.2.length < 4294967296) : ((u.take i).flatMap tagB).length + (20 + x.2.length) ≤ tagZ u := by
  induction u generalizing i with
  | nil => simp at h
  | cons y r ih =>
    have hy := hk y (by simp)
    have hyl : (tagB y).length ≤ 20 + y.2.length := by
      have h1 := uvar10 (n := y.1) (by omega)
      have h2 := uvar10 (n := y.2.length) (by omega)
      unfold tagB
      simp only [List.length_append]
      omega
    have hz : tagZ (y :: r) = (20 + y.2.length) + tagZ r := by simp [tagZ]
    cases i with
    | zero =>
      simp only [List.getElem?_cons_zero, Option.some.injEq] at h
      subst h
      simp only [List.take_zero, List.flatMap_nil, List.length_nil]
      omega
    | succ i =>
      have := ih i (by simpa using h) fun z hz => hk z (by simp [hz])
      rw [List.take_succ_cons, List.flatMap_cons, List.length_append]
      omega
theorem tagZ_le {u : List Tg} (h : TagOK u) : tagZ u ≤ 1074331629 := by
  have : ∀ (l : List Tg), (∀ x, x ∈ l → x.2.length ≤ 32767) → tagZ l ≤ l.length * 32787 := by
    intro l
    induction l with
    | nil => simp [tagZ]
    | cons y r ih =>
      intro hl
      have h1 := hl y (by simp)
      have h2 := ih fun z hz => hl z (by simp [hz])
      have hz : tagZ (y :: r) = (20 + y.2.length) + tagZ r := by simp [tagZ]
      rw [hz, List.length_cons, Nat.add_mul]
      omega
  have h1 := this u h.val
  have h2 : u.length * 32787 ≤ 1074331629 := Nat.le_trans (Nat.mul_le_mul_right _ h.len) (by decide)
  exact Nat.le_trans h1 h2
theorem AppendEach_does {w : World} {F : Nat → Prop} {p o B : Nat} {c v : Value} {l : List UInt8} {u : List Tg} (hp : w.cell? ⟨p, o, none⟩ = some c) (hu : TagsR w F c u) (hk : TagOK u) (h : OB w B v l) (hB : B ≤ w.heap.size)
    (hpv : v.ownBlock ≠ some p) (hF : ∀ j, j < w.heap.size → F j → v.ownBlock ≠ some j) (hl : l.length + 1074331650 ≤ 70368744177664) :
    Does X.P 75 #[.pointer (some ⟨p, o, none⟩), v] w fun r w' => Apd w B v l (u.flatMap tagB) r w' := by
  have hplt := World.block_lt_of_cell? w _ hp
  simp only at hplt
  have hz := tagZ_le hk
  obtain ⟨av, cv, rfl, _⟩ := h.shape
  generalize hvv : Value.slice av l.length cv = v at *
  have hcell1 : v.cells.toList = [v] := by rw [← hvv]; rfl
  refine Does.go (X := X) (l := [_, _]) Tryz.func75 rfl (by kernel_rfl) (by kernel_rfl) _ rfl ?_
  ((conv=>whnf);repeat(first|(refine mvT ?_;conv=>whnf)|(refine mvF ?_;conv=>whnf)|(refine cT (by rfl) ?_;conv=>whnf)|(refine cF (by rfl) ?_;conv=>whnf)))
  intro q w1 hq ho hx
  rw [hcell1] at ho
  ((conv=>whnf);repeat(first|(refine mvT ?_;conv=>whnf)|(refine mvF ?_;conv=>whnf)|(refine cT (by rfl) ?_;conv=>whnf)|(refine cF (by rfl) ?_;conv=>whnf)))
  obtain ⟨kvs, hm, hlen, hkv⟩ := hu
  have hvq : v.ownBlock ≠ some q := fun e => by have := h.own.lt q e; omega
  have hfin : ∀ {T : TypeId} {v' : Value} {w' : World}, Own w' q T [v'] → Grew w1 B q v l (u.flatMap tagB) v' w' → Apd w B v l (u.flatMap tagB) v' w' := by
    intro T v' w' _ g
    refine ⟨g.ob, (hx.mono fun _ _ f => f.elim).trans g.ext fun k hk hr => ?_, ?_⟩
    · rcases hr with rfl | hr
      · omega
      · exact hr
    · rcases g.blk with e | ⟨k, e, hle⟩
      · exact .inl e
      · exact .inr ⟨k, e, Nat.le_trans hx.size hle⟩
  cases hm with
  | none =>
    have hu0 : u = [] := List.eq_nil_of_length_eq_zero (by simpa using hlen.symm)
    subst hu0
    refine Does.mono (Each_none (hx.cell hp fun h => h)) ?_
    rintro r w2 rfl
    ((conv=>whnf);repeat(first|(refine mvT ?_;conv=>whnf)|(refine mvF ?_;conv=>whnf)|(refine cT (by rfl) ?_;conv=>whnf)|(refine cF (by rfl) ?_;conv=>whnf)))
    refine ldS (ho.cell rfl) ?_;((conv=>whnf);repeat(first|(refine mvT ?_;conv=>whnf)|(refine mvF ?_;conv=>whnf)|(refine cT (by rfl) ?_;conv=>whnf)|(refine cF (by rfl) ?_;conv=>whnf)))
    exact hfin ho (Grew.start (h.e0 hx))
  | some b kvs hb hf =>
    have hblt := hb.lt
    have hkeys : kvs.map Prod.fst = u.map Prod.fst := by
      apply List.ext_getElem
      · simpa using hlen
      · intro i h1 h2
        simp only [List.length_map] at h1 h2
        have := (hkv i kvs[i] u[i] (by simp [h1]) (by simp [h2])).1
        simpa using this
    have hrise : kvs.Pairwise fun a b => a.1 < b.1 := by
      have h1 : (u.map Prod.fst).Pairwise (· < ·) := List.pairwise_map.2 hk.rise
      rw [← hkeys] at h1
      exact List.pairwise_map.1 h1
    have hnd : (kvs.map Prod.fst).Nodup := by
      refine List.pairwise_map.2 (hrise.imp fun h => by omega)
    have hklt : ∀ y, y ∈ kvs → y.1 < 2 ^ 32 := by
      intro y hy
      have : y.1 ∈ u.map Prod.fst := by rw [← hkeys]; exact List.mem_map.2 ⟨y, hy, rfl⟩
      obtain ⟨x, hx, e⟩ := List.mem_map.1 this
      rw [← e]
      exact hk.key x hx
    have hx1 : w.heap.size ≤ w1.heap.size := hx.size
    have hqlt := ho.lt
    refine Does.mono (Each_some (M := fun j => j = q ∨ v.ownBlock = some j) (fun N done w' => ∃ v', Own w' q 22 [v'] ∧ Grew w1 B q v l ((u.take done.length).flatMap tagB) v' w' ∧ ∀ j, v'.ownBlock = some j → v.ownBlock = some j ∨ N ≤ j)
      (hx.cell hp fun h => h) (hb.ext hx fun h => h) hklt hnd (by have := hk.len; omega) ⟨?_, ?_, ?_⟩ ?_ ?_) ?_
    · rintro (h | h)
      · omega
      · exact hpv h
    · rintro (h | h)
      · omega
      · exact hF b hblt hf h
    · rintro j (rfl | hj)
      · exact hqlt
      · exact Nat.lt_of_lt_of_le (h.own.lt j hj) hx1
    · intro w2 hx2
      exact ⟨v, ho.e0 hx2, Grew.start ((h.e0 hx).e0 hx2) |>.pre0 hx2, fun j hj => .inl hj⟩
    · rintro N done y rest w2 hperm hpw ⟨v', ho2, g2, hvN⟩ hN1 hN2 hx2
      have heq : done ++ y :: rest = kvs := hperm.eq_of_pairwise (le := fun a b => a.1 < b.1) (fun a b _ _ h1 h2 => by omega) hpw hrise
      have hdl : done.length < kvs.length := by rw [← heq]; simp
      have hy : kvs[done.length]? = some y := by rw [← heq]; simp
      obtain ⟨x, hxu⟩ : ∃ x, u[done.length]? = some x := ⟨u[done.length], by simp [← hlen, hdl]⟩
      obtain ⟨hyx, hbx⟩ := hkv _ y x hy hxu
      have hxm := List.mem_of_getElem? hxu
      have hxk := hk.key x hxm
      have hxv := hk.val x hxm
      have hzz := tagZ_take u done.length x hxu fun z hz => ⟨hk.key z hz, by have := hk.val z hz; omega⟩
      have hbx0 : Bytes w (fun j => F j ∧ j < w.heap.size) y.2 x.2 := Sl.mono hbx fun j hj hf => ⟨hf, hj⟩
      have hbx2 := (hbx0.e0 hx).ext hx2 fun j _ hh h3 => by
        obtain ⟨h1, h2⟩ := hh
        rcases h3 with (h3 | h3) | h3
        · omega
        · exact hF j h2 h1 h3
        · omega
      have hpq : v'.ownBlock ≠ some q := by
        intro e
        rcases hvN q e with e | e
        · exact hvq e
        · omega
      have hsz2 := hx2.size
      rw [hyx]
      refine Does.mono (each1_does (F := fun j => F j ∧ j < w.heap.size) (B := B) (k := x.1) (m := x.2) ho2 g2.ob (by omega) hpq hbx2 (fun j hj hh => And.intro (by have := hh.2; omega) (fun e => ?_)) hxk (by omega) (by rw [List.length_append]; omega)) ?_
      · rcases hvN j e with e | e
        · exact hF j hh.2 hh.1 e
        · have := hh.2
          omega
      rintro r w3 ⟨v3, ho3, g3⟩
      have htk : (u.take (done ++ [y]).length).flatMap tagB = (u.take done.length).flatMap tagB ++ tagB x := by
        rw [List.length_append, List.length_singleton, List.take_add_one, hxu, List.flatMap_append]
        simp
      refine ⟨⟨v3, ho3, ?_, ?_⟩, ?_⟩
      · rw [htk]
        exact g2.tr g3
      · intro j hj
        rcases g3.blk with e | ⟨k, e, hle⟩
        · exact hvN j (e ▸ hj)
        · rw [e, Option.some.injEq] at hj
          omega
      · refine g3.ext.mono fun j _ hj => ?_
        rcases hj with hj | hj
        · exact .inl (.inl hj)
        · rcases hvN j hj with e | e
          · exact .inl (.inr e)
          · exact .inr e
    · rintro r w2 ⟨N, ds, hds, hdp, ⟨v', ho2, g2, _⟩, _, _⟩
      ((conv=>whnf);repeat(first|(refine mvT ?_;conv=>whnf)|(refine mvF ?_;conv=>whnf)|(refine cT (by rfl) ?_;conv=>whnf)|(refine cF (by rfl) ?_;conv=>whnf)))
      refine ldS (ho2.cell rfl) ?_;((conv=>whnf);repeat(first|(refine mvT ?_;conv=>whnf)|(refine mvF ?_;conv=>whnf)|(refine cT (by rfl) ?_;conv=>whnf)|(refine cF (by rfl) ?_;conv=>whnf)))
      have : u.take ds.length = u := by rw [hds.length_eq, hlen, List.take_length]
      rw [this] at g2
      exact hfin ho2 g2
end Go.Proofs.YtbcjhghfmhdafaaGreat.K
