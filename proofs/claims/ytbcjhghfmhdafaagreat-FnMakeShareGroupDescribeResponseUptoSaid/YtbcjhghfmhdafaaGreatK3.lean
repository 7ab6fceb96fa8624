/- Append, copy, make: what their runs come to. -/
import Derived.Test.YtbcjhghfmhdafaaGreatK2
import Derived.IntWalk
set_option linter.unusedVariables false
set_option linter.unusedSimpArgs false
namespace Go.Proofs.YtbcjhghfmhdafaaGreat.K
open Go
theorem add_lit (b o n : Nat) : (⟨b, o, none⟩ : Addr).add n = ⟨b, o + n, none⟩ := by unfold Addr.add; split <;> simp_all
theorem run_firstCells_src {P : Program} {w : World} {sz n : Nat} {v : Value} {xs : List Value} (h : Src w sz v n xs) {m : Nat} (hm : m ≤ n) :
    (Builtin.firstCells sz m v).run P w = .ok (xs.take (m * sz)).toArray w := by
  cases h with
  | empty a c =>
    have : m = 0 := by omega
    subst this
    cases a <;> simp [Builtin.firstCells, loadCells, loadCellsFrom]
  | some b o _ c _ hl hx =>
    have hlen : (xs.take (m * sz)).length = m * sz := by rw [List.length_take, hl]; exact Nat.min_eq_left (Nat.mul_le_mul_right _ hm)
    refine run_firstCells_some (P := P) w sz m ⟨b, o, .none⟩ n c (xs.take (m * sz)) hlen (fun j u hj => ?_)
    rw [add_lit]
    refine hx j u ?_
    rw [List.getElem?_take] at hj
    split at hj
    · exact hj
    · cases hj
  | string s hs =>
    subst hs
    simp only [Builtin.firstCells, Sem.run_pure, Nat.mul_one]
    congr 1
    apply Array.ext'
    simp only [Array.toList_map]
    have : (s.extract 0 m).data.toList = s.data.toList.take m := by
      simp [ByteArray.data_extract]
    rw [this, List.map_take]
theorem Src.lenOf {P : Program} {w : World} {sz n : Nat} {v : Value} {xs : List Value} (h : Src w sz v n xs) : (Builtin.lenOf v).run P w = .ok n w := by
  cases h <;> simp [Builtin.lenOf]
theorem Src.length {w : World} {sz n : Nat} {v : Value} {xs : List Value} (h : Src w sz v n xs) : xs.length = n * sz := by
  cases h with
  | empty a c => simp
  | some b o _ c _ hl hx => exact hl
  | string s hs => subst hs; simp
theorem Src.same {w w' : World} {sz n : Nat} {v : Value} {xs : List Value} (h : Src w sz v n xs) (hh : w'.heap = w.heap) : Src w' sz v n xs := by
  cases h with
  | empty a c => exact .empty a c
  | some b o _ c _ hl hx => exact .some b o n c xs hl (fun j u hj => by have := hx j u hj; simpa [World.cell?, hh] using this)
  | string s hs => exact .string s hs
theorem Src.ext {M : Nat → Prop} {w w' : World} {sz n : Nat} {v : Value} {xs : List Value} (h : Src w sz v n xs) (x : Ext M w w') (hb : ∀ k, v.ownBlock = Option.some k → ¬ M k) : Src w' sz v n xs := by
  cases h with
  | empty a c => exact .empty a c
  | some b o _ c _ hl hx => exact .some b o n c xs hl (hx.ext x (hb b rfl))
  | string s hs => exact .string s hs
/-- What an append leaves of the world. -/
structure Appended (w w' : World) (v v' : Value) : Prop where
  ext : Ext (fun k => v.ownBlock = some k) w w'
  blk : v'.ownBlock = v.ownBlock ∨ ∃ k, v'.ownBlock = some k ∧ w.heap.size ≤ k
  nil : v ≠ .slice none 0 0 → v' ≠ .slice none 0 0
def okCells (l : List Value) : Bool := l.all fun u => u.oneCell'
/-- The types of append's operands fit: the second is no number. -/
def appTypes (X : Pr) (tys : List TypeId) (e : TypeId) (i : TI) : Prop :=
  ∃ t u j j', tys = [t, u] ∧ tlook X.tab t = some j ∧ j.d = .slice e ∧ tlook X.tab u = some j' ∧ (∀ k, j'.d ≠ .int k) ∧ tlook X.tab e = some i
section
variable {X : Pr} {w : World}
theorem grow_own {e : TypeId} {i : TI} {inf : TypeInfo} {z : Value} {d : TypeDesc} (hr : TRow X.P e i d inf z) (hz : i.zero.length = i.size) (n m old : Nat) (xs news : List Value)
    (hx : xs.length = n * i.size) (hl : news.length = m * i.size) (h63 : n + m ≤ maxLen) :
    OwnSl (w.drew.alloc (.cells (xs.toArray ++ (news.toArray ++ Builtin.zeroCells z.cells (grownCap w (n + m) old e - (n + m)))) e)) e i.size
      (.slice (some ⟨w.heap.size, 0, none⟩) (n + m) (grownCap w (n + m) old e)) (n + m) (xs ++ news) := by
  have hge := grownCap_ge w (n + m) old e
  have hcm : grownCap w (n + m) old e ≤ maxLen := grownCap_le_maxLen w (n + m) old e h63
  have hlen : (xs ++ news).length = (n + m) * i.size := by rw [List.length_append, hx, hl, Nat.add_mul]
  have hzs : z.cells.size = i.size := by rw [← hz, ← hr.cells]; simp
  refine ⟨hlen, .inr ⟨w.heap.size, _, _, rfl, Nat.zero_le _, heap_alloc_new w.drew _, hge, hcm, ?_, ?_⟩⟩
  · simp only [Array.size_append, List.size_toArray, size_zeroCells, hzs, hx, hl, ← Nat.add_mul]
    congr 1
    omega
  · simp only [Array.toList_append]
    rw [← List.append_assoc, ← hlen]
    exact List.take_left
theorem run_append_src {tys : List TypeId} {e : TypeId} {i : TI} (ht : appTypes X tys e i) (hz : i.zero.length = i.size) (ty : TypeId) {v x : Value} {n m : Nat} {xs news : List Value}
    (hown : OwnSl w e i.size v n xs) (hsrc : Src w i.size x m news) (h1 : okCells news = true) (h63 : n + m ≤ maxLen) (hby : (n + m) * i.bytes ≤ 140737488355328) :
    ∃ v' w', (Builtin.append_ tys.toArray ty #[v, x]).run X.P w = .ok v' w' ∧ OwnSl w' e i.size v' (n + m) (xs ++ news) ∧ Appended w w' v v' := by
  obtain ⟨t, u, j, j', rfl, hj, hje, hj', hni, hi⟩ := ht
  obtain ⟨d, inf, z, hr⟩ := X.row hi
  obtain ⟨dt, inft, zt, hrt⟩ := X.row hj
  obtain ⟨du, infu, zu, hru⟩ := X.row hj'
  have hdt := hrt.desc
  rw [hje] at hdt
  cases dt <;> simp [descOf] at hdt
  have hdt' := hdt.symm
  subst hdt'
  have hdu : ∀ k, du ≠ .int k := by
    rintro k rfl
    have := hru.desc
    simp [descOf] at this
    exact hni k this.symm
  have hl := hsrc.length
  have hsmall : n + m ≤ 9223372036854775807 := by simp only [maxLen] at h63; omega
  have hf : ∀ w' : World, w'.heap = w.heap → (Builtin.firstCells i.size m x).run X.P w' = .ok news.toArray w' := by
    intro w' hw
    have := run_firstCells_src (P := X.P) (hsrc.same hw) (Nat.le_refl m)
    rwa [← hl, List.take_length] at this
  have hlen := hsrc.lenOf (P := X.P)
  have hby' : ∀ old, old < n + m → ¬ (281474976710656 < Builtin.nextslicecap (n + m) old * inf.bytes) := by
    intro old ho
    have := growslice_fits (need := n + m) (old := old) (by omega) hby
    rw [hr.bytes]
    omega
  have grown : ∀ old, old < n + m → ∀ M, (Builtin.firstCells i.size n v).run X.P w.drew = .ok xs.toArray w.drew → v = .slice M n old →
      (Builtin.append_ #[t, u] ty #[v, x]).run X.P w = .ok (.slice (some ⟨w.heap.size, 0, none⟩) (n + m) (grownCap w (n + m) old e))
        (w.drew.alloc (.cells (xs.toArray ++ (news.toArray ++ Builtin.zeroCells z.cells (grownCap w (n + m) old e - (n + m)))) e)) := by
    intro old ho M hfo hv
    have h63' : ¬ (9223372036854775807 < ((n : Int) + (m : Int))) := by omega
    have hn : ¬ (n + m ≤ old) := by omega
    have hfn := hf w.drew rfl
    rw [hv] at hfo ⊢
    (simp [Builtin.append_, hrt.run_und, hru.run_und, hr.run_size, hlen, hn, h63', hr.info, hr.zero, hby' old ho, Question.forced, hfo, hfn, newRow, grownCap, typeInfo, zeroValue])
  have hG : ∀ old, OwnSl (w.drew.alloc (.cells (xs.toArray ++ (news.toArray ++ Builtin.zeroCells z.cells (grownCap w (n + m) old e - (n + m)))) e)) e i.size
      (.slice (some ⟨w.heap.size, 0, none⟩) (n + m) (grownCap w (n + m) old e)) (n + m) (xs ++ news) := fun old => grow_own hr hz n m old xs news hown.1 hl h63
  have hE : ∀ (o : Obj) (M : Nat → Prop), Ext M w (w.drew.alloc o) := fun o M => ⟨rfl, rfl, rfl, by simp, fun k hk _ => heap_alloc_old w.drew o k hk⟩
  rcases hown.2 with ⟨hv, hn0⟩ | ⟨g, cap, cur, hv, _, hg, hnc, hcm, hcs, htake⟩
  · have hx0 : xs = [] := List.eq_nil_of_length_eq_zero (by simpa [hn0] using hown.1)
    by_cases hm : m = 0
    · have hn0' : news = [] := List.eq_nil_of_length_eq_zero (by simpa [hm] using hl)
      refine ⟨v, w, ?_, ?_, ⟨Ext.refl _ _, .inl rfl, fun h => h⟩⟩
      · have hfw := hf w rfl
        rw [hn0', hm] at hfw
        rw [hm] at hlen
        rw [hv]
        (simp [Builtin.append_, hrt.run_und, hru.run_und, hr.run_size, hlen, hfw])
      · rw [hn0', hm, List.append_nil, Nat.add_zero]
        exact hown
    · refine ⟨_, _, grown 0 (by omega) none ?_ (by rw [hv, hn0]), hG 0, ⟨hE _ _, .inr ⟨w.heap.size, rfl, Nat.le_refl _⟩, fun _ h => by simp at h⟩⟩
      rw [hv, hx0]
      simp [Builtin.firstCells]
  · by_cases hroom : n + m ≤ cap
    · have hfit : n * i.size + news.length ≤ cur.size := by rw [hl, hcs, ← Nat.add_mul]; exact Nat.mul_le_mul_right _ hroom
      have hst := run_storeCells_at X.P g (n * i.size) e news 0 cur w hg (by simpa using hfit) (fun u hu => by have := List.all_eq_true.1 h1 u hu; exact this)
      simp only [Nat.add_zero] at hst
      have hfw := hf w rfl
      have hlenx : (xs ++ news).length = (n + m) * i.size := by rw [List.length_append, hown.1, hl, Nat.add_mul]
      refine ⟨.slice (some ⟨g, 0, none⟩) (n + m) cap, w.setRow g (cur.toList.take (n * i.size) ++ news ++ cur.toList.drop (n * i.size + news.length)).toArray, ?_, ⟨hlenx, .inr ⟨g, cap, _, rfl, Nat.zero_le _, setRow_heap w g cur _ e _ hg, hroom, hcm, ?_, ?_⟩⟩, ⟨⟨rfl, rfl, rfl, by simp, fun k _ hk => setRow_other w g k _ (fun e => hk (by simp [hv, Value.ownBlock, e]))⟩, .inl (by simp [hv, Value.ownBlock]), fun _ h => by simp at h⟩⟩
      · rw [hv]
        (simp [Builtin.append_, hrt.run_und, hru.run_und, hr.run_size, hlen, hroom, hfw, Addr.add_lit, hst])
      · simp only [List.size_toArray, List.length_append, List.length_take, List.length_drop, Array.length_toList]
        omega
      · rw [htake, ← hlenx]
        exact List.take_left
    · have hfo : (Builtin.firstCells i.size n v).run X.P w.drew = .ok xs.toArray w.drew := by
        have hs := hown.sl (F := fun _ => True) (fun _ _ => trivial)
        have := run_firstCells_src (P := X.P) (hs.src.same (w' := w.drew) rfl) (Nat.le_refl n)
        rwa [← hown.1, List.take_length] at this
      exact ⟨_, _, grown cap (by omega) _ hfo hv, hG cap, ⟨hE _ _, .inr ⟨w.heap.size, rfl, Nat.le_refl _⟩, fun _ h => by simp at h⟩⟩
theorem toList_zeroCells (z : List Value) (n : Nat) (hz : 0 < z.length) : (Builtin.zeroCells z.toArray n).toList = (List.replicate n z).flatten := by
  apply List.ext_getElem?
  intro k
  have hlen : ((List.replicate n z).flatten).length = n * z.length := by simp
  by_cases hk : k < n * z.length
  · have hm : k % z.length < z.length := Nat.mod_lt _ hz
    have hd : k / z.length < n := by
      rw [Nat.div_lt_iff_lt_mul hz]
      exact hk
    have h2 : ((List.replicate n z).flatten)[k]? = z[k % z.length]? := by
      clear hlen
      induction n generalizing k with
      | zero => simp at hk
      | succ n ih =>
        rw [List.replicate_succ, List.flatten_cons]
        by_cases hlt : k < z.length
        · rw [List.getElem?_append_left hlt, Nat.mod_eq_of_lt hlt]
        · have hge : z.length ≤ k := Nat.le_of_not_lt hlt
          rw [List.getElem?_append_right hge]
          have hsub : k - z.length < n * z.length := by
            rw [Nat.succ_mul] at hk
            omega
          rw [ih (k - z.length) hsub (Nat.mod_lt _ hz) (by rw [Nat.div_lt_iff_lt_mul hz]; exact hsub)]
          congr 1
          conv => rhs; rw [← Nat.sub_add_cancel hge]
          simp
    rw [h2]
    simp only [Builtin.zeroCells, List.size_toArray, Array.toList_map, List.getElem?_map]
    rw [← nth_nat]
    have : (Array.range (n * z.length))[k]? = some k := by simp [hk]
    rw [this]
    simp [List.getElem?_eq_getElem hm]
  · have h1 : (Builtin.zeroCells z.toArray n).toList.length = n * z.length := by
      have := size_zeroCells z.toArray n
      simpa using this
    rw [List.getElem?_eq_none (by omega), List.getElem?_eq_none (by omega)]
theorem okCells_zeros {z : List Value} (h : okCells z = true) (n : Nat) : okCells (List.replicate n z).flatten = true := by
  simp only [okCells, List.all_eq_true, List.mem_flatten, List.mem_replicate] at h ⊢
  rintro x ⟨l, ⟨_, rfl⟩, hx⟩
  exact h x hx
/-- append(v, make([]T, m)...): the second operand's type is a number's. -/
theorem run_append_zeros {t u : TypeId} {j j' : TI} {k : IntKind} {e : TypeId} {i : TI} (hj : tlook X.tab t = some j) (hje : j.d = .slice e) (hj' : tlook X.tab u = some j') (hk : j'.d = .int k) (hi : tlook X.tab e = some i)
    (hz : i.zero.length = i.size) (hs : 0 < i.size) (ty : TypeId) {v : Value} {n m : Nat} {k' : IntKind} {xs : List Value}
    (hown : OwnSl w e i.size v n xs) (h1 : okCells i.zero = true) (h63 : n + m ≤ maxLen) (hby : (n + m) * i.bytes ≤ 140737488355328) :
    ∃ v' w', (Builtin.append_ #[t, u] ty #[v, .int k' (m : Int)]).run X.P w = .ok v' w' ∧ OwnSl w' e i.size v' (n + m) (xs ++ (List.replicate m i.zero).flatten) ∧ Appended w w' v v' := by
  obtain ⟨d, inf, z, hr⟩ := X.row hi
  obtain ⟨dt, inft, zt, hrt⟩ := X.row hj
  obtain ⟨du, infu, zu, hru⟩ := X.row hj'
  have hdt := hrt.desc
  rw [hje] at hdt
  cases dt <;> simp [descOf] at hdt
  have hdt' := hdt.symm
  subst hdt'
  have hdu := hru.desc
  rw [hk] at hdu
  cases du <;> simp [descOf] at hdu
  have hsmall : n + m ≤ 9223372036854775807 := by simp only [maxLen] at h63; omega
  have hz0 : 0 < i.zero.length := by omega
  have hzc : z.cells = i.zero.toArray := Array.ext' (by simpa using hr.cells)
  have hzt := fun q => toList_zeroCells i.zero q hz0
  have hzta : ∀ q, Builtin.zeroCells z.cells q = ((List.replicate q i.zero).flatten).toArray := fun q => by rw [hzc]; exact Array.ext' (by simpa using hzt q)
  have hl : ((List.replicate m i.zero).flatten).length = m * i.size := by simp [hz]
  have hmb : (m : Int) * (inf.bytes : Int) ≤ 140737488355328 := by
    rw [hr.bytes]
    have : m * i.bytes ≤ (n + m) * i.bytes := Nat.mul_le_mul_right _ (Nat.le_add_left _ _)
    have h2 : m * i.bytes ≤ 140737488355328 := Nat.le_trans this hby
    omega
  have hwrap : IntKind.i64.wrap (m : Int) = m := IntWalk.i64_in _ (by omega)
  have hw0 : IntKind.i64.wrap 0 = 0 := rfl
  have hneg : ¬ ((m : Int) < 0) := by omega
  have hbig : ¬ ((281474976710656 : Int) < (m : Int) * (inf.bytes : Int)) := by omega
  have hby' : ∀ old, old < n + m → ¬ (281474976710656 < Builtin.nextslicecap (n + m) old * inf.bytes) := by
    intro old ho
    have := growslice_fits (need := n + m) (old := old) (by omega) hby
    rw [hr.bytes]
    omega
  have hms : ∀ q, q * i.size = 0 → q = 0 := fun q hq => by
    rcases Nat.mul_eq_zero.1 hq with h | h
    · exact h
    · omega
  have h63' : ¬ (9223372036854775807 < ((n : Int) + (m : Int))) := by omega
  have grown : ∀ old, old < n + m → ∀ M, (Builtin.firstCells i.size n v).run X.P w.drew = .ok xs.toArray w.drew → v = .slice M n old →
      (Builtin.append_ #[t, u] ty #[v, .int k' (m : Int)]).run X.P w = .ok (.slice (some ⟨w.heap.size, 0, none⟩) (n + m) (grownCap w (n + m) old e))
        (w.drew.alloc (.cells (xs.toArray ++ (((List.replicate m i.zero).flatten).toArray ++ Builtin.zeroCells z.cells (grownCap w (n + m) old e - (n + m)))) e)) := by
    intro old ho M hfo hv
    have hn : ¬ (n + m ≤ old) := by omega
    rw [hv] at hfo ⊢
    by_cases h0 : m = 0
    · subst h0
      simp only [Nat.add_zero] at hn ho hby' ⊢
      have h63'' : ¬ (9223372036854775807 < (n : Int)) := by omega
      simp [Builtin.append_, hw0, hrt.run_und, hru.run_und, hr.run_size, asInt, asIntOf, hr.info, hn, h63'', hr.zero, hby' old ho, Question.forced, hfo, newRow, grownCap, typeInfo, zeroValue]
    · have h00 : ¬ (m * i.size = 0) := fun h => h0 (hms m h)
      simp [Builtin.append_, hrt.run_und, hru.run_und, hr.run_size, asInt, asIntOf, hwrap, hneg, hbig, hr.info, hn, h63', hr.zero, hby' old ho, Question.forced, hfo, newRow, grownCap, typeInfo, zeroValue, hzta]
      exact fun h => (h00 h).elim
  have hG : ∀ old, OwnSl (w.drew.alloc (.cells (xs.toArray ++ (((List.replicate m i.zero).flatten).toArray ++ Builtin.zeroCells z.cells (grownCap w (n + m) old e - (n + m)))) e)) e i.size
      (.slice (some ⟨w.heap.size, 0, none⟩) (n + m) (grownCap w (n + m) old e)) (n + m) (xs ++ (List.replicate m i.zero).flatten) := fun old => grow_own hr hz n m old xs _ hown.1 hl h63
  have hE : ∀ (o : Obj) (M : Nat → Prop), Ext M w (w.drew.alloc o) := fun o M => ⟨rfl, rfl, rfl, by simp, fun k hk _ => heap_alloc_old w.drew o k hk⟩
  rcases hown.2 with ⟨hv, hn0⟩ | ⟨g, cap, cur, hv, _, hg, hnc, hcm, hcs, htake⟩
  · have hx0 : xs = [] := List.eq_nil_of_length_eq_zero (by simpa [hn0] using hown.1)
    by_cases hm : m = 0
    · refine ⟨v, w, ?_, ?_, ⟨Ext.refl _ _, .inl rfl, fun h => h⟩⟩
      · rw [hv, hm]
        simp [Builtin.append_, hw0, hrt.run_und, hru.run_und, hr.run_size, asInt, asIntOf, hr.info, typeInfo]
      · rw [hm, List.replicate_zero, List.flatten_nil, List.append_nil, Nat.add_zero]
        exact hown
    · refine ⟨_, _, grown 0 (by omega) none ?_ (by rw [hv, hn0]), hG 0, ⟨hE _ _, .inr ⟨w.heap.size, rfl, Nat.le_refl _⟩, fun _ h => by simp at h⟩⟩
      rw [hv, hx0]
      simp [Builtin.firstCells]
  · by_cases hroom : n + m ≤ cap
    · have hfit : n * i.size + ((List.replicate m i.zero).flatten).length ≤ cur.size := by rw [hl, hcs, ← Nat.add_mul]; exact Nat.mul_le_mul_right _ hroom
      have hst := run_storeCells_at X.P g (n * i.size) e (List.replicate m i.zero).flatten 0 cur w hg (by simpa using hfit) (fun u hu => List.all_eq_true.1 (okCells_zeros h1 m) u hu)
      simp only [Nat.add_zero] at hst
      have hlenx : (xs ++ (List.replicate m i.zero).flatten).length = (n + m) * i.size := by rw [List.length_append, hown.1, hl, Nat.add_mul]
      refine ⟨.slice (some ⟨g, 0, none⟩) (n + m) cap, w.setRow g (cur.toList.take (n * i.size) ++ (List.replicate m i.zero).flatten ++ cur.toList.drop (n * i.size + ((List.replicate m i.zero).flatten).length)).toArray, ?_, ⟨hlenx, .inr ⟨g, cap, _, rfl, Nat.zero_le _, setRow_heap w g cur _ e _ hg, hroom, hcm, ?_, ?_⟩⟩, ⟨⟨rfl, rfl, rfl, by simp, fun k _ hk => setRow_other w g k _ (fun e => hk (by simp [hv, Value.ownBlock, e]))⟩, .inl (by simp [hv, Value.ownBlock]), fun _ h => by simp at h⟩⟩
      · rw [hv]
        by_cases h0 : m = 0
        · subst h0
          simp only [Nat.add_zero] at hroom
          simp only [List.replicate_zero, List.flatten_nil] at hst ⊢
          simp [Builtin.append_, hw0, hrt.run_und, hru.run_und, hr.run_size, asInt, asIntOf, hr.info, typeInfo, hroom, Addr.add_lit, hst]
        · have h00 : ¬ (m * i.size = 0) := fun h => h0 (hms m h)
          simp [Builtin.append_, hrt.run_und, hru.run_und, hr.run_size, asInt, asIntOf, hwrap, hneg, hbig, hr.info, typeInfo, hroom, Addr.add_lit, hr.run_zero, hzta, hst, h00]
      · simp only [List.size_toArray, List.length_append, List.length_take, List.length_drop, Array.length_toList]
        omega
      · rw [htake, ← hlenx]
        exact List.take_left
    · have hfo : (Builtin.firstCells i.size n v).run X.P w.drew = .ok xs.toArray w.drew := by
        have hs := hown.sl (F := fun _ => True) (fun _ _ => trivial)
        have := run_firstCells_src (P := X.P) (hs.src.same (w' := w.drew) rfl) (Nat.le_refl n)
        rwa [← hown.1, List.take_length] at this
      exact ⟨_, _, grown cap (by omega) _ hfo hv, hG cap, ⟨hE _ _, .inr ⟨w.heap.size, rfl, Nat.le_refl _⟩, fun _ h => by simp at h⟩⟩
end
end Go.Proofs.YtbcjhghfmhdafaaGreat.K
