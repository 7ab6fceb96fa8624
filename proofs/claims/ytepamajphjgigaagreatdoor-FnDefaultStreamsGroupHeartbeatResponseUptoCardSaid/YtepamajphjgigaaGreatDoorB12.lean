/- Going over the tags by rising numbers. -/
import Derived.Test.YtepamajphjgigaaGreatDoorB11
set_option linter.unusedVariables false
set_option linter.unusedSimpArgs false
namespace Go.Proofs.YtepamajphjgigaaGreatDoor.K
open Go
set_option maxHeartbeats 1600000

theorem perm_map_inv {α β : Type} (f : α → β) : ∀ (d : List β) (l : List α), d.Perm (l.map f) → ∃ l' : List α, l'.Perm l ∧ l'.map f = d
  | [], l, h => by
    have : l = [] := by simpa using (List.nil_perm.1 h)
    subst this
    exact ⟨[], List.Perm.refl _, rfl⟩
  | x :: r, l, h => by
    have hx : x ∈ l.map f := h.subset (by simp)
    obtain ⟨y, hy, rfl⟩ := List.mem_map.1 hx
    obtain ⟨s, t, rfl⟩ := List.append_of_mem hy
    have h2 : r.Perm ((s ++ t).map f) := by
      have h3 : ((s ++ y :: t).map f).Perm (f y :: (s ++ t).map f) := by
        rw [List.map_append, List.map_cons, List.map_append]
        exact List.perm_middle
      exact (List.perm_cons _).1 (h.trans h3)
    obtain ⟨l', h4, h5⟩ := perm_map_inv f r (s ++ t) h2
    exact ⟨y :: l', ((List.perm_cons y).2 h4).trans List.perm_middle.symm, by rw [List.map_cons, h5]⟩
theorem range_left {n : Nat} {seen left : List Nat} (h : (seen ++ left).Perm (List.range n)) (hall : ∀ i, i < n → i ∈ seen) : left = [] := by
  have hn : (seen ++ left).Nodup := h.nodup_iff.2 List.nodup_range
  match left, h, hn with
  | [], _, _ => rfl
  | x :: r, h, hn =>
    have hx : x ∈ List.range n := h.subset (by simp)
    have hs := hall x (by simpa using hx)
    have := (List.nodup_append.1 hn).2.2 x hs x (by simp)
    exact absurd rfl this
theorem range_add {n i : Nat} {seen left : List Nat} (h : (seen ++ left).Perm (List.range n)) (hi : i < n) (hns : i ∉ seen) : ((seen ++ [i]) ++ left.erase i).Perm (List.range n) ∧ (left.erase i).length < left.length := by
  have hm : i ∈ seen ++ left := h.symm.subset (by simpa using hi)
  have hl : i ∈ left := (List.mem_append.1 hm).resolve_left hns
  refine ⟨?_, ?_⟩
  · rw [List.append_assoc]
    exact ((List.perm_append_left_iff seen).2 (List.perm_cons_erase hl).symm).trans h
  · rw [List.length_erase_of_mem hl]
    have := List.length_pos_of_mem hl
    omega
theorem flat_u32 (d : List Int) : (d.map fun k => [Value.int .u32 k]).flatten = d.map (Value.int .u32) := by
  induction d with
  | nil => rfl
  | cons x r ih => simp [ih]
def keyI (y : Nat × Value) : Int := (y.1 : Int)
theorem map_range_keys (kvs : List (Nat × Value)) : (List.range kvs.length).map (fun i => keyI (kvs.getD i (0, undef))) = kvs.map keyI := by
  apply List.ext_getElem
  · simp
  · intro i h1 h2
    simp at h1
    simp [List.getD_eq_getElem?_getD, h1]
theorem Each_some {w : World} {M : Nat → Prop} {p o b g : Nat} {kvs : List (Nat × Value)} {first cap : Array Value} (Inv : Nat → List (Nat × Value) → World → Prop)
    (hp : w.cell? ⟨p, o, none⟩ = some (.map (some b))) (hb : MapO w b kvs) (hk : ∀ y, y ∈ kvs → y.1 < 2 ^ 32) (hnd : (kvs.map Prod.fst).Nodup) (hlen : kvs.length ≤ 1000000)
    (hM : ¬ M p ∧ ¬ M b ∧ ∀ j, M j → j < w.heap.size)
    (h0 : ∀ w', Ext nob w w' → Inv w'.heap.size [] w')
    (hI : ∀ N done y rest w', (done ++ y :: rest).Perm kvs → (done ++ y :: rest).Pairwise (fun a b => a.1 < b.1) → Inv N done w' → w.heap.size ≤ N → N ≤ w'.heap.size → Ext (fun j => M j ∨ N ≤ j) w w' → Does X.P g (first.toList ++ [.int .u32 (y.1 : Int), y.2] ++ cap.toList).toArray w' fun _ w'' => Inv N (done ++ [y]) w'' ∧ Ext (fun j => M j ∨ N ≤ j) w' w'') :
    Does X.P 35 #[.pointer (some ⟨p, o, none⟩), .func (.func g) first cap] w fun r w' => ∃ N ds, ds.Perm kvs ∧ ds.Pairwise (fun a b => a.1 < b.1) ∧ Inv N ds w' ∧ Ext (fun j => M j ∨ N ≤ j) w w' ∧ w.heap.size ≤ N := by
  have hplt := World.block_lt_of_cell? w _ hp
  have hblt := hb.lt
  simp only at hplt
  obtain ⟨hMp, hMb, hMl⟩ := hM
  refine Does.go (X := X) (l := [_, _]) Tryz.func35 rfl (by kernel_rfl) (by kernel_rfl) _ rfl ?_
  ((conv=>whnf);repeat((first|refine mvT ?_|refine mvF ?_|refine yT ?_|refine yF ?_);conv=>whnf))
  refine ⟨_, ld hp (by omega), ?_⟩
  ((conv=>whnf);repeat((first|refine mvT ?_|refine mvF ?_|refine yT ?_|refine yF ?_);conv=>whnf))
  refine ⟨kvs.length, hb.len, ?_⟩
  ((conv=>whnf);repeat((first|refine mvT ?_|refine mvF ?_|refine yT ?_|refine yF ?_);conv=>whnf))
  refine cI (by rfl) (fun h1=>?_) (fun h1=>?_)
  · have hl0 : kvs.length = 0 := by have := of_decide_eq_true h1; omega
    have hn0 : kvs = [] := List.eq_nil_of_length_eq_zero hl0
    subst hn0
    ((conv=>whnf);repeat((first|refine mvT ?_|refine mvF ?_|refine yT ?_|refine yF ?_);conv=>whnf))
    exact ⟨_, [], List.Perm.refl _, List.Pairwise.nil, h0 w (Ext.refl _ _), Ext.refl _ _, Nat.le_refl _⟩
  have hpos : 0 < kvs.length := by have := of_decide_eq_false h1; omega
  ((conv=>whnf);repeat((first|refine mvT ?_|refine mvF ?_|refine yT ?_|refine yF ?_);conv=>whnf))
  refine ⟨_, ld hp (by omega), ?_⟩
  ((conv=>whnf);repeat((first|refine mvT ?_|refine mvF ?_|refine yT ?_|refine yF ?_);conv=>whnf))
  refine ⟨kvs.length, hb.len, ?_⟩
  ((conv=>whnf);repeat((first|refine mvT ?_|refine mvF ?_|refine yT ?_|refine yF ?_);conv=>whnf))
  refine ⟨⟨by omega, by omega, by omega, by simp only [Int.toNat_natCast]; omega⟩, ⟨by decide, rfl⟩, ?_⟩
  intro b1 w1 hb1 ho1 hx1
  ((conv=>whnf);repeat((first|refine mvT ?_|refine mvF ?_|refine yT ?_|refine yF ?_);conv=>whnf))
  intro pv w2 hpv ho2 hx2
  have hs1 := hx1.size
  have hs2 := hx2.size
  have hl1 := ho1.lt
  have hl2 := ho2.lt
  ((conv=>whnf);repeat((first|refine mvT ?_|refine mvF ?_|refine yT ?_|refine yF ?_);conv=>whnf))
  refine st_cell (o := 0) (v := .slice (some ⟨b1, 0, none⟩) 0 kvs.length) ho2 rfl (by omega) rfl (by simp) rfl ?_
  intro w3 ho3 hx3
  have hx03 : Ext nob w w3 := (hx1.e0 hx2).trans hx3 fun k hk e => by omega
  have hos3 := OSl.mk0 (sz := 1) (n := kvs.length) ((ho1.e0 hx2).ext hx3 (by omega)) (by simp) (by rw [maxLen_eq]; omega) (B := w.heap.size) (by omega)
  ((conv=>whnf);repeat((first|refine mvT ?_|refine mvF ?_|refine yT ?_|refine yF ?_);conv=>whnf))
  refine ⟨_, ld (hx03.cell hp fun h => h) (by omega), ?_⟩
  ((conv=>whnf);repeat((first|refine mvT ?_|refine mvF ?_|refine yT ?_|refine yF ?_);conv=>whnf))
  refine range_map rfl rfl rfl (hb.ext hx03 fun h => h) fun r w4 hr hi4 hx4 => ?_
  have hx04 := hx03.e0 hx4
  have hs3 := hx3.size
  ((conv=>whnf);repeat((first|refine mvT ?_|refine mvF ?_|refine yT ?_|refine yF ?_);conv=>whnf))
  refine VL.loop (fun s : List Nat × List Nat × Value => [(0, .pointer (some ⟨p, o, none⟩)), (1, .func (.func g) first cap), (4, .pointer (some ⟨pv, 0, none⟩)), (24, .pointer (some ⟨r, 0, none⟩))])
    (fun s w' => (Ext nob w w' ∧ (s.1 ++ s.2.1).Perm (List.range kvs.length) ∧ s.2.2.ownBlock ≠ some pv ∧ s.2.2.ownBlock ≠ some r) ∧ IterO w' r b kvs.length s.1 ∧ Own w' pv 129 [s.2.2] ∧ OSl w' w.heap.size 60 1 s.2.2 ((s.1.map fun i => keyI (kvs.getD i (0, undef))).map fun k => [.int .u32 k])) (fun s => s.2.1.length) ([], List.range kvs.length, .slice (some ⟨b1, 0, none⟩) 0 kvs.length)
    ⟨rfl, rfl, rfl, rfl, trivial⟩ ⟨⟨hx04, by simp, by simp [Value.ownBlock]; omega, by simp [Value.ownBlock]; omega⟩, hi4, ho3.e0 hx4, hos3.e0 hx4⟩ ?_
  rintro ⟨seen, left, sl⟩ w5 ⟨⟨hx05, hperm, hne1, hne2⟩, hi5, ho5, hos5⟩
  dsimp only at hperm hi5 ho5 hos5 hne1 hne2
  have hb5 := hb.ext hx05 fun h => h
  ((conv=>whnf);repeat((first|refine mvT ?_|refine mvF ?_|refine yT ?_|refine yF ?_);conv=>whnf))
  refine next_map rfl rfl hb5 hi5 (by omega) (fun hall => ?_) (fun i y hy hns w6 hi6 hx6 => ?_)
  · have hleft := range_left hperm hall
    subst hleft
    rw [List.append_nil] at hperm
    generalize hd : seen.map (fun i => keyI (kvs.getD i (0, undef))) = d at hos5
    have hdk : d.Perm (kvs.map keyI) := by
      rw [← hd, ← map_range_keys]
      exact hperm.map _
    have hdl : d.length = kvs.length := by rw [hdk.length_eq, List.length_map]
    have hown := hos5.own
    rw [show ((d.map fun k => [Value.int .u32 k]).length) = d.length by simp, flat_u32] at hown
    obtain ⟨blk, c, rest, rfl, hrow⟩ := hown.row (by omega)
    have hbk : w.heap.size ≤ blk := hos5.blk blk rfl
    have hnepv : pv ≠ blk := fun e => hne1 (by rw [e]; rfl)
    ((conv=>whnf);repeat((first|refine mvT ?_|refine mvF ?_|refine yT ?_|refine yF ?_);conv=>whnf))
    refine ldS (ho5.cell rfl) ?_;((conv=>whnf);repeat((first|refine mvT ?_|refine mvF ?_|refine yT ?_|refine yF ?_);conv=>whnf))
    refine Does.mono (sort_keys (by omega) hrow ho5 hnepv) ?_;rintro r6 w6 ⟨d', hp6, hs6, ho6, hx6⟩;((conv=>whnf);repeat((first|refine mvT ?_|refine mvF ?_|refine yT ?_|refine yF ?_);conv=>whnf))
    have ho56 := ho5.ext hx6 hnepv
    have hx06 : Ext nob w w6 := hx05.trans hx6 fun k hk e => by omega
    have hb6 := hb.ext hx06 fun h => h
    obtain ⟨ds, hds, hdsk⟩ := perm_map_inv keyI d' kvs (hp6.trans hdk)
    have hdsl : ds.length = kvs.length := hds.length_eq
    have hsz6 := hx06.size
    have hord : ds.Pairwise (fun a b => a.1 < b.1) := by
      have h1 : ds.Pairwise (fun a b => keyI a ≤ keyI b) := by rw [← hdsk] at hs6; exact List.pairwise_map.1 hs6
      have h2 : (ds.map Prod.fst).Nodup := (hds.map Prod.fst).nodup_iff.2 hnd
      have h3 : ds.Pairwise (fun a b => a.1 ≠ b.1) := List.pairwise_map.1 h2
      refine (h1.and h3).imp ?_
      rintro a b ⟨h4, h5⟩
      simp only [keyI] at h4
      omega
    refine ldS (ho56.cell rfl) ?_;((conv=>whnf);repeat((first|refine mvT ?_|refine mvF ?_|refine yT ?_|refine yF ?_);conv=>whnf))
    refine VL.loop (fun i : Nat => [(0, .pointer (some ⟨p, o, none⟩)), (1, .func (.func g) first cap), (37, .slice (some ⟨blk, 0, none⟩) d.length c), (38, .int .i64 (d.length : Int)), (39, .int .i64 (i : Int))])
      (fun i w' => (Ext (fun j => M j ∨ w6.heap.size ≤ j) w6 w' ∧ i ≤ ds.length) ∧ Inv w6.heap.size (ds.take i) w') (fun i => ds.length - i) 0
      ⟨rfl, rfl, rfl, rfl, rfl, trivial⟩ ⟨⟨Ext.refl _ _, Nat.zero_le _⟩, h0 w6 hx06⟩ ?_
    rintro i w7 ⟨⟨hx67, hi⟩, hinv⟩
    have hx07 : Ext (fun j => M j ∨ w6.heap.size ≤ j) w w7 := (hx06.mono fun _ _ f => f.elim).trans hx67 fun _ _ h => h
    have hsz7 := hx67.size
    ((conv=>whnf);repeat((first|refine mvT ?_|refine mvF ?_|refine yT ?_|refine yF ?_);conv=>whnf))
    refine cI (by rfl) (fun h9=>?_) (fun h9=>?_)
    · have hil : i < ds.length := by have := of_decide_eq_true h9; omega
      have ho7 := ho6.ext hx67 (by have := ho6.lt; intro h; rcases h with h | h; (have := hMl _ h; omega); omega)
      have hb7 := hb.ext hx07 (by intro h; rcases h with h | h; (exact hMb h); omega)
      have hp7 := hx07.cell hp (by intro h; rcases h with h | h; (exact hMp h); omega)
      have hd'i : d'[i]? = some (keyI ds[i]) := by rw [← hdsk]; simp [hil]
      ((conv=>whnf);repeat((first|refine mvT ?_|refine mvF ?_|refine yT ?_|refine yF ?_);conv=>whnf))
      refine ⟨blk, 0, rfl, ⟨by omega, by omega⟩, ?_⟩
      ((conv=>whnf);repeat((first|refine mvT ?_|refine mvF ?_|refine yT ?_|refine yF ?_);conv=>whnf))
      have hc7 : w7.cell? ⟨blk, i, none⟩ = some (.int .u32 (keyI ds[i])) := ho7.cell (by
        have : i < (d'.map (Value.int .u32)).length := by rw [List.length_map, ← hdsk, List.length_map]; exact hil
        rw [List.getElem?_append_left this, List.getElem?_map, hd'i]
        rfl)
      refine ⟨_, ld hc7 (by simp), ?_⟩
      ((conv=>whnf);repeat((first|refine mvT ?_|refine mvF ?_|refine yT ?_|refine yF ?_);conv=>whnf))
      refine ⟨_, ld hp7 (by omega), ?_⟩
      ((conv=>whnf);repeat((first|refine mvT ?_|refine mvF ?_|refine yT ?_|refine yF ?_);conv=>whnf))
      refine lookup_map (y := ds[i]) rfl rfl rfl rfl rfl hb7 hnd (hds.subset (List.getElem_mem hil)) ?_
      ((conv=>whnf);repeat((first|refine mvT ?_|refine mvF ?_|refine yT ?_|refine yF ?_);conv=>whnf))
      have hsplit : ds.take i ++ ds[i] :: ds.drop (i + 1) = ds := by rw [List.getElem_cons_drop, List.take_append_drop]
      refine Does.mono (hI w6.heap.size (ds.take i) ds[i] (ds.drop (i + 1)) w7 (by rw [hsplit]; exact hds) (by rw [hsplit]; exact hord) hinv hsz6 hsz7 hx07) ?_
      rintro r8 w8 ⟨hinv8, hx8⟩
      ((conv=>whnf);repeat((first|refine mvT ?_|refine mvF ?_|refine yT ?_|refine yF ?_);conv=>whnf))
      refine ⟨i + 1, ⟨rfl, rfl, rfl, rfl, inc_eq (by omega), trivial⟩, ⟨⟨hx67.trans hx8 fun _ _ h => h, by omega⟩, ?_⟩, by omega⟩
      rw [List.take_succ_eq_append_getElem hil]
      exact hinv8
    · have hil : i = ds.length := by have := of_decide_eq_false h9; omega
      ((conv=>whnf);repeat((first|refine mvT ?_|refine mvF ?_|refine yT ?_|refine yF ?_);conv=>whnf))
      subst hil
      rw [List.take_length] at hinv
      exact ⟨w6.heap.size, ds, hds, hord, hinv, hx07, hsz6⟩
  · have hil := (List.getElem?_eq_some_iff.1 hy).1
    ((conv=>whnf);repeat((first|refine mvT ?_|refine mvF ?_|refine yT ?_|refine yF ?_);conv=>whnf))
    refine entry_map rfl rfl (hb5.ext hx6 (by omega)) hi6 hy ?_
    ((conv=>whnf);repeat((first|refine mvT ?_|refine mvF ?_|refine yT ?_|refine yF ?_);conv=>whnf))
    refine ldS ((ho5.ext hx6 (by omega)).cell rfl) ?_;((conv=>whnf);repeat((first|refine mvT ?_|refine mvF ?_|refine yT ?_|refine yF ?_);conv=>whnf))
    intro b7 w7 hb7 ho7 hx7
    have hx57 : Ext (fun k => k = r) w5 w7 := hx6.tr0 hx7
    have hos7 := hos5.ext hx57 fun k hk e => hne2 (e ▸ hk)
    have ho57 := ho5.ext hx57 (by omega)
    have hleq : ((seen.map fun i => keyI (kvs.getD i (0, undef))).map fun k => [Value.int .u32 k]).length = seen.length := by simp
    have hperml := hperm.length_eq
    rw [List.length_append, List.length_range] at hperml
    have hsz7 := hx57.size
    have hsz5 := hx05.size
    ((conv=>whnf);repeat((first|refine mvT ?_|refine mvF ?_|refine yT ?_|refine yF ?_);conv=>whnf))
    refine app_struct (ms := [[.int .u32 (y.1 : Int)]]) rfl hos7 (src_one ho7 rfl rfl) (by simp) rfl rfl ⟨by rw [hleq]; simp only [List.length_singleton]; omega, by rw [hleq]; simp only [List.length_singleton]; omega⟩ (by omega) ?_
    intro v8 w8 hos8 hx8 hb8 _
    have hne18 : v8.ownBlock ≠ some pv := by
      intro h
      rcases hb8 with e | ⟨q, hq, hle⟩
      · exact hne1 (e ▸ h)
      · rw [hq, Option.some.injEq] at h
        have := ho57.lt
        omega
    have hi7 := IterO.ext hi6 hx7 fun h => h
    have hne28 : v8.ownBlock ≠ some r := by
      intro h
      rcases hb8 with e | ⟨q, hq, hle⟩
      · exact hne2 (e ▸ h)
      · rw [hq, Option.some.injEq] at h
        have := (Array.getElem?_eq_some_iff.1 hi7).1
        omega
    obtain ⟨a8, c8, rfl, _⟩ := hos8.shape
    have ho58 := ho57.ext hx8 hne1
    ((conv=>whnf);repeat((first|refine mvT ?_|refine mvF ?_|refine yT ?_|refine yF ?_);conv=>whnf))
    refine st_cell (o := 0) (v := .slice a8 _ c8) ho58 rfl (by omega) rfl (by simp) rfl ?_
    intro w9 ho9 hx9
    have hos9 := hos8.ext hx9 fun k hk e => hne18 (e ▸ hk)
    have hx09 : Ext nob w w9 := ((hx05.trans hx57 fun k hk e => by omega).trans hx8 fun k hk e => by have := hos7.blk k e; omega).trans hx9 fun k hk e => by omega
    ((conv=>whnf);repeat((first|refine mvT ?_|refine mvF ?_|refine yT ?_|refine yF ?_);conv=>whnf))
    refine ⟨(seen ++ [i], left.erase i, _), ⟨rfl, rfl, rfl, rfl, trivial⟩, ⟨⟨hx09, (range_add hperm hil hns).1, hne18, hne28⟩, ?_, ho9, ?_⟩, (range_add hperm hil hns).2⟩
    · exact IterO.ext (IterO.ext hi7 hx8 hne2) hx9 (by omega)
    · rw [List.map_append, List.map_append]
      have e : keyI (kvs.getD i (0, undef)) = (y.1 : Int) := by rw [List.getD_eq_getElem?_getD, hy]; rfl
      simp only [List.map_cons, List.map_nil, e]
      exact hos9
end Go.Proofs.YtepamajphjgigaaGreatDoor.K
