/- What is read of the arguments, with its size. -/
import Derived.Test.YtepamajphjgigaaGreatDoorR0
import Derived.Test.YtepamajphjgigaaGreatDoorP1
set_option linter.unusedVariables false
set_option linter.unusedSimpArgs false
namespace Go.Proofs.YtepamajphjgigaaGreatDoor.K
open Go Go.ChangeShapes Go.WideShapes Go.ChangeAt Go.RowKit
set_option maxHeartbeats 800000
set_option maxRecDepth 100000

section
variable {H : Type}
theorem one_leW (d : DataW H) : 1 ≤ Rows.uptoBulk d := by
  cases d with
  | lit l => cases l <;> simp [Rows.uptoBulk]
  | _ => simp [Rows.uptoBulk]
theorem part_leW {d : DataW H} : ∀ {l : List (DataW H)}, d ∈ l → Rows.uptoBulk d ≤ Rows.uptoBulkAll l
  | x :: r, h => by
    rcases List.mem_cons.1 h with rfl | h
    · simp only [Rows.uptoBulkAll]; omega
    · have := part_leW h
      simp only [Rows.uptoBulkAll]; omega
theorem length_leW : ∀ (l : List (DataW H)), l.length ≤ Rows.uptoBulkAll l
  | [] => by simp
  | x :: r => by
    have h1 := one_leW x
    have h2 := length_leW r
    simp only [Rows.uptoBulkAll, List.length_cons]; omega
theorem slice_elemsW (elems spare : List (DataW H)) : Rows.uptoBulkAll elems + 1 ≤ Rows.uptoBulk (.slice elems spare) := by
  simp only [Rows.uptoBulk]; omega
theorem slice_leW (elems spare : List (DataW H)) : elems.length + 1 ≤ Rows.uptoBulk (.slice elems spare) := by
  have := length_leW elems
  have := slice_elemsW elems spare
  omega
theorem wtU_map (f : Nat → Tg) (D : Nat → DataW H) : ∀ (l : List Nat), (∀ i, i ∈ l → 1 + (f i).2.length ≤ Rows.uptoBulk (D i)) → wtU (l.map f) ≤ Rows.uptoBulkAll (l.map D)
  | [], _ => by simp [wtU, Rows.uptoBulkAll]
  | i :: r, h => by
    have h1 := h i (by simp)
    have h2 := wtU_map f D r fun j hj => h j (by simp [hj])
    simp only [List.map_cons, wtU, Rows.uptoBulkAll]; omega
theorem wtL_map (f : Nat → T) (D : Nat → DataW H) : ∀ (l : List Nat), (∀ i, i ∈ l → wtT (f i) ≤ Rows.uptoBulk (D i)) → wtL (l.map f) ≤ Rows.uptoBulkAll (l.map D)
  | [], _ => by simp [wtL, Rows.uptoBulkAll]
  | i :: r, h => by
    have h1 := h i (by simp)
    have h2 := wtL_map f D r fun j hj => h j (by simp [hj])
    simp only [List.map_cons, wtL, Rows.uptoBulkAll]; omega
end
section
variable {H : Type} {enc : TypeId × Value → H} {w : World} {held : Bool}
theorem read_bytesW {fuel : Nat} {cs : List Value} {x : DataW H × List MemPlace} (h : DataW.trod enc Tryz.prog w 0 (fun _ => true) held fuel 22 cs = some x) : ∃ v l, cs = [v] ∧ Bytes w anyB v l ∧ l.length ≤ Rows.uptoBulk x.1 := by
  rcases Go.Deep.open_slice (e := U8) Tryz.underlying22 h with ⟨rfl, _⟩ | ⟨a, len, cap, m, n, D, Pl, rfl, _, hl, hm, hmm, hx, hV⟩
  · exact ⟨_, [], rfl, Bytes.nil _ _, Nat.zero_le _⟩
  · simp only [if_true] at hmm
    subst hmm
    obtain ⟨f, hf⟩ := Go.Deep.choose_lt (α := UInt8) (p := fun i b => w.cells? 0 (a.add (i * 1)) 1 = some [bcell b]) (fun i hi => by
      obtain ⟨cs', h1, h2⟩ := hV i hi
      obtain ⟨k, rfl, _, hk⟩ := DataW.trod_int Tryz.underlying5 h2
      obtain ⟨b, rfl⟩ := u8_of hk
      exact ⟨b, h1⟩)
    refine ⟨_, (List.range len).map f, rfl, ?_, ?_⟩
    rotate_left
    · rw [hx]
      have := slice_leW ((List.range len).map D) ((List.range (m - len)).map fun j => D (len + j))
      simp only [List.length_map, List.length_range] at this ⊢
      omega
    have := (slE_of (C := fun i => [bcell (f i)]) (by omega) hl hm hf).1
    have e : ((List.range len).map fun i => [bcell (f i)]).flatten = ((List.range len).map f).map bcell := by
      induction (List.range len) with
      | nil => rfl
      | cons i r ih => simp [ih]
    rw [e] at this
    simp only [List.length_map, List.length_range] at this
    simpa [Bytes] using this
theorem read_tagW {fuel : Nat} {cs : List Value} {x : DataW H × List MemPlace} (h : DataW.trod enc Tryz.prog w 0 (fun _ => true) held fuel 63 cs = some x) : ∃ t : Tg, TgC w anyB cs t ∧ 1 + t.2.length ≤ Rows.uptoBulk x.1 := by
  obtain ⟨xs, n, rfl, rfl, hlen, hxl, hf⟩ := DataW.trod_struct Tryz.underlying63 h
  have hlen : cs.length = 2 := hlen
  obtain ⟨c0, c1, rfl⟩ : ∃ c0 c1, cs = [c0, c1] := by
    match cs, hlen with
    | [c0, c1], _ => exact ⟨c0, c1, rfl⟩
  have h0 := hf 0 _ rfl
  have h1 := hf 1 _ rfl
  obtain ⟨y0, hy0⟩ : ∃ y, xs[0]? = some y := ⟨xs[0]'(by rw [hxl]; decide), by simp⟩
  obtain ⟨y1, hy1⟩ : ∃ y, xs[1]? = some y := ⟨xs[1]'(by rw [hxl]; decide), by simp⟩
  rw [hy0] at h0
  rw [hy1] at h1
  obtain ⟨k, hk, _, hkw⟩ := DataW.trod_int Tryz.underlying60 h0
  obtain ⟨v, l, hv, hb, hbl⟩ := read_bytesW h1
  obtain rfl : c0 = Value.int .u32 k := by
    have h : [c0] = [Value.int .u32 k] := hk
    injection h
  obtain rfl : c1 = v := by
    have h : [c1] = [v] := hv
    injection h
  obtain ⟨k', rfl, hlt⟩ := u32_of' hkw
  refine ⟨(k', l), ⟨hlt, c1, rfl, hb⟩, ?_⟩
  have hm : y1.1 ∈ xs.map (·.1) := List.mem_map.2 ⟨y1, List.mem_of_getElem? hy1, rfl⟩
  have := part_leW hm
  show 1 + l.length ≤ Rows.uptoBulkAll (xs.map (·.1)) + 1
  omega
theorem read_tagsW {fuel : Nat} {cs : List Value} {x : DataW H × List MemPlace} (h : DataW.trod enc Tryz.prog w 0 (fun _ => true) held fuel 24 cs = some x) : ∃ v u, cs = [v] ∧ TgsR w anyB v u ∧ wtU u ≤ Rows.uptoBulk x.1 := by
  rcases Go.Deep.open_slice (e := 63) Tryz.underlying24 h with ⟨rfl, _⟩ | ⟨a, len, cap, m, n, D, Pl, rfl, _, hl, hm, hmm, hx, hV⟩
  · exact ⟨_, [], rfl, TgsR.nil _ _, Nat.zero_le _⟩
  · simp only [if_true] at hmm
    subst hmm
    obtain ⟨f, hf⟩ := Go.Deep.choose_lt (α := List Value × Tg) (p := fun i b => w.cells? 0 (a.add (i * 2)) 2 = some b.1 ∧ TgC w anyB b.1 b.2 ∧ 1 + b.2.2.length ≤ Rows.uptoBulk (D i)) (fun i hi => by
      obtain ⟨cs', h1, h2⟩ := hV i hi
      obtain ⟨t, ht, hw⟩ := read_tagW h2
      exact ⟨(cs', t), h1, ht, hw⟩)
    refine ⟨_, (List.range len).map fun i => (f i).2, rfl, ⟨(List.range len).map fun i => (f i).1, slE_of (by omega) hl hm fun i hi => (hf i hi).1, by simp, fun i c x hc hx => ?_⟩, ?_⟩
    rotate_left
    · rw [hx]
      have h1 := slice_elemsW ((List.range len).map D) ((List.range (m - len)).map fun j => D (len + j))
      have h2 := wtU_map (fun i => (f i).2) D (List.range len) fun i hi => (hf i (by have := List.mem_range.1 hi; omega)).2.2
      simp only
      omega
    rw [List.getElem?_map] at hc hx
    cases hr : (List.range len)[i]? with
    | none => rw [hr] at hc; simp at hc
    | some j =>
      rw [hr] at hc hx
      simp only [Option.map_some, Option.some.injEq] at hc hx
      have hj : j < len := by have := List.mem_of_getElem? hr; simpa using this
      rw [← hc, ← hx]
      exact (hf j (by omega)).2.1
theorem read_treeW : ∀ {fuel : Nat} {cs : List Value} {x : DataW H × List MemPlace}, DataW.trod enc Tryz.prog w 0 (fun _ => true) held fuel 26 cs = some x → ∃ t : T, TrC w anyB cs t ∧ wtT t ≤ Rows.uptoBulk x.1 := by
  intro fuel
  induction fuel using Nat.strongRecOn with
  | _ fuel ih =>
  intro cs x h
  obtain ⟨xs, n, rfl, rfl, hlen, hxl, hf⟩ := DataW.trod_struct Tryz.underlying26 h
  have hlen : cs.length = 5 := hlen
  obtain ⟨c0, c1, c2, c3, c4, rfl⟩ : ∃ c0 c1 c2 c3 c4, cs = [c0, c1, c2, c3, c4] := by
    match cs, hlen with
    | [c0, c1, c2, c3, c4], _ => exact ⟨c0, c1, c2, c3, c4, rfl⟩
  have hy : ∀ i, i < 5 → ∃ y, xs[i]? = some y := fun i hi => by
    have : i < xs.length := by rw [hxl]; exact hi
    exact ⟨xs[i], by simp [this]⟩
  have h0 := hf 0 _ rfl
  have h1 := hf 1 _ rfl
  have h2 := hf 2 _ rfl
  have h3 := hf 3 _ rfl
  have h4 := hf 4 _ rfl
  obtain ⟨y0, hy0⟩ := hy 0 (by omega)
  obtain ⟨y1, hy1⟩ := hy 1 (by omega)
  obtain ⟨y2, hy2⟩ := hy 2 (by omega)
  obtain ⟨y3, hy3⟩ := hy 3 (by omega)
  obtain ⟨y4, hy4⟩ := hy 4 (by omega)
  rw [hy0] at h0
  rw [hy1] at h1
  rw [hy2] at h2
  rw [hy3] at h3
  rw [hy4] at h4
  obtain ⟨k, hk, _, hkw⟩ := DataW.trod_int Tryz.underlying2 h0
  obtain ⟨sv, s, hsv, hs, hsb⟩ := read_bytesW h1
  obtain ⟨nl, hnl, _⟩ := DataW.trod_bool Tryz.underlying4 h2
  obtain ⟨uv, u, huv, hu, hub⟩ := read_tagsW h4
  obtain rfl : c0 = Value.int .i64 k := by
    have h : [c0] = [Value.int .i64 k] := hk
    injection h
  obtain rfl : c1 = sv := by
    have h : [c1] = [sv] := hsv
    injection h
  obtain rfl : c2 = Value.bool nl := by
    have h : [c2] = [Value.bool nl] := hnl
    injection h
  obtain rfl : c4 = uv := by
    have h : [c4] = [uv] := huv
    injection h
  have hkk := i64_of' hkw
  have hxs : xs = [y0, y1, y2, y3, y4] := by
    apply List.ext_getElem?
    intro i
    have hx5 : xs.length = 5 := hxl
    rcases Nat.lt_or_ge i 5 with hi | hi
    · match i, hi with
      | 0, _ => exact hy0
      | 1, _ => exact hy1
      | 2, _ => exact hy2
      | 3, _ => exact hy3
      | 4, _ => exact hy4
    · rw [List.getElem?_eq_none (by omega), List.getElem?_eq_none (by simpa using hi)]
  have hbulk : Rows.uptoBulk (DataW.agg (xs.map (·.1))) = Rows.uptoBulk y0.1 + (Rows.uptoBulk y1.1 + (Rows.uptoBulk y2.1 + (Rows.uptoBulk y3.1 + (Rows.uptoBulk y4.1 + 0)))) + 1 := by rw [hxs]; rfl
  have h3 : DataW.trod enc Tryz.prog w 0 (fun _ => true) held n 23 [c3] = some y3 := h3
  rcases DataW.trod_slice Tryz.underlying23 h3 with ⟨hc3, _⟩ | ⟨a, len, cap, elems, rest, n', hn', hc3, hx3, _, hl, hm, hel, hV1, hV2, _⟩
  · injection hc3 with hc3
    subst hc3
    refine ⟨.mk k s nl [] u, .mk k s nl [] u _ _ _ [] hkk hs (SlE.nil _ _ _) rfl (by simp) hu, ?_⟩
    show 1 + s.length + 0 + wtU u ≤ Rows.uptoBulk (DataW.agg (xs.map (·.1)))
    omega
  · injection hc3 with hc3
    subst hc3
    obtain ⟨hrl, hV2⟩ := hV2 rfl
    have hV : ∀ i, i < cap → ∃ cs' y, w.cells? 0 (a.add (i * 5)) 5 = some cs' ∧ DataW.trod enc Tryz.prog w 0 (fun _ => true) held n' 26 cs' = some y ∧ (i < len → elems[i]? = some y) := by
      intro i hi
      rcases Nat.lt_or_ge i len with hil | hil
      · have h := hV1 i hil
        rw [List.getElem?_eq_getElem (by omega)] at h
        obtain ⟨cs', g1, g2⟩ := Option.bind_eq_some_iff.1 h
        exact ⟨cs', _, g1, g2, fun hi => List.getElem?_eq_getElem (by omega)⟩
      · have h := hV2 (i - len) (by omega)
        rw [List.getElem?_eq_getElem (by omega), show len + (i - len) = i by omega] at h
        obtain ⟨cs', g1, g2⟩ := Option.bind_eq_some_iff.1 h
        exact ⟨cs', _, g1, g2, fun hi => by omega⟩
    haveI : Inhabited T := ⟨T.zero⟩
    obtain ⟨f, hff⟩ := Go.Deep.choose_lt (α := List Value × T) (p := fun i b => w.cells? 0 (a.add (i * 5)) 5 = some b.1 ∧ TrC w anyB b.1 b.2 ∧ (i < len → wtT b.2 ≤ Rows.uptoBulk ((elems.map (·.1)).getD i .nil))) (fun i hi => by
      obtain ⟨cs', y, g1, g2, g3⟩ := hV i hi
      obtain ⟨t, ht, hw⟩ := ih n' (by omega) g2
      refine ⟨(cs', t), g1, ht, fun hi => ?_⟩
      have : (elems.map (·.1)).getD i DataW.nil = y.1 := by simp [List.getD_eq_getElem?_getD, g3 hi]
      rw [this]
      exact hw)
    refine ⟨.mk k s nl ((List.range len).map fun i => (f i).2) u, .mk k s nl _ u _ _ _ ((List.range len).map fun i => (f i).1) hkk hs (slE_of (by omega) hl hm fun i hi => (hff i hi).1) (by simp) (fun i c x hc hx => ?_) hu, ?_⟩
    rotate_left
    · show 1 + s.length + wtL ((List.range len).map fun i => (f i).2) + wtU u ≤ Rows.uptoBulk (DataW.agg (xs.map (·.1)))
      have h1 : y3.1 = .slice (elems.map (·.1)) (rest.map (·.1)) := by rw [hx3]
      have h2 := slice_elemsW (elems.map (·.1)) (rest.map (·.1))
      have h3 := wtL_map (fun i => (f i).2) (fun i => (elems.map (·.1)).getD i .nil) (List.range len) fun i hi => (hff i (by have := List.mem_range.1 hi; omega)).2.2 (List.mem_range.1 hi)
      have h4 : (List.range len).map (fun i => (elems.map (·.1)).getD i .nil) = elems.map (·.1) := by
        apply List.ext_getElem
        · simp [hel]
        · intro i g1 g2
          simp at g1 g2
          simp [List.getD_eq_getElem?_getD, g2]
      rw [h4] at h3
      rw [h1] at hbulk
      omega
    rw [List.getElem?_map] at hc hx
    cases hr : (List.range len)[i]? with
    | none => rw [hr] at hc; simp at hc
    | some j =>
      rw [hr] at hc hx
      simp only [Option.map_some, Option.some.injEq] at hc hx
      have hj : j < len := by have := List.mem_of_getElem? hr; simpa using this
      rw [← hc, ← hx]
      exact (hff j (by omega)).2.1
end
end Go.Proofs.YtepamajphjgigaaGreatDoor.K
