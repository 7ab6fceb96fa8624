/- What fits of a field that is no list. -/
import Derived.Test.YtlnhbbpmlfaakaaGreatG9
set_option linter.unusedVariables false
set_option linter.unusedSimpArgs false
namespace Go.Proofs.YtlnhbbpmlfaakaaGreat.K
open Go
set_option maxHeartbeats 800000

/-- Where what is made of data in G lies: in G, or in new blocks. -/
abbrev plus (G : Nat → Prop) (w : World) : Nat → Prop := fun k => G k ∨ w.heap.size ≤ k
def FitC (d : Nat) : Prop := ∀ {F G : Nat → Prop} {w : World} {y x : Value} {fs : List Fd} {t : T} {v : Int}, FdsR w F y fs → Tr w G x t → (∀ f, f ∈ fs → okF d f = true) → fs.length ≤ 1000 →
  Does X.P 11 #[y, .int .i64 v, x] w fun r w' => Tr w' (plus G w) r (fitB d v fs t) ∧ Ext nob w w'
def FittedC (d : Nat) : Prop := ∀ {F G : Nat → Prop} {w : World} {c : List Value} {x : Value} {f : Fd} {t : T} {v : Int}, FdC w F c f → Tr w G x t → okF d f = true →
  Does X.P 21 #[.agg c.toArray, .int .i64 v, x] w fun r w' => Tr w' (plus G w) r (fittedB d v f t) ∧ Ext nob w w'
theorem fitted1_does {d : Nat} (hp : FitC d) {F G : Nat → Prop} {w : World} {c : List Value} {x : Value} {kind fr to nul tag df of : Int} {sub : List Fd} {t : T} {v : Int} {nb : Bool} (hf : FdC w F c (.mk kind fr to nul tag df of sub)) (ht : Tr w G x t)
    (hk : 0 ≤ kind ∧ kind ≤ 10) (hsl : sub.length ≤ 1000) (hsub : ∀ f, f ∈ sub → okF d f = true) (hnb : nullF (.mk kind fr to nul tag df of sub) v t = nb) :
    Does X.P 21 #[.agg c.toArray, .int .i64 v, x] w fun r w' => Tr w' (plus G w) r (fit1 (fun sub t => fitB d v sub t) kind sub nb t) ∧ Ext nob w w' := by
  have hf0 := hf
  have hts := ht.mono (F' := fun k => G k ∧ k < w.heap.size) fun k h1 h2 => ⟨h2, h1⟩
  clear ht
  cases hf
  rename_i sv ls hl hlen2 hr
  obtain ⟨ct, rfl, ht⟩ := id hts
  have ht0 := ht
  cases ht
  rename_i n s nl l u sv' lv uv ls' hn hs' hl' hlen' hr' hu
  have hfr : FdsR w F sv sub := ⟨ls, hl, hlen2, hr⟩
  refine Does.go (X := X) (l := [_, _, _]) Tryz.func21 rfl (by kernel_rfl) (by kernel_rfl) _ rfl ?_
  ((conv=>whnf);repeat(first|(refine mvT ?_;conv=>whnf)|(refine mvF ?_;conv=>whnf)|(refine cT (by rfl) ?_;conv=>whnf)|(refine cF (by rfl) ?_;conv=>whnf)))
  intro b w1 hb ho hx
  ((conv=>whnf);repeat(first|(refine mvT ?_;conv=>whnf)|(refine mvF ?_;conv=>whnf)|(refine cT (by rfl) ?_;conv=>whnf)|(refine cF (by rfl) ?_;conv=>whnf)))
  intro b2 w2 hb2 ho2 hx2
  ((conv=>whnf);repeat(first|(refine mvT ?_;conv=>whnf)|(refine mvF ?_;conv=>whnf)|(refine cT (by rfl) ?_;conv=>whnf)|(refine cF (by rfl) ?_;conv=>whnf)))
  intro b6 w6 hb6 ho6 hx6
  ((conv=>whnf);repeat(first|(refine mvT ?_;conv=>whnf)|(refine mvF ?_;conv=>whnf)|(refine cT (by rfl) ?_;conv=>whnf)|(refine cF (by rfl) ?_;conv=>whnf)))
  have hwb6 : w.heap.size ≤ b6 := by have := hx.size; have := hx2.size; omega
  have ho := (ho.e0 hx2).e0 hx6
  have ho2 := ho2.e0 hx6
  have hx := (hx.e0 hx2).e0 hx6
  refine ⟨_, rfl, ho.cells, ?_⟩
  ((conv=>whnf);repeat(first|(refine mvT ?_;conv=>whnf)|(refine mvF ?_;conv=>whnf)|(refine cT (by rfl) ?_;conv=>whnf)|(refine cF (by rfl) ?_;conv=>whnf)))
  refine ⟨_, rfl, ho2.cells, ?_⟩
  ((conv=>whnf);repeat(first|(refine mvT ?_;conv=>whnf)|(refine mvF ?_;conv=>whnf)|(refine cT (by rfl) ?_;conv=>whnf)|(refine cF (by rfl) ?_;conv=>whnf)))
  refine Does.mono (null_does (hf0.e0 hx) (hts.e0 hx) v) ?_
  rintro r3 w3 ⟨rfl, hx3⟩
  rw [hnb]
  have ho := ho.e0 hx3
  have ho2 := ho2.e0 hx3
  have ho6 := ho6.e0 hx3
  have hx := hx.e0 hx3
  ((conv=>whnf);repeat(first|(refine mvT ?_;conv=>whnf)|(refine mvF ?_;conv=>whnf)|(refine cT (by rfl) ?_;conv=>whnf)|(refine cF (by rfl) ?_;conv=>whnf)))
  refine ldS (ho.cell rfl) ?_;((conv=>whnf);repeat(first|(refine mvT ?_;conv=>whnf)|(refine mvF ?_;conv=>whnf)|(refine cT (by rfl) ?_;conv=>whnf)|(refine cF (by rfl) ?_;conv=>whnf)))
  rcases kinds kind ⟨hk.1, by omega⟩ with rfl | rfl | rfl | rfl | rfl | rfl | hk
  · ((conv=>whnf);repeat(first|(refine mvT ?_;conv=>whnf)|(refine mvF ?_;conv=>whnf)|(refine cT (by rfl) ?_;conv=>whnf)|(refine cF (by rfl) ?_;conv=>whnf)))
    refine ldS (ho2.cell rfl) ?_;((conv=>whnf);repeat(first|(refine mvT ?_;conv=>whnf)|(refine mvF ?_;conv=>whnf)|(refine cT (by rfl) ?_;conv=>whnf)|(refine cF (by rfl) ?_;conv=>whnf)))
    refine ldS (ho2.cell rfl) ?_;((conv=>whnf);repeat(first|(refine mvT ?_;conv=>whnf)|(refine mvF ?_;conv=>whnf)|(refine cT (by rfl) ?_;conv=>whnf)|(refine cF (by rfl) ?_;conv=>whnf)))
    have hone := Sl.one hs'
    obtain ⟨a4, c4, rfl, _⟩ := hs'.view
    ((conv=>whnf);repeat(first|(refine mvT ?_;conv=>whnf)|(refine mvF ?_;conv=>whnf)|(refine cT (by rfl) ?_;conv=>whnf)|(refine cF (by rfl) ?_;conv=>whnf)))
    refine st_all [.int .i64 n, .slice a4 s.length c4, .bool false, .slice none 0 0, .slice none 0 0] ho6 rfl rfl rfl ?_
    intro w5 ho5 hx5
    have hx05 := hx.st hx5 hwb6
    ((conv=>whnf);repeat(first|(refine mvT ?_;conv=>whnf)|(refine mvF ?_;conv=>whnf)|(refine cT (by rfl) ?_;conv=>whnf)|(refine cF (by rfl) ?_;conv=>whnf)))
    refine ⟨_, rfl, ho5.cells, ?_⟩
    have hr5 := Sl.mono (Sl.ext hs' hx05 fun k _ _ h2 => h2) (F' := plus G w) fun k _ h => .inl h.1
    exact ⟨⟨_, rfl, .mk n s false [] [] _ _ _ [] hn hr5 (SlE.nil _ _ _) rfl (by simp) (TgsR.nil _ _)⟩, hx05⟩
  · ((conv=>whnf);repeat(first|(refine mvT ?_;conv=>whnf)|(refine mvF ?_;conv=>whnf)|(refine cT (by rfl) ?_;conv=>whnf)|(refine cF (by rfl) ?_;conv=>whnf)))
    refine ldS (ho2.cell rfl) ?_;((conv=>whnf);repeat(first|(refine mvT ?_;conv=>whnf)|(refine mvF ?_;conv=>whnf)|(refine cT (by rfl) ?_;conv=>whnf)|(refine cF (by rfl) ?_;conv=>whnf)))
    refine ldS (ho2.cell rfl) ?_;((conv=>whnf);repeat(first|(refine mvT ?_;conv=>whnf)|(refine mvF ?_;conv=>whnf)|(refine cT (by rfl) ?_;conv=>whnf)|(refine cF (by rfl) ?_;conv=>whnf)))
    have hone := Sl.one hs'
    obtain ⟨a4, c4, rfl, _⟩ := hs'.view
    ((conv=>whnf);repeat(first|(refine mvT ?_;conv=>whnf)|(refine mvF ?_;conv=>whnf)|(refine cT (by rfl) ?_;conv=>whnf)|(refine cF (by rfl) ?_;conv=>whnf)))
    refine st_all [.int .i64 n, .slice a4 s.length c4, .bool false, .slice none 0 0, .slice none 0 0] ho6 rfl rfl rfl ?_
    intro w5 ho5 hx5
    have hx05 := hx.st hx5 hwb6
    ((conv=>whnf);repeat(first|(refine mvT ?_;conv=>whnf)|(refine mvF ?_;conv=>whnf)|(refine cT (by rfl) ?_;conv=>whnf)|(refine cF (by rfl) ?_;conv=>whnf)))
    refine ⟨_, rfl, ho5.cells, ?_⟩
    have hr5 := Sl.mono (Sl.ext hs' hx05 fun k _ _ h2 => h2) (F' := plus G w) fun k _ h => .inl h.1
    exact ⟨⟨_, rfl, .mk n s false [] [] _ _ _ [] hn hr5 (SlE.nil _ _ _) rfl (by simp) (TgsR.nil _ _)⟩, hx05⟩
  · ((conv=>whnf);repeat(first|(refine mvT ?_;conv=>whnf)|(refine mvF ?_;conv=>whnf)|(refine cT (by rfl) ?_;conv=>whnf)|(refine cF (by rfl) ?_;conv=>whnf)))
    refine ldS (ho2.cell rfl) ?_;((conv=>whnf);repeat(first|(refine mvT ?_;conv=>whnf)|(refine mvF ?_;conv=>whnf)|(refine cT (by rfl) ?_;conv=>whnf)|(refine cF (by rfl) ?_;conv=>whnf)))
    refine Does.mono (whole_does (hs'.e0 hx)) ?_
    rintro r4 w4 ⟨hr4, rfl⟩
    obtain ⟨a4, c4, rfl, _⟩ := hr4.view
    ((conv=>whnf);repeat(first|(refine mvT ?_;conv=>whnf)|(refine mvF ?_;conv=>whnf)|(refine cT (by rfl) ?_;conv=>whnf)|(refine cF (by rfl) ?_;conv=>whnf)))
    (refine mvB ?_;((conv=>whnf);repeat(first|(refine mvT ?_;conv=>whnf)|(refine mvF ?_;conv=>whnf)|(refine cT (by rfl) ?_;conv=>whnf)|(refine cF (by rfl) ?_;conv=>whnf))))
    refine st_all [.int .i64 0, .slice a4 (s.take most).length c4, .bool nb, .slice none 0 0, .slice none 0 0] ho6 rfl rfl ?_ ?_
    · have h1 := Sl.one hr4
      simp only [okCells, List.all_cons, List.all_nil, h1]
      rfl
    intro w5 ho5 hx5
    have hx05 := hx.st hx5 hwb6
    ((conv=>whnf);repeat(first|(refine mvT ?_;conv=>whnf)|(refine mvF ?_;conv=>whnf)|(refine cT (by rfl) ?_;conv=>whnf)|(refine cF (by rfl) ?_;conv=>whnf)))
    refine ⟨_, rfl, ho5.cells, ?_⟩
    have hr5 := Sl.mono (Sl.ext hr4 hx5 fun k _ h1 h2 => by have := h1.2; omega) (F' := plus G w) fun k _ h => .inl h.1
    exact ⟨⟨_, rfl, .mk 0 (s.take most) nb [] [] _ _ _ [] rfl hr5 (SlE.nil _ _ _) rfl (by simp) (TgsR.nil _ _)⟩, hx05⟩
  · ((conv=>whnf);repeat(first|(refine mvT ?_;conv=>whnf)|(refine mvF ?_;conv=>whnf)|(refine cT (by rfl) ?_;conv=>whnf)|(refine cF (by rfl) ?_;conv=>whnf)))
    refine ldS (ho2.cell rfl) ?_;((conv=>whnf);repeat(first|(refine mvT ?_;conv=>whnf)|(refine mvF ?_;conv=>whnf)|(refine cT (by rfl) ?_;conv=>whnf)|(refine cF (by rfl) ?_;conv=>whnf)))
    refine Does.mono (whole_does (hs'.e0 hx)) ?_
    rintro r4 w4 ⟨hr4, rfl⟩
    obtain ⟨a4, c4, rfl, _⟩ := hr4.view
    ((conv=>whnf);repeat(first|(refine mvT ?_;conv=>whnf)|(refine mvF ?_;conv=>whnf)|(refine cT (by rfl) ?_;conv=>whnf)|(refine cF (by rfl) ?_;conv=>whnf)))
    (refine mvB ?_;((conv=>whnf);repeat(first|(refine mvT ?_;conv=>whnf)|(refine mvF ?_;conv=>whnf)|(refine cT (by rfl) ?_;conv=>whnf)|(refine cF (by rfl) ?_;conv=>whnf))))
    refine st_all [.int .i64 0, .slice a4 (s.take most).length c4, .bool nb, .slice none 0 0, .slice none 0 0] ho6 rfl rfl ?_ ?_
    · have h1 := Sl.one hr4
      simp only [okCells, List.all_cons, List.all_nil, h1]
      rfl
    intro w5 ho5 hx5
    have hx05 := hx.st hx5 hwb6
    ((conv=>whnf);repeat(first|(refine mvT ?_;conv=>whnf)|(refine mvF ?_;conv=>whnf)|(refine cT (by rfl) ?_;conv=>whnf)|(refine cF (by rfl) ?_;conv=>whnf)))
    refine ⟨_, rfl, ho5.cells, ?_⟩
    have hr5 := Sl.mono (Sl.ext hr4 hx5 fun k _ h1 h2 => by have := h1.2; omega) (F' := plus G w) fun k _ h => .inl h.1
    exact ⟨⟨_, rfl, .mk 0 (s.take most) nb [] [] _ _ _ [] rfl hr5 (SlE.nil _ _ _) rfl (by simp) (TgsR.nil _ _)⟩, hx05⟩
  · omega
  · ((conv=>whnf);repeat(first|(refine mvT ?_;conv=>whnf)|(refine mvF ?_;conv=>whnf)|(refine cT (by rfl) ?_;conv=>whnf)|(refine cF (by rfl) ?_;conv=>whnf)))
    refine ldS (ho.cell rfl) ?_;((conv=>whnf);repeat(first|(refine mvT ?_;conv=>whnf)|(refine mvF ?_;conv=>whnf)|(refine cT (by rfl) ?_;conv=>whnf)|(refine cF (by rfl) ?_;conv=>whnf)))
    refine ⟨_, rfl, ho2.cells, ?_⟩
    ((conv=>whnf);repeat(first|(refine mvT ?_;conv=>whnf)|(refine mvF ?_;conv=>whnf)|(refine cT (by rfl) ?_;conv=>whnf)|(refine cF (by rfl) ?_;conv=>whnf)))
    refine Does.mono (hp (v := v) (hfr.e0 hx) (hts.e0 hx) hsub hsl) ?_
    rintro r4 w4 ⟨⟨c4, rfl, hr4⟩, hx4⟩
    ((conv=>whnf);repeat(first|(refine mvT ?_;conv=>whnf)|(refine mvF ?_;conv=>whnf)|(refine cT (by rfl) ?_;conv=>whnf)|(refine cF (by rfl) ?_;conv=>whnf)))
    have hb64 : b6 < w3.heap.size := ho6.lt
    intro b8 w8 hb8 ho8 hx8
    have hft : fit1 (fun sub t => fitB d v sub t) 10 sub nb (.mk n s nl l u) = .mk (fitB d v sub (.mk n s nl l u)).n (fitB d v sub (.mk n s nl l u)).s nb (fitB d v sub (.mk n s nl l u)).l (fitB d v sub (.mk n s nl l u)).u := rfl
    rw [hft]
    generalize fitB d v sub (T.mk n s nl l u) = ft at hr4
    have hrm := hr4.mono (F' := fun k => (plus G w k ∧ k ≠ b6) ∧ k < w4.heap.size) fun k h1 h2 => by
      refine ⟨⟨?_, ?_⟩, h1⟩
      · rcases h2 with h | h
        · exact .inl h.1
        · exact .inr (Nat.le_trans hx.size h)
      · rintro rfl
        rcases h2 with h | h <;> omega
    clear hr4
    cases hrm
    rename_i n4 s4 nl4 l4 u4 sv4 lv4 uv4 ls4 hn4 hs4 hl4 hlen4 hr4 hu4
    have hone1 := Sl.one hs4
    have hone2 := hl4.1.one
    have hone3 := hu4.one
    ((conv=>whnf);repeat(first|(refine mvT ?_;conv=>whnf)|(refine mvF ?_;conv=>whnf)|(refine cT (by rfl) ?_;conv=>whnf)|(refine cF (by rfl) ?_;conv=>whnf)))
    refine st_all [.int .i64 n4, sv4, .bool nl4, lv4, uv4] ho8 rfl rfl ?_ ?_
    · simp only [okCells, List.all_cons, List.all_nil, hone1, hone2, hone3]
      rfl
    intro w9 ho9 hx9
    have hx49 : Ext nob w4 w9 := hx8.st hx9 hb8
    ((conv=>whnf);repeat(first|(refine mvT ?_;conv=>whnf)|(refine mvF ?_;conv=>whnf)|(refine cT (by rfl) ?_;conv=>whnf)|(refine cF (by rfl) ?_;conv=>whnf)))
    (refine mvB ?_;((conv=>whnf);repeat(first|(refine mvT ?_;conv=>whnf)|(refine mvF ?_;conv=>whnf)|(refine cT (by rfl) ?_;conv=>whnf)|(refine cF (by rfl) ?_;conv=>whnf))))
    refine ⟨_, _, ho9, rfl, rfl, rfl, ?_⟩
    intro w10 ho10 hx10
    have ho10 : Own w10 b8 26 [.int .i64 n4, sv4, .bool nb, lv4, uv4] := ho10
    have hx410 : Ext nob w4 w10 := hx49.st hx10 hb8
    ((conv=>whnf);repeat(first|(refine mvT ?_;conv=>whnf)|(refine mvF ?_;conv=>whnf)|(refine cT (by rfl) ?_;conv=>whnf)|(refine cF (by rfl) ?_;conv=>whnf)))
    refine ⟨_, rfl, ho10.cells, ?_⟩
    ((conv=>whnf);repeat(first|(refine mvT ?_;conv=>whnf)|(refine mvF ?_;conv=>whnf)|(refine cT (by rfl) ?_;conv=>whnf)|(refine cF (by rfl) ?_;conv=>whnf)))
    refine st_all [.int .i64 n4, sv4, .bool nb, lv4, uv4] ((ho6.e0 hx4).e0 hx410) rfl rfl ?_ ?_
    · simp only [okCells, List.all_cons, List.all_nil, hone1, hone2, hone3]
      rfl
    intro w11 ho11 hx11
    have hx011 := ((hx.e0 hx4).e0 hx410).st hx11 hwb6
    ((conv=>whnf);repeat(first|(refine mvT ?_;conv=>whnf)|(refine mvF ?_;conv=>whnf)|(refine cT (by rfl) ?_;conv=>whnf)|(refine cF (by rfl) ?_;conv=>whnf)))
    refine ⟨_, rfl, ho11.cells, ?_⟩
    refine ⟨⟨_, rfl, ?_⟩, hx011⟩
    have hx411 : Ext (fun k => k = b6) w4 w11 := (hx410.mono fun _ _ f => f.elim).trans hx11 fun _ _ h => h
    have hM : ∀ k, k < w4.heap.size → ((plus G w k ∧ k ≠ b6) ∧ k < w4.heap.size) → ¬ k = b6 := fun k _ h => h.1.2
    have hF : ∀ k, k < w11.heap.size → ((plus G w k ∧ k ≠ b6) ∧ k < w4.heap.size) → plus G w k := fun k _ h => h.1.1
    exact .mk n4 s4 nb l4 u4 _ _ _ ls4 hn4 (Sl.mono (hs4.ext hx411 hM) hF) ((hl4.ext hx411 hM).mono hF) hlen4 (fun i c t h1 h2 => ((hr4 i c t h1 h2).ext hx411 hM).mono hF) ((hu4.ext hx411 hM).mono hF)
  · have hkb : ∀ j : Int, j = 8 ∨ j = 9 ∨ j = 10 → kind ≠ j := by omega
    have h8 := hkb 8 (by omega)
    have h9 := hkb 9 (by omega)
    have hft : fit1 (fun sub t => fitB d v sub t) kind sub nb (.mk n s nl l u) = .mk n s false [] [] := by
      rw [fit1, if_neg (by omega), if_neg (hkb 10 (by omega))]
      rfl
    rw [hft]
    clear hft hkb h8 h9
    rcases hk with rfl | rfl | rfl | rfl | rfl | rfl
    all_goals
      ((conv=>whnf);repeat(first|(refine mvT ?_;conv=>whnf)|(refine mvF ?_;conv=>whnf)|(refine cT (by rfl) ?_;conv=>whnf)|(refine cF (by rfl) ?_;conv=>whnf)))
      refine ldS (ho2.cell rfl) ?_;((conv=>whnf);repeat(first|(refine mvT ?_;conv=>whnf)|(refine mvF ?_;conv=>whnf)|(refine cT (by rfl) ?_;conv=>whnf)|(refine cF (by rfl) ?_;conv=>whnf)))
      refine ldS (ho2.cell rfl) ?_;((conv=>whnf);repeat(first|(refine mvT ?_;conv=>whnf)|(refine mvF ?_;conv=>whnf)|(refine cT (by rfl) ?_;conv=>whnf)|(refine cF (by rfl) ?_;conv=>whnf)))
      have hone := Sl.one hs'
      obtain ⟨a4, c4, rfl, _⟩ := hs'.view
      ((conv=>whnf);repeat(first|(refine mvT ?_;conv=>whnf)|(refine mvF ?_;conv=>whnf)|(refine cT (by rfl) ?_;conv=>whnf)|(refine cF (by rfl) ?_;conv=>whnf)))
      refine st_all [.int .i64 n, .slice a4 s.length c4, .bool false, .slice none 0 0, .slice none 0 0] ho6 rfl rfl rfl ?_
      intro w5 ho5 hx5
      have hx05 := hx.st hx5 hwb6
      ((conv=>whnf);repeat(first|(refine mvT ?_;conv=>whnf)|(refine mvF ?_;conv=>whnf)|(refine cT (by rfl) ?_;conv=>whnf)|(refine cF (by rfl) ?_;conv=>whnf)))
      refine ⟨_, rfl, ho5.cells, ?_⟩
      have hr5 := Sl.mono (Sl.ext hs' hx05 fun k _ _ h2 => h2) (F' := plus G w) fun k _ h => .inl h.1
      exact ⟨⟨_, rfl, .mk n s false [] [] _ _ _ [] hn hr5 (SlE.nil _ _ _) rfl (by simp) (TgsR.nil _ _)⟩, hx05⟩
end Go.Proofs.YtlnhbbpmlfaakaaGreat.K
