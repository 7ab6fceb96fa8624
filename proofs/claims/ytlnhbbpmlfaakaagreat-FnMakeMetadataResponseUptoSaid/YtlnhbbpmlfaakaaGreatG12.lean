/- What fits of a part. -/
import Derived.Test.YtlnhbbpmlfaakaaGreatG11
set_option linter.unusedVariables false
set_option linter.unusedSimpArgs false
namespace Go.Proofs.YtlnhbbpmlfaakaaGreat.K
open Go
set_option maxHeartbeats 1600000

theorem fit_does {d : Nat} (hfd : FittedC d) : FitC d := by
  intro F G w y x fs t v hf ht hok hfl
  have hutag : ∀ f, f ∈ fs → f.tag ≤ 1000000 := fun f hf => okF_tag (hok f hf)
  have hf0 := hf.mono (F' := fun k => F k ∧ k < w.heap.size) fun k h1 h2 => ⟨h2, h1⟩
  clear hf
  have hts := ht.mono (F' := fun k => G k ∧ k < w.heap.size) fun k h1 h2 => ⟨h2, h1⟩
  clear ht
  obtain ⟨n, s, nl, l, u⟩ := t
  obtain ⟨ct, rfl, ht⟩ := id hts
  have ht0 := ht
  cases ht
  rename_i sv' lv uv ls' hn hs' hl' hlen' hr' hu
  obtain ⟨ls, hsl, hlen2, hr⟩ := id hf0
  obtain ⟨a, c, rfl, hc, hm, hF, hS, hC⟩ := hsl.view
  generalize hT : T.mk n s nl l u = t at *
  have hfit : fitB d v fs t = .mk 0 [] false (fitAll (fittedB d v) t 0 fs) ((unknownT fs u).map cutT) := by rw [← hT]; rfl
  rw [hfit]
  clear hfit
  refine Does.go (X := X) (l := [_, _, _]) Tryz.func11 rfl (by kernel_rfl) (by kernel_rfl) _ rfl ?_
  ((conv=>whnf);repeat(first|(refine mvT ?_;conv=>whnf)|(refine mvF ?_;conv=>whnf)|(refine cT (by rfl) ?_;conv=>whnf)|(refine cF (by rfl) ?_;conv=>whnf)))
  intro b w1 hb ho hx
  ((conv=>whnf);repeat(first|(refine mvT ?_;conv=>whnf)|(refine mvF ?_;conv=>whnf)|(refine cT (by rfl) ?_;conv=>whnf)|(refine cF (by rfl) ?_;conv=>whnf)))
  intro b6 w6 hb6 ho6 hx6
  ((conv=>whnf);repeat(first|(refine mvT ?_;conv=>whnf)|(refine mvF ?_;conv=>whnf)|(refine cT (by rfl) ?_;conv=>whnf)|(refine cF (by rfl) ?_;conv=>whnf)))
  intro b7 w7 hb7 ho7 hx7
  ((conv=>whnf);repeat(first|(refine mvT ?_;conv=>whnf)|(refine mvF ?_;conv=>whnf)|(refine cT (by rfl) ?_;conv=>whnf)|(refine cF (by rfl) ?_;conv=>whnf)))
  refine st_all [.int .i64 0, .slice none 0 0, .bool false, .slice none 0 0, .slice none 0 0] ho7 rfl rfl rfl ?_
  intro w8 ho8 hx8
  have hs1 := hx.size
  have hs6 := hx6.size
  have hs7 := hx7.size
  have hbb6 : b < b6 := by have := ho.lt; omega
  have hwb6 : w.heap.size ≤ b6 := by omega
  have hb67 : b6 < b7 := by have := ho6.lt; omega
  have hx68 : Ext nob w6 w8 := hx7.st hx8 hb7
  have hxw : Ext nob w w8 := (hx.e0 hx6).e0 hx68
  have ho := (ho.e0 hx6).e0 hx68
  have ho6 := ho6.e0 hx68
  have hb7w : b7 < w8.heap.size := ho8.lt
  have hwb7 : w.heap.size ≤ b7 := by omega
  ((conv=>whnf);repeat(first|(refine mvT ?_;conv=>whnf)|(refine mvF ?_;conv=>whnf)|(refine cT (by rfl) ?_;conv=>whnf)|(refine cF (by rfl) ?_;conv=>whnf)))
  refine VL.cutB (fun vl : Value => [(0, .slice a ls.length c), (5, .pointer (some ⟨b, 0, none⟩)), (6, .pointer (some ⟨b6, 0, none⟩)), (7, .pointer (some ⟨b7, 0, none⟩))])
    (fun vl w' => Ext (fun k => k = b7) w8 w' ∧ Own w' b7 TreeT [.int .i64 0, .slice none 0 0, .bool false, vl, .slice none 0 0] ∧ ∃ cs, OSl w' w8.heap.size TreeT 5 vl cs ∧ Els w' (fun k => (plus G w k ∧ k ≠ b6 ∧ k ≠ b7) ∧ vl.ownBlock ≠ some k) cs (fitAll (fittedB d v) t 0 fs)) ?_ ?_
  · refine VL.loop (fun i : Nat × Value => [(0, .slice a ls.length c), (1, .int .i64 v), (5, .pointer (some ⟨b, 0, none⟩)), (6, .pointer (some ⟨b6, 0, none⟩)), (7, .pointer (some ⟨b7, 0, none⟩)), (13, .slice a ls.length c), (14, .int .i64 ls.length), (15, .int .i64 i.1)])
      (fun i w' => (Ext (fun k => k = b7) w8 w' ∧ i.1 ≤ ls.length) ∧ Own w' b7 TreeT [.int .i64 0, .slice none 0 0, .bool false, i.2, .slice none 0 0] ∧ ∃ cs ts, (OSl w' w8.heap.size TreeT 5 i.2 cs ∧ cs.length ≤ i.1) ∧ Els w' (fun k => (plus G w k ∧ k ≠ b6 ∧ k ≠ b7) ∧ i.2.ownBlock ≠ some k) cs ts ∧ ts ++ fitAll (fittedB d v) t i.1 (fs.drop i.1) = fitAll (fittedB d v) t 0 fs) (fun i => ls.length - i.1) (0, .slice none 0 0)
      ⟨rfl, rfl, rfl, rfl, rfl, rfl, rfl, rfl, trivial⟩ ⟨⟨Ext.refl _ _, Nat.zero_le _⟩, ho8, [], [], ⟨OSl.nil _ _ _ _, Nat.le_refl _⟩, Els.nil _ _, rfl⟩ ?_
    rintro ⟨i, vl⟩ w17 ⟨⟨hx17, hi⟩, ho17, cs, ts, ⟨hos, hcs⟩, hels, hsum⟩
    dsimp only at hi ho17 hos hels hcs hsum
    ((conv=>whnf);repeat(first|(refine mvT ?_;conv=>whnf)|(refine mvF ?_;conv=>whnf)|(refine cT (by rfl) ?_;conv=>whnf)|(refine cF (by rfl) ?_;conv=>whnf)))
    refine cI (by rfl) (fun h7=>?_) (fun h7=>?_)
    · have hil : i < ls.length := by have := of_decide_eq_true h7; simp only at this; omega
      have his : i < fs.length := by omega
      have hfi := hr i ls[i] fs[i] (by simp [hil]) (by simp [his])
      have hoki := hok fs[i] (by simp)
      rw [List.drop_eq_getElem_cons his] at hsum
      have hsum : ts ++ (fittedB d v fs[i] (atT t i) :: fitAll (fittedB d v) t (i + 1) (fs.drop (i + 1))) = fitAll (fittedB d v) t 0 fs := hsum
      obtain ⟨b18, o18, rfl, hc18⟩ := hC i ls[i] (by simp [hil])
      generalize ls[i] = ci at hfi hc18
      generalize fs[i] = f at hfi hoki hsum
      have hxw17 : Ext nob w w17 := hxw.st hx17 hwb7
      have hb9s := fun h => (hos.blk b7 h)
      ((conv=>whnf);repeat(first|(refine mvT ?_;conv=>whnf)|(refine mvF ?_;conv=>whnf)|(refine cT (by rfl) ?_;conv=>whnf)|(refine cF (by rfl) ?_;conv=>whnf)))
      refine ⟨b18, o18, rfl, ⟨by omega, by omega⟩, ?_⟩
      ((conv=>whnf);repeat(first|(refine mvT ?_;conv=>whnf)|(refine mvF ?_;conv=>whnf)|(refine cT (by rfl) ?_;conv=>whnf)|(refine cF (by rfl) ?_;conv=>whnf)))
      refine ⟨ci, hfi.len, by rw [Int.toNat_natCast]; exact hc18.e0 hxw17, ?_⟩
      ((conv=>whnf);repeat(first|(refine mvT ?_;conv=>whnf)|(refine mvF ?_;conv=>whnf)|(refine cT (by rfl) ?_;conv=>whnf)|(refine cF (by rfl) ?_;conv=>whnf)))
      intro b19 w19 hb19 ho19 hx19
      ((conv=>whnf);repeat(first|(refine mvT ?_;conv=>whnf)|(refine mvF ?_;conv=>whnf)|(refine cT (by rfl) ?_;conv=>whnf)|(refine cF (by rfl) ?_;conv=>whnf)))
      refine st_all ci ho19 hfi.len rfl hfi.ok ?_
      intro w20 ho20 hx20
      have hx1720 : Ext nob w17 w20.drew := (hx19.st hx20 hb19).e0 (ext_drew _)
      have ho20 := ho20.e0 (ext_drew _)
      have hxw20 := hxw17.e0 hx1720
      have hod := (ho.ext hx17 fun h => by omega).e0 hx1720
      ((conv=>whnf);repeat(first|(refine mvT ?_;conv=>whnf)|(refine mvF ?_;conv=>whnf)|(refine cT (by rfl) ?_;conv=>whnf)|(refine cF (by rfl) ?_;conv=>whnf)))
      refine VD.draw mixed (.q 0 (.q 1 (.q 2 (.q 3 (.q 4 (.q 5 (.eff 6 [1, 2] (.eff 7 [1] (.eff 8 [1] (.eff 9 [] (.q 10 (.eff 11 [] (.done))))))))))))) (by kernel_rfl) ?_;((conv=>whnf);repeat(first|(refine mvT ?_;conv=>whnf)|(refine mvF ?_;conv=>whnf)|(refine cT (by rfl) ?_;conv=>whnf)|(refine cF (by rfl) ?_;conv=>whnf)))
      refine ldS ((ho17.e0 hx1720).cell rfl) ?_;((conv=>whnf);repeat(first|(refine mvT ?_;conv=>whnf)|(refine mvF ?_;conv=>whnf)|(refine cT (by rfl) ?_;conv=>whnf)|(refine cF (by rfl) ?_;conv=>whnf)))
      refine ⟨ci, hfi.len, ho20.cells, ?_⟩
      ((conv=>whnf);repeat(first|(refine mvT ?_;conv=>whnf)|(refine mvF ?_;conv=>whnf)|(refine cT (by rfl) ?_;conv=>whnf)|(refine cF (by rfl) ?_;conv=>whnf)))
      refine ⟨_, rfl, hod.cells, ?_⟩
      ((conv=>whnf);repeat(first|(refine mvT ?_;conv=>whnf)|(refine mvF ?_;conv=>whnf)|(refine cT (by rfl) ?_;conv=>whnf)|(refine cF (by rfl) ?_;conv=>whnf)))
      refine Does.mono (at_does (hts.e0 hxw20) i) ?_
      rintro r10 w10 ⟨hr10, hx10⟩
      refine ⟨by (conv => whnf); exact ⟨⟨_, (ho17.e0 (hx1720.e0 hx10)).cell rfl, rfl, rfl⟩, ⟨ci, hfi.len, (ho20.e0 hx10).cells, rfl, rfl⟩, trivial⟩, ?_⟩
      ((conv=>whnf);repeat(first|(refine mvT ?_;conv=>whnf)|(refine mvF ?_;conv=>whnf)|(refine cT (by rfl) ?_;conv=>whnf)|(refine cF (by rfl) ?_;conv=>whnf)))
      refine Does.mono (hfd (v := v) (hfi.e0 (hxw20.e0 hx10)) hr10 hoki) ?_
      rintro r21 w21 ⟨⟨c21, rfl, hr21⟩, hx21⟩
      have hx1021 := hx10.e0 hx21
      refine ⟨by (conv => whnf); exact ⟨⟨_, (ho17.e0 (hx1720.e0 hx1021)).cell rfl, rfl, rfl⟩, trivial⟩, ?_⟩
      generalize hft : fittedB d v f (atT t i) = ft at hr21 hsum
      have hrm := hr21.mono (F' := fun k => (plus G w k ∧ k ≠ b6 ∧ k ≠ b7) ∧ vl.ownBlock ≠ some k) fun k h1 h2 => by
        have hvl := hos.own.lt
        have hsz := hx1720.size
        have hs10 := hx10.size
        have hs17 := hx17.size
        rcases h2 with h | h
        · have hk := h.2
          refine ⟨⟨.inl h.1, by omega, by omega⟩, fun hv => ?_⟩
          have := hos.blk k hv
          omega
        · refine ⟨⟨.inr (by have := hxw20.size; omega), by omega, by omega⟩, fun hv => ?_⟩
          have := hvl k hv
          omega
      clear hr21
      cases hrm
      rename_i n4 s4 nl4 l4 u4 sv4 lv4 uv4 ls4 hn4 hs4 hl4 hlen4 hr4 hu4
      have hc21 : TrC w21 (fun k => (plus G w k ∧ k ≠ b6 ∧ k ≠ b7) ∧ vl.ownBlock ≠ some k) [.int .i64 n4, sv4, .bool nl4, lv4, uv4] (.mk n4 s4 nl4 l4 u4) := .mk n4 s4 nl4 l4 u4 sv4 lv4 uv4 ls4 hn4 hs4 hl4 hlen4 hr4 hu4
      have hok21 := hc21.ok
      have hone1 := Sl.one hs4
      have hone2 := hl4.1.one
      have hone3 := hu4.one
      ((conv=>whnf);repeat(first|(refine mvT ?_;conv=>whnf)|(refine mvF ?_;conv=>whnf)|(refine cT (by rfl) ?_;conv=>whnf)|(refine cF (by rfl) ?_;conv=>whnf)))
      intro b22 w22 hb22 ho22 hx22
      have hx1722 : Ext nob w17 w22 := (hx1720.e0 hx1021).e0 hx22
      refine ⟨by (conv => whnf); exact ⟨⟨_, (ho17.e0 hx1722).cell rfl, rfl, rfl⟩, trivial⟩, ?_⟩
      ((conv=>whnf);repeat(first|(refine mvT ?_;conv=>whnf)|(refine mvF ?_;conv=>whnf)|(refine cT (by rfl) ?_;conv=>whnf)|(refine cF (by rfl) ?_;conv=>whnf)))
      refine app_struct (ms := [[.int .i64 n4, sv4, .bool nl4, lv4, uv4]]) rfl (hos.e0 hx1722) (src_tree ho22 rfl rfl) (by simp) (by rw [List.flatten_cons, List.flatten_nil, List.append_nil]; exact hok21) rfl ⟨by simp only [List.length_singleton]; omega, by simp only [List.length_singleton]; omega⟩ (by have := hx17.size; have := hx1722.size; omega) ?_
      intro v23 w23 hos23 hx23 hb23 _
      obtain ⟨a23, c23, rfl, hc23, hm23⟩ := hos23.shape
      have ho17' := (ho17.e0 hx1722).ext hx23 fun h => by have := hb9s h; omega
      ((conv=>whnf);repeat(first|(refine mvT ?_;conv=>whnf)|(refine mvF ?_;conv=>whnf)|(refine cT (by rfl) ?_;conv=>whnf)|(refine cF (by rfl) ?_;conv=>whnf)))
      refine ⟨_, _, ho17', rfl, rfl, rfl, ?_⟩
      intro w24 ho24 hx24
      ((conv=>whnf);repeat(first|(refine mvT ?_;conv=>whnf)|(refine mvF ?_;conv=>whnf)|(refine cT (by rfl) ?_;conv=>whnf)|(refine cF (by rfl) ?_;conv=>whnf)))
      have hels22 : Els w22 (fun k => ((plus G w k ∧ k ≠ b6 ∧ k ≠ b7) ∧ vl.ownBlock ≠ some k) ∧ k < w22.heap.size) _ _ := (((hels.e0 (hx1720.e0 hx1021)).snoc hc21).e0 hx22).mono fun k h1 h2 => ⟨h2, h1⟩
      have hels23 := (hels22.ext hx23 fun k _ h1 h2 => h1.1.2 h2).mono (F' := fun k => (plus G w k ∧ k ≠ b6 ∧ k ≠ b7) ∧ (Value.slice a23 (cs ++ [[.int .i64 n4, sv4, .bool nl4, lv4, uv4]]).length c23).ownBlock ≠ some k) fun k h1 h2 => by
        refine ⟨h2.1.1, fun hv => ?_⟩
        rcases hb23 with h | ⟨q, hq, hle⟩
        · rw [h] at hv
          exact h2.1.2 hv
        · rw [hq, Option.some.injEq] at hv
          have := h2.2
          omega
      have hels24 := hels23.ext hx24 fun k _ h1 h2 => h1.1.2.2 h2
      have hx1624 : Ext (fun k => k = b7) w8 w24 := ((hx17.tr0 hx1722).trans hx23 fun k hk h => by have := hos.blk k h; omega).trans hx24 fun _ _ h => h
      exact ⟨(i + 1, _), ⟨rfl, rfl, rfl, rfl, rfl, rfl, rfl, inc_eq (by rw [maxLen_eq] at hm; omega), trivial⟩, ⟨⟨hx1624, by simp only; omega⟩, ho24, _, _, ⟨hos23.ext hx24 fun k hk h => by have := hos23.blk k hk; omega, by simp only [List.length_append, List.length_singleton]; omega⟩, hels24, by rw [List.append_assoc]; exact hsum⟩, by simp only; omega⟩
    · have hil : i = fs.length := by have := of_decide_eq_false h7; simp only at this; omega
      rw [hil, List.drop_length] at hsum
      have hsum : ts ++ [] = fitAll (fittedB d v) t 0 fs := hsum
      rw [List.append_nil] at hsum
      rw [hsum] at hels
      ((conv=>whnf);repeat(first|(refine mvT ?_;conv=>whnf)|(refine mvF ?_;conv=>whnf)|(refine cT (by rfl) ?_;conv=>whnf)|(refine cF (by rfl) ?_;conv=>whnf)))
      exact ⟨vl, ⟨rfl, rfl, rfl, rfl, trivial⟩, hx17, ho17, cs, hos, hels⟩
  · rintro vl w3 ⟨hx3, ho3, cs, hos, hels⟩
    have hxw3 : Ext nob w w3 := hxw.st hx3 hwb7
    have ho := ho.ext hx3 fun h => by omega
    have ho6 := ho6.ext hx3 fun h => by omega
    ((conv=>whnf);repeat(first|(refine mvT ?_;conv=>whnf)|(refine mvF ?_;conv=>whnf)|(refine cT (by rfl) ?_;conv=>whnf)|(refine cF (by rfl) ?_;conv=>whnf)))
    refine ldS (ho.cell rfl) ?_;((conv=>whnf);repeat(first|(refine mvT ?_;conv=>whnf)|(refine mvF ?_;conv=>whnf)|(refine cT (by rfl) ?_;conv=>whnf)|(refine cF (by rfl) ?_;conv=>whnf)))
    refine Does.mono (unknown_does (hf0.e0 hxw3) hutag (hu.e0 hxw3)) ?_
    rintro r5 w5 ⟨⟨ls5, ho5, hlen5, hr5⟩, hx5⟩
    obtain ⟨a5, c5, rfl, hc5, hm5, hF5, hS5, hC5⟩ := (ho5.sl (F := fun k => w3.heap.size ≤ k) fun _ h => h).view
    have hs3 := hx3.size
    have hs5 := hx5.size
    have hxw5 := hxw3.e0 hx5
    have ho3 := ho3.e0 hx5
    have ho6 := ho6.e0 hx5
    have hosF : SlE w5 (fun k => (plus G w k ∧ k ≠ b6 ∧ k ≠ b7) ∧ k < w5.heap.size) 5 vl cs := ((hos.e0 hx5).sl (F := fun k => w8.heap.size ≤ k) fun _ h => h).mono fun k h1 h2 => ⟨⟨.inr (by have := hxw.size; omega), by have := ho6.lt; omega, by omega⟩, h1⟩
    have helF : Els w5 (fun k => (plus G w k ∧ k ≠ b6 ∧ k ≠ b7) ∧ k < w5.heap.size) cs (fitAll (fittedB d v) t 0 fs) := (hels.e0 hx5).mono fun k h1 h2 => ⟨h2.1, h1⟩
    obtain ⟨avl, cvl, rfl, _, _⟩ := hos.shape
    ((conv=>whnf);repeat(first|(refine mvT ?_;conv=>whnf)|(refine mvF ?_;conv=>whnf)|(refine cT (by rfl) ?_;conv=>whnf)|(refine cF (by rfl) ?_;conv=>whnf)))
    generalize hU : unknownT fs u = U at *
    have hUl : U.length ≤ 32767 := by
      rw [← hU]
      have h1 := unkT_length (knownN fs 0) (u.take most) []
      have h2 := take_most_length u
      simp only [List.length_nil] at h1
      have : unknownT fs u = unkT (knownN fs 0) [] (u.take most) := rfl
      rw [this]
      omega
    refine VL.loop (fun i : Nat × Value => [(6, .pointer (some ⟨b6, 0, none⟩)), (7, .pointer (some ⟨b7, 0, none⟩)), (35, .slice a5 ls5.length c5), (36, .int .i64 ls5.length), (37, .int .i64 i.1)])
      (fun i w' => (Ext (fun k => k = b7) w5 w' ∧ i.1 ≤ ls5.length) ∧ Own w' b7 TreeT [.int .i64 0, .slice none 0 0, .bool false, .slice avl cs.length cvl, i.2] ∧ OTg 65 w' w5.heap.size (fun k => (plus G w k ∧ k ≠ b6 ∧ k ≠ b7) ∧ k < w5.heap.size) i.2 ((U.take i.1).map cutT)) (fun i => ls5.length - i.1) (0, .slice none 0 0)
      ⟨rfl, rfl, rfl, rfl, rfl, trivial⟩ ⟨⟨Ext.refl _ _, Nat.zero_le _⟩, ho3, OTg.nil _ _ _ _⟩ ?_
    rintro ⟨j, vu⟩ w6' ⟨⟨hx6', hj⟩, ho6', hvu⟩
    dsimp only at hj ho6' hvu
    ((conv=>whnf);repeat(first|(refine mvT ?_;conv=>whnf)|(refine mvF ?_;conv=>whnf)|(refine cT (by rfl) ?_;conv=>whnf)|(refine cF (by rfl) ?_;conv=>whnf)))
    refine cI (by rfl) (fun h1=>?_) (fun h1=>?_)
    · have hjl : j < ls5.length := by have := of_decide_eq_true h1; simp only at this; omega
      have hjU : j < U.length := by omega
      have htg := hr5 j ls5[j] U[j] (by simp [hjl]) (by simp [hjU])
      obtain ⟨b9, o9, rfl, hc9⟩ := hC5 j ls5[j] (by simp [hjl])
      have hb9 := (hF5 b9 o9 rfl (by omega)).1
      have hc9 := hc9.ext hx6' (by omega)
      have htg := htg.ext hx6' (fun k _ h1 h2 => by have := h1.2; omega)
      obtain ⟨hkey, tv, hcell, htb⟩ := htg
      rw [hcell] at hc9
      have hone := Sl.one htb
      obtain ⟨lsu, hosu, hlu, hru⟩ := hvu
      ((conv=>whnf);repeat(first|(refine mvT ?_;conv=>whnf)|(refine mvF ?_;conv=>whnf)|(refine cT (by rfl) ?_;conv=>whnf)|(refine cF (by rfl) ?_;conv=>whnf)))
      refine ⟨b9, o9, rfl, ⟨by omega, by omega⟩, ?_⟩
      ((conv=>whnf);repeat(first|(refine mvT ?_;conv=>whnf)|(refine mvF ?_;conv=>whnf)|(refine cT (by rfl) ?_;conv=>whnf)|(refine cF (by rfl) ?_;conv=>whnf)))
      refine ⟨_, rfl, by rw [Int.toNat_natCast]; exact hc9, ?_⟩
      ((conv=>whnf);repeat(first|(refine mvT ?_;conv=>whnf)|(refine mvF ?_;conv=>whnf)|(refine cT (by rfl) ?_;conv=>whnf)|(refine cF (by rfl) ?_;conv=>whnf)))
      intro b19 w19 hb19 ho19 hx19
      ((conv=>whnf);repeat(first|(refine mvT ?_;conv=>whnf)|(refine mvF ?_;conv=>whnf)|(refine cT (by rfl) ?_;conv=>whnf)|(refine cF (by rfl) ?_;conv=>whnf)))
      refine st_all [.int .u32 (U[j].1 : Int), tv] ho19 rfl rfl ?_ ?_
      · simp only [okCells, List.all_cons, List.all_nil, hone]
        rfl
      intro w20 ho20 hx20
      have hx620 : Ext nob w6' w20.drew := (hx19.st hx20 hb19).e0 (ext_drew _)
      have ho20 := ho20.e0 (ext_drew _)
      ((conv=>whnf);repeat(first|(refine mvT ?_;conv=>whnf)|(refine mvF ?_;conv=>whnf)|(refine cT (by rfl) ?_;conv=>whnf)|(refine cF (by rfl) ?_;conv=>whnf)))
      refine VD.draw mixed (.q 0 (.q 1 (.q 2 (.q 3 (.q 4 (.q 5 (.eff 6 [1, 3] (.q 7 (.eff 8 [1] (.eff 9 [] (.q 10 (.eff 11 [] (.done))))))))))))) (by kernel_rfl) ?_;((conv=>whnf);repeat(first|(refine mvT ?_;conv=>whnf)|(refine mvF ?_;conv=>whnf)|(refine cT (by rfl) ?_;conv=>whnf)|(refine cF (by rfl) ?_;conv=>whnf)))
      refine ldS ((ho6'.e0 hx620).cell rfl) ?_;((conv=>whnf);repeat(first|(refine mvT ?_;conv=>whnf)|(refine mvF ?_;conv=>whnf)|(refine cT (by rfl) ?_;conv=>whnf)|(refine cF (by rfl) ?_;conv=>whnf)))
      refine ldS (ho20.cell rfl) ?_;((conv=>whnf);repeat(first|(refine mvT ?_;conv=>whnf)|(refine mvF ?_;conv=>whnf)|(refine cT (by rfl) ?_;conv=>whnf)|(refine cF (by rfl) ?_;conv=>whnf)))
      refine ldS (ho20.cell rfl) ?_;((conv=>whnf);repeat(first|(refine mvT ?_;conv=>whnf)|(refine mvF ?_;conv=>whnf)|(refine cT (by rfl) ?_;conv=>whnf)|(refine cF (by rfl) ?_;conv=>whnf)))
      refine Does.mono (whole_does (htb.e0 hx620)) ?_
      rintro r10 w10 ⟨hr10, rfl⟩
      refine ⟨by (conv => whnf); exact ⟨⟨_, (ho6'.e0 hx620).cell rfl, rfl, rfl⟩, ⟨_, ho20.cell rfl, rfl, rfl⟩, trivial⟩, ?_⟩
      have hone10 := Sl.one hr10
      obtain ⟨a10, c10, rfl, _⟩ := hr10.view
      ((conv=>whnf);repeat(first|(refine mvT ?_;conv=>whnf)|(refine mvF ?_;conv=>whnf)|(refine cT (by rfl) ?_;conv=>whnf)|(refine cF (by rfl) ?_;conv=>whnf)))
      intro b22 w22 hb22 ho22 hx22
      have hx622 : Ext nob w6' w22 := hx620.e0 hx22
      refine ⟨by (conv => whnf); exact ⟨⟨_, (ho6'.e0 hx622).cell rfl, rfl, rfl⟩, trivial⟩, ?_⟩
      have hlsu : lsu.length = j := by rw [hlu, List.length_map, List.length_take]; omega
      have hb7s := fun h => (hosu.blk b7 h)
      ((conv=>whnf);repeat(first|(refine mvT ?_;conv=>whnf)|(refine mvF ?_;conv=>whnf)|(refine cT (by rfl) ?_;conv=>whnf)|(refine cF (by rfl) ?_;conv=>whnf)))
      refine app_struct (ms := [[.int .u32 (U[j].1 : Int), .slice a10 (U[j].2.take most).length c10]]) rfl (hosu.e0 hx622) (src_one ho22 rfl rfl) (by simp) rfl rfl ⟨by simp only [List.length_singleton]; omega, by simp only [List.length_singleton]; omega⟩ (by have := hx6'.size; have := hx622.size; omega) ?_
      intro v23 w23 hos23 hx23 hb23 _
      obtain ⟨a23, c23, rfl, hc23, hm23⟩ := hos23.shape
      have ho23 := (ho6'.e0 hx622).ext hx23 fun h => by have := hb7s h; omega
      ((conv=>whnf);repeat(first|(refine mvT ?_;conv=>whnf)|(refine mvF ?_;conv=>whnf)|(refine cT (by rfl) ?_;conv=>whnf)|(refine cF (by rfl) ?_;conv=>whnf)))
      refine ⟨_, _, ho23, rfl, rfl, rfl, ?_⟩
      intro w24 ho24 hx24
      ((conv=>whnf);repeat(first|(refine mvT ?_;conv=>whnf)|(refine mvF ?_;conv=>whnf)|(refine cT (by rfl) ?_;conv=>whnf)|(refine cF (by rfl) ?_;conv=>whnf)))
      have hx524 : Ext (fun k => k = b7) w5 w24 := ((hx6'.tr0 hx622).trans hx23 fun k hk h => by have := hosu.blk k h; omega).trans hx24 fun _ _ h => h
      have hx624 : Ext (fun k => k = b7 ∨ vu.ownBlock = some k) w6' w24 := ((hx622.mono fun _ _ f => f.elim).trans hx23 fun _ _ h => .inr h).trans hx24 fun _ _ h => .inl h
      have hMM : ∀ k, k < w6'.heap.size → ((plus G w k ∧ k ≠ b6 ∧ k ≠ b7) ∧ k < w5.heap.size) → ¬ (k = b7 ∨ vu.ownBlock = some k) := by
        rintro k _ h1 (h2 | h2)
        · exact h1.1.2.2 h2
        · have := hosu.blk k h2
          omega
      refine ⟨(j + 1, _), ⟨rfl, rfl, rfl, rfl, inc_eq (by omega), trivial⟩, ⟨⟨hx524, by simp only; omega⟩, ho24, _, hos23.ext hx24 fun k hk h => by have := hos23.blk k hk; omega, ?_, ?_⟩, by simp only; omega⟩
      · simp only [List.length_append, List.length_map, List.length_take, hlsu, List.length_singleton]
        omega
      · have htk : (U.take (j + 1)).map cutT = (U.take j).map cutT ++ [cutT U[j]] := by
          rw [List.take_succ_eq_append_getElem hjU, List.map_append]
          rfl
        simp only
        rw [htk]
        intro q cq xq hcq hxq
        rcases Nat.lt_or_ge q lsu.length with hq | hq
        · rw [List.getElem?_append_left hq] at hcq
          rw [List.getElem?_append_left (by rw [← hlu]; exact hq)] at hxq
          exact (hru q cq xq hcq hxq).ext hx624 hMM
        · rw [List.getElem?_append_right hq] at hcq
          rw [List.getElem?_append_right (by rw [← hlu]; exact hq), ← hlu] at hxq
          obtain ⟨e, he⟩ : ∃ e, q - lsu.length = e := ⟨_, rfl⟩
          rw [he] at hcq hxq
          cases e with
          | zero =>
            simp only [List.getElem?_cons_zero, Option.some.injEq] at hcq hxq
            rw [← hcq, ← hxq]
            refine ⟨hkey, _, rfl, ?_⟩
            have hx2024 : Ext (fun k => k = b7 ∨ vu.ownBlock = some k) w20.drew w24 := ((hx22.mono fun _ _ f => f.elim).trans hx23 fun _ _ h => .inr h).trans hx24 fun _ _ h => .inl h
            have hs624 := hx620.size
            refine Sl.ext (Sl.mono hr10 fun k _ h => ⟨⟨.inl h.1, by have := h.2; omega, by have := h.2; omega⟩, by have := hxw5.size; have := h.2; omega⟩) hx2024 ?_
            rintro k _ h1 (h2 | h2)
            · exact h1.1.2.2 h2
            · have := hosu.blk k h2
              have := h1.2
              omega
          | succ e => simp at hcq
    · have hjl : j = U.length := by have := of_decide_eq_false h1; simp only at this; omega
      obtain ⟨lsu, hosu, hlu, hru⟩ := hvu
      obtain ⟨au, cu, rfl, _, _⟩ := hosu.shape
      ((conv=>whnf);repeat(first|(refine mvT ?_;conv=>whnf)|(refine mvF ?_;conv=>whnf)|(refine cT (by rfl) ?_;conv=>whnf)|(refine cF (by rfl) ?_;conv=>whnf)))
      refine ⟨_, rfl, ho6'.cells, ?_⟩
      ((conv=>whnf);repeat(first|(refine mvT ?_;conv=>whnf)|(refine mvF ?_;conv=>whnf)|(refine cT (by rfl) ?_;conv=>whnf)|(refine cF (by rfl) ?_;conv=>whnf)))
      refine st_all [.int .i64 0, .slice none 0 0, .bool false, .slice avl cs.length cvl, .slice au lsu.length cu] (ho6.ext hx6' fun h => by omega) rfl rfl rfl ?_
      intro w18 ho18 hx18
      have hxw18 := (hxw5.st hx6' hwb7).st hx18 hwb6
      ((conv=>whnf);repeat(first|(refine mvT ?_;conv=>whnf)|(refine mvF ?_;conv=>whnf)|(refine cT (by rfl) ?_;conv=>whnf)|(refine cF (by rfl) ?_;conv=>whnf)))
      refine ⟨_, rfl, ho18.cells, ?_⟩
      have hx518 : Ext (fun k => k = b7 ∨ k = b6) w5 w18 := (hx6'.mono fun _ _ h => .inl h).trans hx18 fun _ _ h => .inr h
      have hM : ∀ k, k < w5.heap.size → ((plus G w k ∧ k ≠ b6 ∧ k ≠ b7) ∧ k < w5.heap.size) → ¬ (k = b7 ∨ k = b6) := by
        rintro k _ h1 (h2 | h2)
        · exact h1.1.2.2 h2
        · exact h1.1.2.1 h2
      have hF18 : ∀ k, k < w18.heap.size → ((plus G w k ∧ k ≠ b6 ∧ k ≠ b7) ∧ k < w5.heap.size) → plus G w k := fun k _ h => h.1.1
      have hel18 := (helF.ext hx518 hM).mono hF18
      refine ⟨⟨_, rfl, .mk 0 [] false _ _ _ _ _ cs rfl (Bytes.nil _ _) ((hosF.ext hx518 hM).mono hF18) hel18.len hel18.at' ?_⟩, hxw18⟩
      rw [hjl, List.take_length] at hlu hru
      refine ⟨lsu, ((hosu.sl (F := fun k => w5.heap.size ≤ k) fun _ h => h).ext hx18 fun k _ h1 h2 => by have := ho6.lt; omega).mono fun k _ h => .inr (by have := hxw5.size; omega), hlu, fun q cq xq hcq hxq => ?_⟩
      obtain ⟨g1, bv, g2, g3⟩ := hru q cq xq hcq hxq
      exact ⟨g1, bv, g2, Sl.mono (Sl.ext g3 hx18 fun k _ h1 h2 => h1.1.2.1 h2) hF18⟩
theorem fits_do : ∀ d, FittedC d
  | 0 => fun _ _ h => by simp [okF] at h
  | d + 1 => fitted_does (fit_does (fits_do d))
end Go.Proofs.YtlnhbbpmlfaakaaGreat.K
