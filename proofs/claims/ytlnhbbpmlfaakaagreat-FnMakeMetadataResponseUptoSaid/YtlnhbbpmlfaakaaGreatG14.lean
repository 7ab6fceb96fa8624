/- Trees are handed on. -/
import Derived.Test.YtlnhbbpmlfaakaaGreatG13
set_option linter.unusedVariables false
set_option linter.unusedSimpArgs false
namespace Go.Proofs.YtlnhbbpmlfaakaaGreat.K
open Go
set_option maxHeartbeats 1600000

abbrev ImplTreeT : TypeId := 39
theorem given_aux (m : Nat) : ∀ {G : Nat → Prop} {w : World} {x : Value} {t : T}, SizeOf.sizeOf t ≤ m → Tr w G x t → Small t →
    Does X.P 10 #[x] w fun r w' => Tr w' (plus G w) r t ∧ Ext nob w w' := by
  induction m with
  | zero =>
    intro G w x t hm ht hsm
    cases t
    simp at hm
  | succ m ih =>
  intro G w x t hm ht hsm
  have hts := ht.mono (F' := fun k => G k ∧ k < w.heap.size) fun k h1 h2 => ⟨h2, h1⟩
  clear ht
  obtain ⟨n, s, nl, l, u⟩ := t
  obtain ⟨hsl, hsu, hsx⟩ : l.length ≤ 1000000 ∧ u.length ≤ 1000000 ∧ ∀ x, x ∈ l → Small x := by
    cases hsm with
    | mk _ _ _ _ _ h1 h2 h3 => exact ⟨h1, h2, h3⟩
  obtain ⟨ct, rfl, ht⟩ := id hts
  have ht0 := ht
  cases ht
  rename_i sv lv uv ls hl hn hs hlen hr hu
  obtain ⟨a, c, rfl, hc, hm2, hF, hS, hC⟩ := id hl.view
  have hu0 := hu
  obtain ⟨lu, hlu, hulen, hur⟩ := id hu0
  obtain ⟨au, cu, rfl, hcu, hmu, hFu, hSu, hCu⟩ := hlu.view
  obtain ⟨a0, cs0, rfl, _⟩ := hs.view
  refine Does.go (X := X) (l := [_]) Tryz.func10 rfl (by kernel_rfl) (by kernel_rfl) _ rfl ?_
  ((conv=>whnf);repeat(first|(refine mvT ?_;conv=>whnf)|(refine mvF ?_;conv=>whnf)|(refine cT (by rfl) ?_;conv=>whnf)|(refine cF (by rfl) ?_;conv=>whnf)))
  intro b w1 hb ho hx
  ((conv=>whnf);repeat(first|(refine mvT ?_;conv=>whnf)|(refine mvF ?_;conv=>whnf)|(refine cT (by rfl) ?_;conv=>whnf)|(refine cF (by rfl) ?_;conv=>whnf)))
  intro b6 w6 hb6 ho6 hx6
  ((conv=>whnf);repeat(first|(refine mvT ?_;conv=>whnf)|(refine mvF ?_;conv=>whnf)|(refine cT (by rfl) ?_;conv=>whnf)|(refine cF (by rfl) ?_;conv=>whnf)))
  have hbb6 : b < b6 := by have := ho.lt; omega
  have ho := ho.e0 hx6
  refine ldS (ho.cell rfl) ?_;((conv=>whnf);repeat(first|(refine mvT ?_;conv=>whnf)|(refine mvF ?_;conv=>whnf)|(refine cT (by rfl) ?_;conv=>whnf)|(refine cF (by rfl) ?_;conv=>whnf)))
  refine ldS (ho.cell rfl) ?_;((conv=>whnf);repeat(first|(refine mvT ?_;conv=>whnf)|(refine mvF ?_;conv=>whnf)|(refine cT (by rfl) ?_;conv=>whnf)|(refine cF (by rfl) ?_;conv=>whnf)))
  refine ldS (ho.cell rfl) ?_;((conv=>whnf);repeat(first|(refine mvT ?_;conv=>whnf)|(refine mvF ?_;conv=>whnf)|(refine cT (by rfl) ?_;conv=>whnf)|(refine cF (by rfl) ?_;conv=>whnf)))
  intro b7 w7 hb7 ho7 hx7
  ((conv=>whnf);repeat(first|(refine mvT ?_;conv=>whnf)|(refine mvF ?_;conv=>whnf)|(refine cT (by rfl) ?_;conv=>whnf)|(refine cF (by rfl) ?_;conv=>whnf)))
  refine st_all [.int .i64 n, .slice a0 s.length cs0, .bool nl, .slice none 0 0, .slice none 0 0] ho7 rfl rfl rfl ?_
  intro w8 ho8 hx8
  have hs1 := hx.size
  have hs6 := hx6.size
  have hs7 := hx7.size
  have hwb6 : w.heap.size ≤ b6 := by omega
  have hb67 : b6 < b7 := by have := ho6.lt; omega
  have hx68 : Ext nob w6 w8 := hx7.st hx8 hb7
  have hxw : Ext nob w w8 := (hx.e0 hx6).e0 hx68
  have ho := ho.e0 hx68
  have ho6 := ho6.e0 hx68
  have hb7w : b7 < w8.heap.size := ho8.lt
  have hwb7 : w.heap.size ≤ b7 := by omega
  ((conv=>whnf);repeat(first|(refine mvT ?_;conv=>whnf)|(refine mvF ?_;conv=>whnf)|(refine cT (by rfl) ?_;conv=>whnf)|(refine cF (by rfl) ?_;conv=>whnf)))
  refine ldS (ho.cell rfl) ?_;((conv=>whnf);repeat(first|(refine mvT ?_;conv=>whnf)|(refine mvF ?_;conv=>whnf)|(refine cT (by rfl) ?_;conv=>whnf)|(refine cF (by rfl) ?_;conv=>whnf)))
  refine VL.cutB (fun vl : Value => [(1, .pointer (some ⟨b, 0, none⟩)), (2, .pointer (some ⟨b6, 0, none⟩)), (3, .pointer (some ⟨b7, 0, none⟩))])
    (fun vl w' => Ext (fun k => k = b7) w8 w' ∧ Own w' b7 ImplTreeT [.int .i64 n, .slice a0 s.length cs0, .bool nl, vl, .slice none 0 0] ∧ ∃ cs, OSl w' w8.heap.size ImplTreeT 5 vl cs ∧ Els w' (fun k => (plus G w k ∧ k ≠ b6 ∧ k ≠ b7) ∧ vl.ownBlock ≠ some k) cs l) ?_ ?_
  · refine VL.loop (fun i : Nat × Value => [(1, .pointer (some ⟨b, 0, none⟩)), (2, .pointer (some ⟨b6, 0, none⟩)), (3, .pointer (some ⟨b7, 0, none⟩)), (16, .slice a ls.length c), (17, .int .i64 ls.length), (18, .int .i64 i.1)])
      (fun i w' => (Ext (fun k => k = b7) w8 w' ∧ i.1 ≤ ls.length) ∧ Own w' b7 ImplTreeT [.int .i64 n, .slice a0 s.length cs0, .bool nl, i.2, .slice none 0 0] ∧ ∃ cs, OSl w' w8.heap.size ImplTreeT 5 i.2 cs ∧ Els w' (fun k => (plus G w k ∧ k ≠ b6 ∧ k ≠ b7) ∧ i.2.ownBlock ≠ some k) cs (l.take i.1)) (fun i => ls.length - i.1) (0, .slice none 0 0)
      ⟨rfl, rfl, rfl, rfl, rfl, rfl, trivial⟩ ⟨⟨Ext.refl _ _, Nat.zero_le _⟩, ho8, [], OSl.nil _ _ _ _, Els.nil _ _⟩ ?_
    rintro ⟨i, vl⟩ w17 ⟨⟨hx17, hi⟩, ho17, cs, hos, hels⟩
    dsimp only at hi ho17 hos hels
    ((conv=>whnf);repeat(first|(refine mvT ?_;conv=>whnf)|(refine mvF ?_;conv=>whnf)|(refine cT (by rfl) ?_;conv=>whnf)|(refine cF (by rfl) ?_;conv=>whnf)))
    refine cI (by rfl) (fun h7=>?_) (fun h7=>?_)
    · have hil : i < ls.length := by have := of_decide_eq_true h7; simp only at this; omega
      have hill : i < l.length := by omega
      have htr := hr i ls[i] l[i] (by simp [hil]) (by simp [hill])
      obtain ⟨b18, o18, rfl, hc18⟩ := hC i ls[i] (by simp [hil])
      have hxw17 : Ext nob w w17 := hxw.st hx17 hwb7
      have hb9s := fun h => (hos.blk b7 h)
      ((conv=>whnf);repeat(first|(refine mvT ?_;conv=>whnf)|(refine mvF ?_;conv=>whnf)|(refine cT (by rfl) ?_;conv=>whnf)|(refine cF (by rfl) ?_;conv=>whnf)))
      refine ⟨b18, o18, rfl, ⟨by omega, by omega⟩, ?_⟩
      ((conv=>whnf);repeat(first|(refine mvT ?_;conv=>whnf)|(refine mvF ?_;conv=>whnf)|(refine cT (by rfl) ?_;conv=>whnf)|(refine cF (by rfl) ?_;conv=>whnf)))
      refine ⟨ls[i], htr.len, by rw [Int.toNat_natCast]; exact hc18.e0 hxw17, ?_⟩
      ((conv=>whnf);repeat(first|(refine mvT ?_;conv=>whnf)|(refine mvF ?_;conv=>whnf)|(refine cT (by rfl) ?_;conv=>whnf)|(refine cF (by rfl) ?_;conv=>whnf)))
      intro b19 w19 hb19 ho19 hx19
      ((conv=>whnf);repeat(first|(refine mvT ?_;conv=>whnf)|(refine mvF ?_;conv=>whnf)|(refine cT (by rfl) ?_;conv=>whnf)|(refine cF (by rfl) ?_;conv=>whnf)))
      refine st_all ls[i] ho19 htr.len rfl htr.ok ?_
      intro w20 ho20 hx20
      have hx1720 : Ext nob w17 w20.drew := (hx19.st hx20 hb19).e0 (ext_drew _)
      have ho20 := ho20.e0 (ext_drew _)
      have hxw20 := hxw17.e0 hx1720
      ((conv=>whnf);repeat(first|(refine mvT ?_;conv=>whnf)|(refine mvF ?_;conv=>whnf)|(refine cT (by rfl) ?_;conv=>whnf)|(refine cF (by rfl) ?_;conv=>whnf)))
      refine VD.draw mixed (.q 0 (.q 1 (.q 2 (.eff 3 [1] (.eff 4 [1] (.eff 5 [] (.q 6 (.eff 7 [] (.done))))))))) (by kernel_rfl) ?_;((conv=>whnf);repeat(first|(refine mvT ?_;conv=>whnf)|(refine mvF ?_;conv=>whnf)|(refine cT (by rfl) ?_;conv=>whnf)|(refine cF (by rfl) ?_;conv=>whnf)))
      refine ldS ((ho17.e0 hx1720).cell rfl) ?_;((conv=>whnf);repeat(first|(refine mvT ?_;conv=>whnf)|(refine mvF ?_;conv=>whnf)|(refine cT (by rfl) ?_;conv=>whnf)|(refine cF (by rfl) ?_;conv=>whnf)))
      refine ⟨ls[i], htr.len, ho20.cells, ?_⟩
      ((conv=>whnf);repeat(first|(refine mvT ?_;conv=>whnf)|(refine mvF ?_;conv=>whnf)|(refine cT (by rfl) ?_;conv=>whnf)|(refine cF (by rfl) ?_;conv=>whnf)))
      have hsz : SizeOf.sizeOf l[i] ≤ m := by
        have h1 := List.sizeOf_lt_of_mem (List.getElem_mem hill)
        simp only [T.mk.sizeOf_spec] at hm
        omega
      refine Does.mono (ih (G := fun k => G k ∧ k < w.heap.size) hsz ⟨_, rfl, htr.e0 hxw20⟩ (hsx _ (List.getElem_mem hill))) ?_
      rintro r21 w21 ⟨⟨c21, rfl, hr21⟩, hx21⟩
      refine ⟨by (conv => whnf); exact ⟨⟨_, (ho17.e0 (hx1720.e0 hx21)).cell rfl, rfl, rfl⟩, trivial⟩, ?_⟩
      have hnx : l.take (i + 1) = l.take i ++ [l[i]] := List.take_succ_eq_append_getElem hill
      generalize hft : l[i] = ft at hr21 hnx
      have hrm := hr21.mono (F' := fun k => (plus G w k ∧ k ≠ b6 ∧ k ≠ b7) ∧ vl.ownBlock ≠ some k) fun k h1 h2 => by
        have hvl := hos.own.lt
        have hsz := hx1720.size
        have hs17 := hx17.size
        rcases h2 with h | h
        · have hk := h.2
          refine ⟨⟨.inl h.1, by omega, by omega⟩, fun hv => ?_⟩
          have := hos.blk k hv
          omega
        · refine ⟨⟨.inr (by have := hxw20.size; omega), by omega, by omega⟩, fun hv => ?_⟩
          have := hvl k hv
          omega
      clear hr21
      cases hrm
      rename_i n4 s4 nl4 l4 u4 sv4 lv4 uv4 ls4 hn4 hs4 hl4 hlen4 hr4 hu4
      have hc21 : TrC w21 (fun k => (plus G w k ∧ k ≠ b6 ∧ k ≠ b7) ∧ vl.ownBlock ≠ some k) [.int .i64 n4, sv4, .bool nl4, lv4, uv4] (.mk n4 s4 nl4 l4 u4) := .mk n4 s4 nl4 l4 u4 sv4 lv4 uv4 ls4 hn4 hs4 hl4 hlen4 hr4 hu4
      have hok21 := hc21.ok
      have hone1 := Sl.one hs4
      have hone2 := hl4.1.one
      have hone3 := hu4.one
      have hcs : cs.length = i := by rw [hels.len, List.length_take]; omega
      ((conv=>whnf);repeat(first|(refine mvT ?_;conv=>whnf)|(refine mvF ?_;conv=>whnf)|(refine cT (by rfl) ?_;conv=>whnf)|(refine cF (by rfl) ?_;conv=>whnf)))
      intro b22 w22 hb22 ho22 hx22
      have hx1722 : Ext nob w17 w22 := (hx1720.e0 hx21).e0 hx22
      refine ⟨by (conv => whnf); exact ⟨⟨_, (ho17.e0 hx1722).cell rfl, rfl, rfl⟩, trivial⟩, ?_⟩
      ((conv=>whnf);repeat(first|(refine mvT ?_;conv=>whnf)|(refine mvF ?_;conv=>whnf)|(refine cT (by rfl) ?_;conv=>whnf)|(refine cF (by rfl) ?_;conv=>whnf)))
      refine app_struct (ms := [[.int .i64 n4, sv4, .bool nl4, lv4, uv4]]) rfl (hos.e0 hx1722) (src_tree ho22 rfl rfl) (by simp) (by rw [List.flatten_cons, List.flatten_nil, List.append_nil]; exact hok21) rfl ⟨by simp only [List.length_singleton]; omega, by simp only [List.length_singleton]; omega⟩ (by have := hx17.size; have := hx1722.size; omega) ?_
      intro v23 w23 hos23 hx23 hb23 _
      obtain ⟨a23, c23, rfl, hc23, hm23⟩ := hos23.shape
      have ho17' := (ho17.e0 hx1722).ext hx23 fun h => by have := hb9s h; omega
      ((conv=>whnf);repeat(first|(refine mvT ?_;conv=>whnf)|(refine mvF ?_;conv=>whnf)|(refine cT (by rfl) ?_;conv=>whnf)|(refine cF (by rfl) ?_;conv=>whnf)))
      refine ⟨_, _, ho17', rfl, rfl, rfl, ?_⟩
      intro w24 ho24 hx24
      ((conv=>whnf);repeat(first|(refine mvT ?_;conv=>whnf)|(refine mvF ?_;conv=>whnf)|(refine cT (by rfl) ?_;conv=>whnf)|(refine cF (by rfl) ?_;conv=>whnf)))
      have hels22 : Els w22 (fun k => ((plus G w k ∧ k ≠ b6 ∧ k ≠ b7) ∧ vl.ownBlock ≠ some k) ∧ k < w22.heap.size) _ _ := (((hels.e0 (hx1720.e0 hx21)).snoc hc21).e0 hx22).mono fun k h1 h2 => ⟨h2, h1⟩
      have hels23 := (hels22.ext hx23 fun k _ h1 h2 => h1.1.2 h2).mono (F' := fun k => (plus G w k ∧ k ≠ b6 ∧ k ≠ b7) ∧ (Value.slice a23 (cs ++ [[.int .i64 n4, sv4, .bool nl4, lv4, uv4]]).length c23).ownBlock ≠ some k) fun k h1 h2 => by
        refine ⟨h2.1.1, fun hv => ?_⟩
        rcases hb23 with h | ⟨q, hq, hle⟩
        · rw [h] at hv
          exact h2.1.2 hv
        · rw [hq, Option.some.injEq] at hv
          have := h2.2
          omega
      have hels24 := hels23.ext hx24 fun k _ h1 h2 => h1.1.2.2 h2
      have hx1624 : Ext (fun k => k = b7) w8 w24 := ((hx17.tr0 hx1722).trans hx23 fun k hk h => by have := hos.blk k h; omega).trans hx24 fun _ _ h => h
      exact ⟨(i + 1, _), ⟨rfl, rfl, rfl, rfl, rfl, inc_eq (by rw [maxLen_eq] at hm2; omega), trivial⟩, ⟨⟨hx1624, by simp only; omega⟩, ho24, _, hos23.ext hx24 fun k hk h => by have := hos23.blk k hk; omega, by simp only; rw [hnx]; exact hels24⟩, by simp only; omega⟩
    · have hil : i = l.length := by have := of_decide_eq_false h7; simp only at this; omega
      rw [hil, List.take_length] at hels
      ((conv=>whnf);repeat(first|(refine mvT ?_;conv=>whnf)|(refine mvF ?_;conv=>whnf)|(refine cT (by rfl) ?_;conv=>whnf)|(refine cF (by rfl) ?_;conv=>whnf)))
      exact ⟨vl, ⟨rfl, rfl, rfl, trivial⟩, hx17, ho17, cs, hos, hels⟩
  · rintro vl w5 ⟨hx5, ho3, cs, hos, hels⟩
    have hxw5 : Ext nob w w5 := hxw.st hx5 hwb7
    have ho := ho.ext hx5 fun h => by omega
    have ho6 := ho6.ext hx5 fun h => by omega
    have hs5 := hx5.size
    have hu5 := hlu.e0 hxw5
    have hosF : SlE w5 (fun k => (plus G w k ∧ k ≠ b6 ∧ k ≠ b7) ∧ k < w5.heap.size) 5 vl cs := (hos.sl (F := fun k => w8.heap.size ≤ k) fun _ h => h).mono fun k h1 h2 => ⟨⟨.inr (by have := hxw.size; omega), by have := ho6.lt; omega, by omega⟩, h1⟩
    have helF : Els w5 (fun k => (plus G w k ∧ k ≠ b6 ∧ k ≠ b7) ∧ k < w5.heap.size) cs l := hels.mono fun k h1 h2 => ⟨h2.1, h1⟩
    obtain ⟨avl, cvl, rfl, _, _⟩ := hos.shape
    ((conv=>whnf);repeat(first|(refine mvT ?_;conv=>whnf)|(refine mvF ?_;conv=>whnf)|(refine cT (by rfl) ?_;conv=>whnf)|(refine cF (by rfl) ?_;conv=>whnf)))
    refine ldS (ho.cell rfl) ?_;((conv=>whnf);repeat(first|(refine mvT ?_;conv=>whnf)|(refine mvF ?_;conv=>whnf)|(refine cT (by rfl) ?_;conv=>whnf)|(refine cF (by rfl) ?_;conv=>whnf)))
    refine VL.loop (fun i : Nat × Value => [(2, .pointer (some ⟨b6, 0, none⟩)), (3, .pointer (some ⟨b7, 0, none⟩)), (31, .slice au lu.length cu), (32, .int .i64 lu.length), (33, .int .i64 i.1)])
      (fun i w' => (Ext (fun k => k = b7) w5 w' ∧ i.1 ≤ lu.length) ∧ Own w' b7 ImplTreeT [.int .i64 n, .slice a0 s.length cs0, .bool nl, .slice avl cs.length cvl, i.2] ∧ OTg 66 w' w5.heap.size (fun k => (plus G w k ∧ k ≠ b6 ∧ k ≠ b7) ∧ k < w5.heap.size) i.2 (u.take i.1)) (fun i => lu.length - i.1) (0, .slice none 0 0)
      ⟨rfl, rfl, rfl, rfl, rfl, trivial⟩ ⟨⟨Ext.refl _ _, Nat.zero_le _⟩, ho3, OTg.nil _ _ _ _⟩ ?_
    rintro ⟨j, vu⟩ w6' ⟨⟨hx6', hj⟩, ho6', hvu⟩
    dsimp only at hj ho6' hvu
    ((conv=>whnf);repeat(first|(refine mvT ?_;conv=>whnf)|(refine mvF ?_;conv=>whnf)|(refine cT (by rfl) ?_;conv=>whnf)|(refine cF (by rfl) ?_;conv=>whnf)))
    refine cI (by rfl) (fun h1=>?_) (fun h1=>?_)
    · have hjl : j < lu.length := by have := of_decide_eq_true h1; simp only at this; omega
      have hjU : j < u.length := by omega
      have htg : TgC w (fun k => G k ∧ k < w.heap.size) lu[j] u[j] := hur j lu[j] u[j] (by simp [hjl]) (by simp [hjU])
      obtain ⟨b9, o9, rfl, hc9⟩ := hCu j lu[j] (by simp [hjl])
      have hb9 := (hFu b9 o9 rfl (by omega)).1
      have hc9 := (hc9.e0 hxw5).ext hx6' (by have := hb9.2; omega)
      have htg := (htg.ext hxw5 fun _ _ _ f => f).ext hx6' (fun k _ h1 h2 => by have := h1.2; omega)
      obtain ⟨hkey, tv, hcell, htb⟩ := htg
      rw [hcell] at hc9
      have hone := Sl.one htb
      obtain ⟨lsu, hosu, hlu', hru⟩ := hvu
      obtain ⟨a10, c10, rfl, _⟩ := id htb.view
      ((conv=>whnf);repeat(first|(refine mvT ?_;conv=>whnf)|(refine mvF ?_;conv=>whnf)|(refine cT (by rfl) ?_;conv=>whnf)|(refine cF (by rfl) ?_;conv=>whnf)))
      refine ⟨b9, o9, rfl, ⟨by omega, by omega⟩, ?_⟩
      ((conv=>whnf);repeat(first|(refine mvT ?_;conv=>whnf)|(refine mvF ?_;conv=>whnf)|(refine cT (by rfl) ?_;conv=>whnf)|(refine cF (by rfl) ?_;conv=>whnf)))
      refine ⟨_, rfl, by rw [Int.toNat_natCast]; exact hc9, ?_⟩
      ((conv=>whnf);repeat(first|(refine mvT ?_;conv=>whnf)|(refine mvF ?_;conv=>whnf)|(refine cT (by rfl) ?_;conv=>whnf)|(refine cF (by rfl) ?_;conv=>whnf)))
      intro b19 w19 hb19 ho19 hx19
      ((conv=>whnf);repeat(first|(refine mvT ?_;conv=>whnf)|(refine mvF ?_;conv=>whnf)|(refine cT (by rfl) ?_;conv=>whnf)|(refine cF (by rfl) ?_;conv=>whnf)))
      refine st_all [.int .u32 (u[j].1 : Int), .slice a10 u[j].2.length c10] ho19 rfl rfl rfl ?_
      intro w20 ho20 hx20
      have hx620 : Ext nob w6' w20 := hx19.st hx20 hb19
      ((conv=>whnf);repeat(first|(refine mvT ?_;conv=>whnf)|(refine mvF ?_;conv=>whnf)|(refine cT (by rfl) ?_;conv=>whnf)|(refine cF (by rfl) ?_;conv=>whnf)))
      refine ldS ((ho6'.e0 hx620).cell rfl) ?_;((conv=>whnf);repeat(first|(refine mvT ?_;conv=>whnf)|(refine mvF ?_;conv=>whnf)|(refine cT (by rfl) ?_;conv=>whnf)|(refine cF (by rfl) ?_;conv=>whnf)))
      refine ldS (ho20.cell rfl) ?_;((conv=>whnf);repeat(first|(refine mvT ?_;conv=>whnf)|(refine mvF ?_;conv=>whnf)|(refine cT (by rfl) ?_;conv=>whnf)|(refine cF (by rfl) ?_;conv=>whnf)))
      refine ldS (ho20.cell rfl) ?_;((conv=>whnf);repeat(first|(refine mvT ?_;conv=>whnf)|(refine mvF ?_;conv=>whnf)|(refine cT (by rfl) ?_;conv=>whnf)|(refine cF (by rfl) ?_;conv=>whnf)))
      intro b22 w22 hb22 ho22 hx22
      have hx622 : Ext nob w6' w22 := hx620.e0 hx22
      have hlsu : lsu.length = j := by rw [hlu', List.length_take]; omega
      have hb7s := fun h => (hosu.blk b7 h)
      ((conv=>whnf);repeat(first|(refine mvT ?_;conv=>whnf)|(refine mvF ?_;conv=>whnf)|(refine cT (by rfl) ?_;conv=>whnf)|(refine cF (by rfl) ?_;conv=>whnf)))
      refine app_struct (ms := [[.int .u32 (u[j].1 : Int), .slice a10 u[j].2.length c10]]) rfl (hosu.e0 hx622) (src_one ho22 rfl rfl) (by simp) rfl rfl ⟨by simp only [List.length_singleton]; omega, by simp only [List.length_singleton]; omega⟩ (by have := hx6'.size; have := hx622.size; omega) ?_
      intro v23 w23 hos23 hx23 hb23 _
      obtain ⟨a23, c23, rfl, hc23, hm23⟩ := hos23.shape
      have ho23 := (ho6'.e0 hx622).ext hx23 fun h => by have := hb7s h; omega
      ((conv=>whnf);repeat(first|(refine mvT ?_;conv=>whnf)|(refine mvF ?_;conv=>whnf)|(refine cT (by rfl) ?_;conv=>whnf)|(refine cF (by rfl) ?_;conv=>whnf)))
      refine ⟨_, _, ho23, rfl, rfl, rfl, ?_⟩
      intro w24 ho24 hx24
      ((conv=>whnf);repeat(first|(refine mvT ?_;conv=>whnf)|(refine mvF ?_;conv=>whnf)|(refine cT (by rfl) ?_;conv=>whnf)|(refine cF (by rfl) ?_;conv=>whnf)))
      have hx524 : Ext (fun k => k = b7) w5 w24 := ((hx6'.tr0 hx622).trans hx23 fun k hk h => by have := hosu.blk k h; omega).trans hx24 fun _ _ h => h
      have hx624 : Ext (fun k => k = b7 ∨ vu.ownBlock = some k) w6' w24 := ((hx622.mono fun _ _ f => f.elim).trans hx23 fun _ _ h => .inr h).trans hx24 fun _ _ h => .inl h
      have hMM : ∀ k, k < w6'.heap.size → ((plus G w k ∧ k ≠ b6 ∧ k ≠ b7) ∧ k < w5.heap.size) → ¬ (k = b7 ∨ vu.ownBlock = some k) := by
        rintro k _ h1 (h2 | h2)
        · exact h1.1.2.2 h2
        · have := hosu.blk k h2
          omega
      refine ⟨(j + 1, _), ⟨rfl, rfl, rfl, rfl, inc_eq (by omega), trivial⟩, ⟨⟨hx524, by simp only; omega⟩, ho24, _, hos23.ext hx24 fun k hk h => by have := hos23.blk k hk; omega, ?_, ?_⟩, by simp only; omega⟩
      · simp only [List.length_append, List.length_take, hlsu, List.length_singleton]
        omega
      · simp only
        rw [List.take_succ_eq_append_getElem hjU]
        intro q cq xq hcq hxq
        rcases Nat.lt_or_ge q lsu.length with hq | hq
        · rw [List.getElem?_append_left hq] at hcq
          rw [List.getElem?_append_left (by rw [← hlu']; exact hq)] at hxq
          exact (hru q cq xq hcq hxq).ext hx624 hMM
        · rw [List.getElem?_append_right hq] at hcq
          rw [List.getElem?_append_right (by rw [← hlu']; exact hq), ← hlu'] at hxq
          obtain ⟨e, he⟩ : ∃ e, q - lsu.length = e := ⟨_, rfl⟩
          rw [he] at hcq hxq
          cases e with
          | zero =>
            simp only [List.getElem?_cons_zero, Option.some.injEq] at hcq hxq
            rw [← hcq, ← hxq]
            refine ⟨hkey, _, rfl, ?_⟩
            refine Sl.ext (Sl.mono htb fun k _ h => ⟨⟨.inl h.1, by have := h.2; omega, by have := h.2; omega⟩, by have := hxw5.size; have := h.2; omega⟩) hx624 ?_
            rintro k _ h1 (h2 | h2)
            · exact h1.1.2.2 h2
            · have := hosu.blk k h2
              have := h1.2
              omega
          | succ e => simp at hcq
    · have hjl : j = u.length := by have := of_decide_eq_false h1; simp only at this; omega
      obtain ⟨lsu, hosu, hlu', hru⟩ := hvu
      obtain ⟨au', cu', rfl, _, _⟩ := hosu.shape
      ((conv=>whnf);repeat(first|(refine mvT ?_;conv=>whnf)|(refine mvF ?_;conv=>whnf)|(refine cT (by rfl) ?_;conv=>whnf)|(refine cF (by rfl) ?_;conv=>whnf)))
      refine ⟨_, rfl, ho6'.cells, ?_⟩
      ((conv=>whnf);repeat(first|(refine mvT ?_;conv=>whnf)|(refine mvF ?_;conv=>whnf)|(refine cT (by rfl) ?_;conv=>whnf)|(refine cF (by rfl) ?_;conv=>whnf)))
      refine st_all [.int .i64 n, .slice a0 s.length cs0, .bool nl, .slice avl cs.length cvl, .slice au' lsu.length cu'] (ho6.ext hx6' fun h => by omega) rfl rfl rfl ?_
      intro w18 ho18 hx18
      have hxw18 := (hxw5.st hx6' hwb7).st hx18 hwb6
      ((conv=>whnf);repeat(first|(refine mvT ?_;conv=>whnf)|(refine mvF ?_;conv=>whnf)|(refine cT (by rfl) ?_;conv=>whnf)|(refine cF (by rfl) ?_;conv=>whnf)))
      refine ⟨_, rfl, ho18.cells, ?_⟩
      have hx518 : Ext (fun k => k = b7 ∨ k = b6) w5 w18 := (hx6'.mono fun _ _ h => .inl h).trans hx18 fun _ _ h => .inr h
      have hM : ∀ k, k < w5.heap.size → ((plus G w k ∧ k ≠ b6 ∧ k ≠ b7) ∧ k < w5.heap.size) → ¬ (k = b7 ∨ k = b6) := by
        rintro k _ h1 (h2 | h2)
        · exact h1.1.2.2 h2
        · exact h1.1.2.1 h2
      have hF18 : ∀ k, k < w18.heap.size → ((plus G w k ∧ k ≠ b6 ∧ k ≠ b7) ∧ k < w5.heap.size) → plus G w k := fun k _ h => h.1.1
      have hel18 := (helF.ext hx518 hM).mono hF18
      refine ⟨⟨_, rfl, .mk n s nl _ _ _ _ _ cs hn (Sl.mono (hs.e0 hxw18) fun k _ h => .inl h.1) ((hosF.ext hx518 hM).mono hF18) hel18.len hel18.at' ?_⟩, hxw18⟩
      rw [hjl, List.take_length] at hlu' hru
      refine ⟨lsu, ((hosu.sl (F := fun k => w5.heap.size ≤ k) fun _ h => h).ext hx18 fun k _ h1 h2 => by have := ho6.lt; omega).mono fun k _ h => .inr (by have := hxw5.size; omega), hlu', fun q cq xq hcq hxq => ?_⟩
      obtain ⟨g1, bv, g2, g3⟩ := hru q cq xq hcq hxq
      exact ⟨g1, bv, g2, Sl.mono (Sl.ext g3 hx18 fun k _ h1 h2 => h1.1.2.1 h2) hF18⟩
theorem given_does {G : Nat → Prop} {w : World} {x : Value} {t : T} (ht : Tr w G x t) (hs : Small t) : Does X.P 10 #[x] w fun r w' => Tr w' (plus G w) r t ∧ Ext nob w w' := given_aux _ (Nat.le_refl _) ht hs
end Go.Proofs.YtlnhbbpmlfaakaaGreat.K
