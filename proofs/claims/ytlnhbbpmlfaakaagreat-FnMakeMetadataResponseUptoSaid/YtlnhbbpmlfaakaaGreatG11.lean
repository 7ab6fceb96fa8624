/- What fits of a list. -/
import Derived.Test.YtlnhbbpmlfaakaaGreatG10
set_option linter.unusedVariables false
set_option linter.unusedSimpArgs false
namespace Go.Proofs.YtlnhbbpmlfaakaaGreat.K
open Go
set_option maxHeartbeats 800000

abbrev TreeT : TypeId := 26
/-- Trees in cells. -/
structure Els (w : World) (F : Nat → Prop) (cs : List (List Value)) (ts : List T) : Prop where
  len : cs.length = ts.length
  at' : ∀ (i : Nat) (c : List Value) (t : T), cs[i]? = some c → ts[i]? = some t → TrC w F c t
theorem Els.nil (w : World) (F : Nat → Prop) : Els w F [] [] := ⟨rfl, by simp⟩
theorem Els.ext {M F : Nat → Prop} {w w' : World} {cs : List (List Value)} {ts : List T} (h : Els w F cs ts) (x : Ext M w w') (hF : ∀ k, k < w.heap.size → F k → ¬ M k) : Els w' F cs ts := ⟨h.len, fun i c t h1 h2 => (h.at' i c t h1 h2).ext x hF⟩
theorem Els.e0 {F : Nat → Prop} {w w' : World} {cs : List (List Value)} {ts : List T} (h : Els w F cs ts) (x : Ext nob w w') : Els w' F cs ts := h.ext x fun _ _ _ f => f
theorem Els.mono {F F' : Nat → Prop} {w : World} {cs : List (List Value)} {ts : List T} (h : Els w F cs ts) (hF : ∀ k, k < w.heap.size → F k → F' k) : Els w F' cs ts := ⟨h.len, fun i c t h1 h2 => (h.at' i c t h1 h2).mono hF⟩
theorem Els.snoc {F : Nat → Prop} {w : World} {cs : List (List Value)} {ts : List T} {c : List Value} {t : T} (h : Els w F cs ts) (hc : TrC w F c t) : Els w F (cs ++ [c]) (ts ++ [t]) := by
  refine ⟨by simp [h.len], fun i c' t' h1 h2 => ?_⟩
  rcases Nat.lt_or_ge i cs.length with hi | hi
  · rw [List.getElem?_append_left hi] at h1
    rw [List.getElem?_append_left (by rw [← h.len]; exact hi)] at h2
    exact h.at' i c' t' h1 h2
  · rw [List.getElem?_append_right hi] at h1
    rw [List.getElem?_append_right (by rw [← h.len]; exact hi), ← h.len] at h2
    obtain ⟨j, hj⟩ : ∃ j, i - cs.length = j := ⟨_, rfl⟩
    rw [hj] at h1 h2
    cases j with
    | zero =>
      simp only [List.getElem?_cons_zero, Option.some.injEq] at h1 h2
      rw [← h1, ← h2]
      exact hc
    | succ j => simp at h1
theorem OSl.one {w : World} {B : Nat} {e : TypeId} {sz : Nat} {v : Value} {ls : List (List Value)} (h : OSl w B e sz v ls) : v.oneCell' = true := (h.sl (F := anyB) fun _ _ => trivial).1.one
theorem OSl.shape {w : World} {B : Nat} {e : TypeId} {sz : Nat} {v : Value} {ls : List (List Value)} (h : OSl w B e sz v ls) : ∃ a c, v = .slice a ls.length c ∧ ls.length ≤ c ∧ c ≤ maxLen := by
  obtain ⟨a, c, h1, h2, h3, _⟩ := (h.sl (F := anyB) fun _ _ => trivial).view
  exact ⟨a, c, h1, h2, h3⟩
theorem nullF_neg (kind fr to tag df of : Int) (sub : List Fd) (v : Int) (t : T) : nullF (.mk kind fr to (-1) tag df of sub) v t = false := by
  cases h : t.nl <;> simp [nullF, Fd.nul]
theorem src_tree {w : World} {b : Nat} {Ty : TypeId} {m : List Value} {n c : Nat} (h : Own w b Ty m) (hm : m.length = 5) (hn : n = 1) : Src w 5 (.slice (some ⟨b, 0, none⟩) n c) [m].length [m].flatten := src_one h hm hn
theorem fitted_list {d : Nat} (hp : FitC d) {F G : Nat → Prop} {w : World} {c : List Value} {x : Value} {fr to nul tag df of : Int} {sub : List Fd} {t : T} {v : Int} {nb : Bool} (hf : FdC w F c (.mk 11 fr to nul tag df of sub)) (ht : Tr w G x t)
    (hof : 0 ≤ of ∧ of ≤ 10) (hsl : sub.length ≤ 1000) (hsub : ∀ f, f ∈ sub → okF d f = true) (hnb : nullF (.mk 11 fr to nul tag df of sub) v t = nb) :
    Does X.P 21 #[.agg c.toArray, .int .i64 v, x] w fun r w' => Tr w' (plus G w) r (.mk 0 [] (nb || (decide (0 ≤ tag) && t.l.isEmpty)) ((t.l.take most).map (fit1 (fun sub t => fitB d v sub t) of sub false)) []) ∧ Ext nob w w' := by
  have hf0 := hf.mono (F' := fun k => F k ∧ k < w.heap.size) fun k h1 h2 => ⟨h2, h1⟩
  clear hf
  have hts := ht.mono (F' := fun k => G k ∧ k < w.heap.size) fun k h1 h2 => ⟨h2, h1⟩
  clear ht
  cases id hf0
  rename_i sv ls hl hlen2 hr
  obtain ⟨ct, rfl, ht⟩ := id hts
  have ht0 := ht
  cases ht
  rename_i n s nl l u sv' lv uv ls' hn hs' hl' hlen' hr' hu
  have hfr : FdsR w (fun k => F k ∧ k < w.heap.size) sv sub := ⟨ls, hl, hlen2, hr⟩
  show Does _ _ _ _ fun r w' => Tr w' (plus G w) r (.mk 0 [] (nb || (decide (0 ≤ tag) && l.isEmpty)) ((l.take most).map (fit1 (fun sub t => fitB d v sub t) of sub false)) []) ∧ Ext nob w w'
  generalize hnn : (nb || (decide (0 ≤ tag) && l.isEmpty)) = nn
  refine Does.go (X := X) (l := [_, _, _]) Tryz.func21 rfl (by kernel_rfl) (by kernel_rfl) _ rfl ?_
  ((conv=>whnf);repeat(first|(refine mvT ?_;conv=>whnf)|(refine mvF ?_;conv=>whnf)|(refine cT (by rfl) ?_;conv=>whnf)|(refine cF (by rfl) ?_;conv=>whnf)))
  intro b w1 hb ho hx
  ((conv=>whnf);repeat(first|(refine mvT ?_;conv=>whnf)|(refine mvF ?_;conv=>whnf)|(refine cT (by rfl) ?_;conv=>whnf)|(refine cF (by rfl) ?_;conv=>whnf)))
  intro b2 w2 hb2 ho2 hx2
  ((conv=>whnf);repeat(first|(refine mvT ?_;conv=>whnf)|(refine mvF ?_;conv=>whnf)|(refine cT (by rfl) ?_;conv=>whnf)|(refine cF (by rfl) ?_;conv=>whnf)))
  intro b6 w6 hb6 ho6 hx6
  ((conv=>whnf);repeat(first|(refine mvT ?_;conv=>whnf)|(refine mvF ?_;conv=>whnf)|(refine cT (by rfl) ?_;conv=>whnf)|(refine cF (by rfl) ?_;conv=>whnf)))
  have hwb6 : w.heap.size ≤ b6 := by have := hx.size; have := hx2.size; omega
  have ho := (ho.e0 hx2).e0 hx6
  have ho2 := ho2.e0 hx6
  have hx := (hx.e0 hx2).e0 hx6
  refine ⟨_, rfl, ho.cells, ?_⟩
  ((conv=>whnf);repeat(first|(refine mvT ?_;conv=>whnf)|(refine mvF ?_;conv=>whnf)|(refine cT (by rfl) ?_;conv=>whnf)|(refine cF (by rfl) ?_;conv=>whnf)))
  refine ⟨_, rfl, ho2.cells, ?_⟩
  ((conv=>whnf);repeat(first|(refine mvT ?_;conv=>whnf)|(refine mvF ?_;conv=>whnf)|(refine cT (by rfl) ?_;conv=>whnf)|(refine cF (by rfl) ?_;conv=>whnf)))
  refine Does.mono (null_does (hf0.e0 hx) (hts.e0 hx) v) ?_
  rintro r3 w3 ⟨rfl, hx3⟩
  rw [hnb]
  have ho := ho.e0 hx3
  have ho2 := ho2.e0 hx3
  have ho6 := ho6.e0 hx3
  have hx := hx.e0 hx3
  ((conv=>whnf);repeat(first|(refine mvT ?_;conv=>whnf)|(refine mvF ?_;conv=>whnf)|(refine cT (by rfl) ?_;conv=>whnf)|(refine cF (by rfl) ?_;conv=>whnf)))
  refine ldS (ho.cell rfl) ?_;((conv=>whnf);repeat(first|(refine mvT ?_;conv=>whnf)|(refine mvF ?_;conv=>whnf)|(refine cT (by rfl) ?_;conv=>whnf)|(refine cF (by rfl) ?_;conv=>whnf)))
  intro c5 h5
  cases c5
  · ((conv=>whnf);repeat(first|(refine mvT ?_;conv=>whnf)|(refine mvF ?_;conv=>whnf)|(refine cT (by rfl) ?_;conv=>whnf)|(refine cF (by rfl) ?_;conv=>whnf)))
    refine ldS (ho.cell rfl) ?_;((conv=>whnf);repeat(first|(refine mvT ?_;conv=>whnf)|(refine mvF ?_;conv=>whnf)|(refine cT (by rfl) ?_;conv=>whnf)|(refine cF (by rfl) ?_;conv=>whnf)))
    intro c6 h6
    cases c6
    · have hnv : nn = false := by rw [← hnn, h5, h6]; rfl
      subst hnv
      ((conv=>whnf);repeat(first|(refine mvT ?_;conv=>whnf)|(refine mvF ?_;conv=>whnf)|(refine cT (by rfl) ?_;conv=>whnf)|(refine cF (by rfl) ?_;conv=>whnf)))
      intro b9 w9 hb9 ho9 hx9
      ((conv=>whnf);repeat(first|(refine mvT ?_;conv=>whnf)|(refine mvF ?_;conv=>whnf)|(refine cT (by rfl) ?_;conv=>whnf)|(refine cF (by rfl) ?_;conv=>whnf)))
      refine st_all [.int .i64 0, .slice none 0 0, .bool _, .slice none 0 0, .slice none 0 0] ho9 rfl rfl rfl ?_
      intro w10 ho10 hx10
      have hx310 : Ext nob w3 w10 := hx9.st hx10 hb9
      ((conv=>whnf);repeat(first|(refine mvT ?_;conv=>whnf)|(refine mvF ?_;conv=>whnf)|(refine cT (by rfl) ?_;conv=>whnf)|(refine cF (by rfl) ?_;conv=>whnf)))
      refine ⟨_, rfl, (ho.e0 hx310).cells, ?_⟩
      ((conv=>whnf);repeat(first|(refine mvT ?_;conv=>whnf)|(refine mvF ?_;conv=>whnf)|(refine cT (by rfl) ?_;conv=>whnf)|(refine cF (by rfl) ?_;conv=>whnf)))
      intro b11 w11 hb11 ho11 hx11
      ((conv=>whnf);repeat(first|(refine mvT ?_;conv=>whnf)|(refine mvF ?_;conv=>whnf)|(refine cT (by rfl) ?_;conv=>whnf)|(refine cF (by rfl) ?_;conv=>whnf)))
      refine st_all [.int .i64 11, .int .i64 fr, .int .i64 to, .int .i64 nul, .int .i64 tag, .int .i64 df, .int .i64 of, sv] ho11 rfl rfl hf0.ok ?_
      intro w12 ho12 hx12
      have hx1012 : Ext nob w10 w12 := hx11.st hx12 hb11
      ((conv=>whnf);repeat(first|(refine mvT ?_;conv=>whnf)|(refine mvF ?_;conv=>whnf)|(refine cT (by rfl) ?_;conv=>whnf)|(refine cF (by rfl) ?_;conv=>whnf)))
      refine ldS (((ho.e0 hx310).e0 hx1012).cell rfl) ?_;((conv=>whnf);repeat(first|(refine mvT ?_;conv=>whnf)|(refine mvF ?_;conv=>whnf)|(refine cT (by rfl) ?_;conv=>whnf)|(refine cF (by rfl) ?_;conv=>whnf)))
      refine ⟨_, _, ho12, rfl, rfl, rfl, ?_⟩
      intro w13 ho13 hx13
      ((conv=>whnf);repeat(first|(refine mvT ?_;conv=>whnf)|(refine mvF ?_;conv=>whnf)|(refine cT (by rfl) ?_;conv=>whnf)|(refine cF (by rfl) ?_;conv=>whnf)))
      refine ⟨_, _, ho13, rfl, rfl, rfl, ?_⟩
      intro w14 ho14 hx14
      ((conv=>whnf);repeat(first|(refine mvT ?_;conv=>whnf)|(refine mvF ?_;conv=>whnf)|(refine cT (by rfl) ?_;conv=>whnf)|(refine cF (by rfl) ?_;conv=>whnf)))
      refine ⟨_, _, ho14, rfl, rfl, rfl, ?_⟩
      intro w15 ho15 hx15
      have ho15 : Own w15 b11 50 [.int .i64 of, .int .i64 fr, .int .i64 to, .int .i64 (-1), .int .i64 (-1), .int .i64 df, .int .i64 of, sv] := ho15
      have hx1015 : Ext nob w10 w15 := ((hx1012.st hx13 hb11).st hx14 hb11).st hx15 hb11
      have hx315 : Ext nob w3 w15 := hx310.e0 hx1015
      have hxw15 : Ext nob w w15 := hx.e0 hx315
      have ho10 := ho10.e0 hx1015
      have hone : FdC w15 (fun k => F k ∧ k < w.heap.size) [.int .i64 of, .int .i64 fr, .int .i64 to, .int .i64 (-1), .int .i64 (-1), .int .i64 df, .int .i64 of, sv] (.mk of fr to (-1) (-1) df of sub) := .mk of fr to (-1) (-1) df of sub sv ls (hl.e0 hxw15) hlen2 fun i c f h1 h2 => (hr i c f h1 h2).e0 hxw15
      ((conv=>whnf);repeat(first|(refine mvT ?_;conv=>whnf)|(refine mvF ?_;conv=>whnf)|(refine cT (by rfl) ?_;conv=>whnf)|(refine cF (by rfl) ?_;conv=>whnf)))
      refine ldS ((ho2.e0 hx315).cell rfl) ?_;((conv=>whnf);repeat(first|(refine mvT ?_;conv=>whnf)|(refine mvF ?_;conv=>whnf)|(refine cT (by rfl) ?_;conv=>whnf)|(refine cF (by rfl) ?_;conv=>whnf)))
      refine Does.mono (things_does (hl'.e0 hxw15)) ?_
      rintro r16 w16 ⟨hr16, rfl⟩
      obtain ⟨a16, c16, rfl, hc16, hm16, hF16, hS16, hC16⟩ := hr16.view
      have hl16 : (ls'.take most).length = (l.take most).length := by rw [List.length_take, List.length_take, hlen']
      have hmost := take_most_length l
      ((conv=>whnf);repeat(first|(refine mvT ?_;conv=>whnf)|(refine mvF ?_;conv=>whnf)|(refine cT (by rfl) ?_;conv=>whnf)|(refine cF (by rfl) ?_;conv=>whnf)))
      have hb69 : b6 < b9 := by have := ho6.lt; have := hb9; omega
      have hb9w : b9 < w16.heap.size := ho10.lt
      have hb11w : b11 < w16.heap.size := ho15.lt
      have hb911 : b9 ≠ b11 := by have h1 := hb11; have h2 := ho10.lt; have h3 := hx10.size; have h4 := ho9.lt; omega
      have hwb9 : w.heap.size ≤ b9 := by omega
      refine VL.loop (fun i : Nat × Value => [(1, .int .i64 v), (3, .pointer (some ⟨b, 0, none⟩)), (5, .pointer (some ⟨b2, 0, none⟩)), (6, .pointer (some ⟨b6, 0, none⟩)), (9, .pointer (some ⟨b9, 0, none⟩)), (10, .pointer (some ⟨b11, 0, none⟩)), (60, .slice a16 (ls'.take most).length c16), (61, .int .i64 (ls'.take most).length), (62, .int .i64 i.1)])
        (fun i w' => (Ext (fun k => k = b9) w16 w' ∧ i.1 ≤ (ls'.take most).length) ∧ Own w' b9 TreeT [.int .i64 0, .slice none 0 0, .bool false, i.2, .slice none 0 0] ∧ ∃ cs, OSl w' w16.heap.size TreeT 5 i.2 cs ∧ Els w' (fun k => (plus G w k ∧ k ≠ b6 ∧ k ≠ b9) ∧ i.2.ownBlock ≠ some k) cs (((l.take most).take i.1).map (fit1 (fun sub t => fitB d v sub t) of sub false))) (fun i => (ls'.take most).length - i.1) (0, .slice none 0 0)
        ⟨rfl, rfl, rfl, rfl, rfl, rfl, rfl, rfl, rfl, trivial⟩ ⟨⟨Ext.refl _ _, Nat.zero_le _⟩, ho10, [], OSl.nil _ _ _ _, Els.nil _ _⟩ ?_
      rintro ⟨i, vl⟩ w17 ⟨⟨hx17, hi⟩, ho17, cs, hos, hels⟩
      dsimp only at hi ho17 hos hels
      ((conv=>whnf);repeat(first|(refine mvT ?_;conv=>whnf)|(refine mvF ?_;conv=>whnf)|(refine cT (by rfl) ?_;conv=>whnf)|(refine cF (by rfl) ?_;conv=>whnf)))
      refine cI (by rfl) (fun h7=>?_) (fun h7=>?_)
      · have hil : i < (ls'.take most).length := by have := of_decide_eq_true h7; simp only at this; omega
        have hill : i < (l.take most).length := by omega
        have hil' : i < ls'.length := by rw [List.length_take] at hil; omega
        have hill' : i < l.length := by omega
        have htr := hr' i ls'[i] l[i] (by simp [hil']) (by simp [hill'])
        have hgc : (ls'.take most)[i]? = some ls'[i] := by
          rw [List.getElem?_take, if_pos (by rw [List.length_take] at hil; omega)]
          simp [hil']
        have hgl : (l.take most)[i] = l[i] := by simp
        obtain ⟨b18, o18, rfl, hc18⟩ := hC16 i ls'[i] hgc
        have hb18 := hF16 b18 o18 rfl (by omega)
        have hc18 := hc18.ext hx17 (by have := hb18.1.2; omega)
        have htr17 := (htr.e0 hxw15).ext hx17 (fun k _ h1 h2 => by have := h1.2; omega)
        ((conv=>whnf);repeat(first|(refine mvT ?_;conv=>whnf)|(refine mvF ?_;conv=>whnf)|(refine cT (by rfl) ?_;conv=>whnf)|(refine cF (by rfl) ?_;conv=>whnf)))
        refine ⟨b18, o18, rfl, ⟨by omega, by omega⟩, ?_⟩
        ((conv=>whnf);repeat(first|(refine mvT ?_;conv=>whnf)|(refine mvF ?_;conv=>whnf)|(refine cT (by rfl) ?_;conv=>whnf)|(refine cF (by rfl) ?_;conv=>whnf)))
        refine ⟨ls'[i], htr.len, by rw [Int.toNat_natCast]; exact hc18, ?_⟩
        ((conv=>whnf);repeat(first|(refine mvT ?_;conv=>whnf)|(refine mvF ?_;conv=>whnf)|(refine cT (by rfl) ?_;conv=>whnf)|(refine cF (by rfl) ?_;conv=>whnf)))
        intro b19 w19 hb19 ho19 hx19
        ((conv=>whnf);repeat(first|(refine mvT ?_;conv=>whnf)|(refine mvF ?_;conv=>whnf)|(refine cT (by rfl) ?_;conv=>whnf)|(refine cF (by rfl) ?_;conv=>whnf)))
        refine st_all ls'[i] ho19 htr.len rfl htr.ok ?_
        intro w20 ho20 hx20
        have hx1720 : Ext nob w17 w20.drew := (hx19.st hx20 hb19).e0 (ext_drew _)
        have ho20 := ho20.e0 (ext_drew _)
        have ho17d := ho17.e0 hx1720
        have ho15d := (ho15.ext hx17 fun h => hb911 h.symm).e0 hx1720
        have honed := (hone.ext hx17 fun k _ h1 h2 => by have := h1.2; omega).e0 hx1720
        have htrd := htr17.e0 hx1720
        have hosd := hos.e0 hx1720
        have helsd := hels.e0 hx1720
        ((conv=>whnf);repeat(first|(refine mvT ?_;conv=>whnf)|(refine mvF ?_;conv=>whnf)|(refine cT (by rfl) ?_;conv=>whnf)|(refine cF (by rfl) ?_;conv=>whnf)))
        refine VD.draw mixed (.q 0 (.q 1 (.q 2 (.q 3 (.q 4 (.eff 5 [1] (.eff 6 [1] (.eff 7 [] (.q 8 (.eff 9 [] (.done))))))))))) (by kernel_rfl) ?_;((conv=>whnf);repeat(first|(refine mvT ?_;conv=>whnf)|(refine mvF ?_;conv=>whnf)|(refine cT (by rfl) ?_;conv=>whnf)|(refine cF (by rfl) ?_;conv=>whnf)))
        refine ldS (ho17d.cell rfl) ?_;((conv=>whnf);repeat(first|(refine mvT ?_;conv=>whnf)|(refine mvF ?_;conv=>whnf)|(refine cT (by rfl) ?_;conv=>whnf)|(refine cF (by rfl) ?_;conv=>whnf)))
        refine ⟨_, rfl, ho15d.cells, ?_⟩
        ((conv=>whnf);repeat(first|(refine mvT ?_;conv=>whnf)|(refine mvF ?_;conv=>whnf)|(refine cT (by rfl) ?_;conv=>whnf)|(refine cF (by rfl) ?_;conv=>whnf)))
        refine ⟨ls'[i], htr.len, ho20.cells, ?_⟩
        ((conv=>whnf);repeat(first|(refine mvT ?_;conv=>whnf)|(refine mvF ?_;conv=>whnf)|(refine cT (by rfl) ?_;conv=>whnf)|(refine cF (by rfl) ?_;conv=>whnf)))
        refine Does.mono (fitted1_does hp (v := v) honed ⟨_, rfl, htrd⟩ hof hsl hsub (nullF_neg _ _ _ _ _ _ _ _ _)) ?_
        rintro r21 w21 ⟨⟨c21, rfl, hr21⟩, hx21⟩
        refine ⟨by (conv => whnf); exact ⟨⟨_, (ho17d.e0 hx21).cell rfl, rfl, rfl⟩, trivial⟩, ?_⟩
        have hnx : ((l.take most).take (i + 1)).map (fit1 (fun sub t => fitB d v sub t) of sub false) = ((l.take most).take i).map (fit1 (fun sub t => fitB d v sub t) of sub false) ++ [fit1 (fun sub t => fitB d v sub t) of sub false l[i]] := by
          rw [List.take_succ_eq_append_getElem hill, List.map_append, hgl]
          rfl
        generalize hft : fit1 (fun sub t => fitB d v sub t) of sub false l[i] = ft at hr21 hnx
        have hrm := hr21.mono (F' := fun k => (plus G w k ∧ k ≠ b6 ∧ k ≠ b9) ∧ vl.ownBlock ≠ some k) fun k h1 h2 => by
          have hvl := hosd.own.lt
          have hsz := hx1720.size
          have hs17 := hx17.size
          rcases h2 with h | h
          · have hk := h.2
            refine ⟨⟨.inl h.1, by omega, by omega⟩, fun hv => ?_⟩
            have := hos.blk k hv
            omega
          · refine ⟨⟨.inr (by have := hxw15.size; omega), by omega, by omega⟩, fun hv => ?_⟩
            have := hvl k hv
            omega
        clear hr21
        cases hrm
        rename_i n4 s4 nl4 l4 u4 sv4 lv4 uv4 ls4 hn4 hs4 hl4 hlen4 hr4 hu4
        have hc21 : TrC w21 (fun k => (plus G w k ∧ k ≠ b6 ∧ k ≠ b9) ∧ vl.ownBlock ≠ some k) [.int .i64 n4, sv4, .bool nl4, lv4, uv4] (.mk n4 s4 nl4 l4 u4) := .mk n4 s4 nl4 l4 u4 sv4 lv4 uv4 ls4 hn4 hs4 hl4 hlen4 hr4 hu4
        have hok21 := hc21.ok
        have hone1 := Sl.one hs4
        have hone2 := hl4.1.one
        have hone3 := hu4.one
        ((conv=>whnf);repeat(first|(refine mvT ?_;conv=>whnf)|(refine mvF ?_;conv=>whnf)|(refine cT (by rfl) ?_;conv=>whnf)|(refine cF (by rfl) ?_;conv=>whnf)))
        intro b22 w22 hb22 ho22 hx22
        have hx1722 : Ext nob w17 w22 := (hx1720.e0 hx21).e0 hx22
        refine ⟨by (conv => whnf); exact ⟨⟨_, (ho17.e0 hx1722).cell rfl, rfl, rfl⟩, trivial⟩, ?_⟩
        have hcs : cs.length = i := by rw [hels.len, List.length_map, List.length_take]; omega
        have hb9s := fun h => (hos.blk b9 h)
        ((conv=>whnf);repeat(first|(refine mvT ?_;conv=>whnf)|(refine mvF ?_;conv=>whnf)|(refine cT (by rfl) ?_;conv=>whnf)|(refine cF (by rfl) ?_;conv=>whnf)))
        refine app_struct (ms := [[.int .i64 n4, sv4, .bool nl4, lv4, uv4]]) rfl ((hosd.e0 hx21).e0 hx22) (src_tree ho22 rfl rfl) (by simp) (by rw [List.flatten_cons, List.flatten_nil, List.append_nil]; exact hok21) rfl ⟨by simp only [List.length_singleton]; omega, by simp only [List.length_singleton]; omega⟩ (by have := hx17.size; have := hx1722.size; omega) ?_
        intro v23 w23 hos23 hx23 hb23 _
        obtain ⟨a23, c23, rfl, hc23, hm23⟩ := hos23.shape
        have ho17' := (ho17.e0 hx1722).ext hx23 fun h => by have := hb9s h; omega
        ((conv=>whnf);repeat(first|(refine mvT ?_;conv=>whnf)|(refine mvF ?_;conv=>whnf)|(refine cT (by rfl) ?_;conv=>whnf)|(refine cF (by rfl) ?_;conv=>whnf)))
        refine ⟨_, _, ho17', rfl, rfl, rfl, ?_⟩
        intro w24 ho24 hx24
        ((conv=>whnf);repeat(first|(refine mvT ?_;conv=>whnf)|(refine mvF ?_;conv=>whnf)|(refine cT (by rfl) ?_;conv=>whnf)|(refine cF (by rfl) ?_;conv=>whnf)))
        have hels22 : Els w22 (fun k => ((plus G w k ∧ k ≠ b6 ∧ k ≠ b9) ∧ vl.ownBlock ≠ some k) ∧ k < w22.heap.size) _ _ := (((helsd.e0 hx21).snoc hc21).e0 hx22).mono fun k h1 h2 => ⟨h2, h1⟩
        have hels23 := (hels22.ext hx23 fun k _ h1 h2 => h1.1.2 h2).mono (F' := fun k => (plus G w k ∧ k ≠ b6 ∧ k ≠ b9) ∧ (Value.slice a23 (cs ++ [[.int .i64 n4, sv4, .bool nl4, lv4, uv4]]).length c23).ownBlock ≠ some k) fun k h1 h2 => by
          refine ⟨h2.1.1, fun hv => ?_⟩
          rcases hb23 with h | ⟨q, hq, hle⟩
          · rw [h] at hv
            exact h2.1.2 hv
          · rw [hq, Option.some.injEq] at hv
            have := h2.2
            omega
        have hels24 := hels23.ext hx24 fun k _ h1 h2 => h1.1.2.2 h2
        have hx1624 : Ext (fun k => k = b9) w16 w24 := ((hx17.tr0 hx1722).trans hx23 fun k hk h => by have := hos.blk k h; omega).trans hx24 fun _ _ h => h
        refine ⟨(i + 1, _), ⟨rfl, rfl, rfl, rfl, rfl, rfl, rfl, rfl, inc_eq (by omega), trivial⟩, ⟨⟨hx1624, by simp only; omega⟩, ho24, _, hos23.ext hx24 fun k hk h => by have := hos23.blk k hk; omega, ?_⟩, by simp only; omega⟩
        simp only
        rw [hnx]
        exact hels24
      · have hil : i = (l.take most).length := by have := of_decide_eq_false h7; simp only at this; omega
        ((conv=>whnf);repeat(first|(refine mvT ?_;conv=>whnf)|(refine mvF ?_;conv=>whnf)|(refine cT (by rfl) ?_;conv=>whnf)|(refine cF (by rfl) ?_;conv=>whnf)))
        obtain ⟨avl, cvl, rfl, hcvl, hmvl⟩ := hos.shape
        refine ⟨_, rfl, ho17.cells, ?_⟩
        ((conv=>whnf);repeat(first|(refine mvT ?_;conv=>whnf)|(refine mvF ?_;conv=>whnf)|(refine cT (by rfl) ?_;conv=>whnf)|(refine cF (by rfl) ?_;conv=>whnf)))
        refine st_all [.int .i64 0, .slice none 0 0, .bool _, .slice avl cs.length cvl, .slice none 0 0] ((ho6.e0 hx315).ext hx17 (by omega)) rfl rfl rfl ?_
        intro w18 ho18 hx18
        have hxw18 := (hxw15.st hx17 hwb9).st hx18 hwb6
        ((conv=>whnf);repeat(first|(refine mvT ?_;conv=>whnf)|(refine mvF ?_;conv=>whnf)|(refine cT (by rfl) ?_;conv=>whnf)|(refine cF (by rfl) ?_;conv=>whnf)))
        refine ⟨_, rfl, ho18.cells, ?_⟩
        rw [hil, List.take_length] at hels
        have hsl18 := (SlE.ext (hos.sl (F := fun k => w16.heap.size ≤ k) fun _ h => h) hx18 fun k _ h1 h2 => by omega).mono (F' := plus G w) fun k _ h => .inr (by have := hxw15.size; omega)
        have hel18 := (hels.ext hx18 fun k _ h1 h2 => h1.1.2.1 h2).mono (F' := plus G w) fun k _ h => h.1.1
        exact ⟨⟨_, rfl, .mk 0 [] _ _ [] _ _ _ cs rfl (Bytes.nil _ _) hsl18 hel18.len hel18.at' (TgsR.nil _ _)⟩, hxw18⟩
    · have hnv : nn = ((ls'.length : Int) == 0) := by rw [← hnn, h5, h6, hlen']; exact (len0 l).symm
      subst hnv
      ((conv=>whnf);repeat(first|(refine mvT ?_;conv=>whnf)|(refine mvF ?_;conv=>whnf)|(refine cT (by rfl) ?_;conv=>whnf)|(refine cF (by rfl) ?_;conv=>whnf)))
      refine ldS (ho2.cell rfl) ?_;((conv=>whnf);repeat(first|(refine mvT ?_;conv=>whnf)|(refine mvF ?_;conv=>whnf)|(refine cT (by rfl) ?_;conv=>whnf)|(refine cF (by rfl) ?_;conv=>whnf)))
      obtain ⟨a8, c8, rfl, _⟩ := hl'.view
      ((conv=>whnf);repeat(first|(refine mvT ?_;conv=>whnf)|(refine mvF ?_;conv=>whnf)|(refine cT (by rfl) ?_;conv=>whnf)|(refine cF (by rfl) ?_;conv=>whnf)))
      intro b9 w9 hb9 ho9 hx9
      ((conv=>whnf);repeat(first|(refine mvT ?_;conv=>whnf)|(refine mvF ?_;conv=>whnf)|(refine cT (by rfl) ?_;conv=>whnf)|(refine cF (by rfl) ?_;conv=>whnf)))
      refine st_all [.int .i64 0, .slice none 0 0, .bool _, .slice none 0 0, .slice none 0 0] ho9 rfl rfl rfl ?_
      intro w10 ho10 hx10
      have hx310 : Ext nob w3 w10 := hx9.st hx10 hb9
      ((conv=>whnf);repeat(first|(refine mvT ?_;conv=>whnf)|(refine mvF ?_;conv=>whnf)|(refine cT (by rfl) ?_;conv=>whnf)|(refine cF (by rfl) ?_;conv=>whnf)))
      refine ⟨_, rfl, (ho.e0 hx310).cells, ?_⟩
      ((conv=>whnf);repeat(first|(refine mvT ?_;conv=>whnf)|(refine mvF ?_;conv=>whnf)|(refine cT (by rfl) ?_;conv=>whnf)|(refine cF (by rfl) ?_;conv=>whnf)))
      intro b11 w11 hb11 ho11 hx11
      ((conv=>whnf);repeat(first|(refine mvT ?_;conv=>whnf)|(refine mvF ?_;conv=>whnf)|(refine cT (by rfl) ?_;conv=>whnf)|(refine cF (by rfl) ?_;conv=>whnf)))
      refine st_all [.int .i64 11, .int .i64 fr, .int .i64 to, .int .i64 nul, .int .i64 tag, .int .i64 df, .int .i64 of, sv] ho11 rfl rfl hf0.ok ?_
      intro w12 ho12 hx12
      have hx1012 : Ext nob w10 w12 := hx11.st hx12 hb11
      ((conv=>whnf);repeat(first|(refine mvT ?_;conv=>whnf)|(refine mvF ?_;conv=>whnf)|(refine cT (by rfl) ?_;conv=>whnf)|(refine cF (by rfl) ?_;conv=>whnf)))
      refine ldS (((ho.e0 hx310).e0 hx1012).cell rfl) ?_;((conv=>whnf);repeat(first|(refine mvT ?_;conv=>whnf)|(refine mvF ?_;conv=>whnf)|(refine cT (by rfl) ?_;conv=>whnf)|(refine cF (by rfl) ?_;conv=>whnf)))
      refine ⟨_, _, ho12, rfl, rfl, rfl, ?_⟩
      intro w13 ho13 hx13
      ((conv=>whnf);repeat(first|(refine mvT ?_;conv=>whnf)|(refine mvF ?_;conv=>whnf)|(refine cT (by rfl) ?_;conv=>whnf)|(refine cF (by rfl) ?_;conv=>whnf)))
      refine ⟨_, _, ho13, rfl, rfl, rfl, ?_⟩
      intro w14 ho14 hx14
      ((conv=>whnf);repeat(first|(refine mvT ?_;conv=>whnf)|(refine mvF ?_;conv=>whnf)|(refine cT (by rfl) ?_;conv=>whnf)|(refine cF (by rfl) ?_;conv=>whnf)))
      refine ⟨_, _, ho14, rfl, rfl, rfl, ?_⟩
      intro w15 ho15 hx15
      have ho15 : Own w15 b11 50 [.int .i64 of, .int .i64 fr, .int .i64 to, .int .i64 (-1), .int .i64 (-1), .int .i64 df, .int .i64 of, sv] := ho15
      have hx1015 : Ext nob w10 w15 := ((hx1012.st hx13 hb11).st hx14 hb11).st hx15 hb11
      have hx315 : Ext nob w3 w15 := hx310.e0 hx1015
      have hxw15 : Ext nob w w15 := hx.e0 hx315
      have ho10 := ho10.e0 hx1015
      have hone : FdC w15 (fun k => F k ∧ k < w.heap.size) [.int .i64 of, .int .i64 fr, .int .i64 to, .int .i64 (-1), .int .i64 (-1), .int .i64 df, .int .i64 of, sv] (.mk of fr to (-1) (-1) df of sub) := .mk of fr to (-1) (-1) df of sub sv ls (hl.e0 hxw15) hlen2 fun i c f h1 h2 => (hr i c f h1 h2).e0 hxw15
      ((conv=>whnf);repeat(first|(refine mvT ?_;conv=>whnf)|(refine mvF ?_;conv=>whnf)|(refine cT (by rfl) ?_;conv=>whnf)|(refine cF (by rfl) ?_;conv=>whnf)))
      refine ldS ((ho2.e0 hx315).cell rfl) ?_;((conv=>whnf);repeat(first|(refine mvT ?_;conv=>whnf)|(refine mvF ?_;conv=>whnf)|(refine cT (by rfl) ?_;conv=>whnf)|(refine cF (by rfl) ?_;conv=>whnf)))
      refine Does.mono (things_does (hl'.e0 hxw15)) ?_
      rintro r16 w16 ⟨hr16, rfl⟩
      obtain ⟨a16, c16, rfl, hc16, hm16, hF16, hS16, hC16⟩ := hr16.view
      have hl16 : (ls'.take most).length = (l.take most).length := by rw [List.length_take, List.length_take, hlen']
      have hmost := take_most_length l
      ((conv=>whnf);repeat(first|(refine mvT ?_;conv=>whnf)|(refine mvF ?_;conv=>whnf)|(refine cT (by rfl) ?_;conv=>whnf)|(refine cF (by rfl) ?_;conv=>whnf)))
      have hb69 : b6 < b9 := by have := ho6.lt; have := hb9; omega
      have hb9w : b9 < w16.heap.size := ho10.lt
      have hb11w : b11 < w16.heap.size := ho15.lt
      have hb911 : b9 ≠ b11 := by have h1 := hb11; have h2 := ho10.lt; have h3 := hx10.size; have h4 := ho9.lt; omega
      have hwb9 : w.heap.size ≤ b9 := by omega
      refine VL.loop (fun i : Nat × Value => [(1, .int .i64 v), (3, .pointer (some ⟨b, 0, none⟩)), (5, .pointer (some ⟨b2, 0, none⟩)), (6, .pointer (some ⟨b6, 0, none⟩)), (9, .pointer (some ⟨b9, 0, none⟩)), (10, .pointer (some ⟨b11, 0, none⟩)), (60, .slice a16 (ls'.take most).length c16), (61, .int .i64 (ls'.take most).length), (62, .int .i64 i.1)])
        (fun i w' => (Ext (fun k => k = b9) w16 w' ∧ i.1 ≤ (ls'.take most).length) ∧ Own w' b9 TreeT [.int .i64 0, .slice none 0 0, .bool ((ls'.length : Int) == 0), i.2, .slice none 0 0] ∧ ∃ cs, OSl w' w16.heap.size TreeT 5 i.2 cs ∧ Els w' (fun k => (plus G w k ∧ k ≠ b6 ∧ k ≠ b9) ∧ i.2.ownBlock ≠ some k) cs (((l.take most).take i.1).map (fit1 (fun sub t => fitB d v sub t) of sub false))) (fun i => (ls'.take most).length - i.1) (0, .slice none 0 0)
        ⟨rfl, rfl, rfl, rfl, rfl, rfl, rfl, rfl, rfl, trivial⟩ ⟨⟨Ext.refl _ _, Nat.zero_le _⟩, ho10, [], OSl.nil _ _ _ _, Els.nil _ _⟩ ?_
      rintro ⟨i, vl⟩ w17 ⟨⟨hx17, hi⟩, ho17, cs, hos, hels⟩
      dsimp only at hi ho17 hos hels
      ((conv=>whnf);repeat(first|(refine mvT ?_;conv=>whnf)|(refine mvF ?_;conv=>whnf)|(refine cT (by rfl) ?_;conv=>whnf)|(refine cF (by rfl) ?_;conv=>whnf)))
      refine cI (by rfl) (fun h7=>?_) (fun h7=>?_)
      · have hil : i < (ls'.take most).length := by have := of_decide_eq_true h7; simp only at this; omega
        have hill : i < (l.take most).length := by omega
        have hil' : i < ls'.length := by rw [List.length_take] at hil; omega
        have hill' : i < l.length := by omega
        have htr := hr' i ls'[i] l[i] (by simp [hil']) (by simp [hill'])
        have hgc : (ls'.take most)[i]? = some ls'[i] := by
          rw [List.getElem?_take, if_pos (by rw [List.length_take] at hil; omega)]
          simp [hil']
        have hgl : (l.take most)[i] = l[i] := by simp
        obtain ⟨b18, o18, rfl, hc18⟩ := hC16 i ls'[i] hgc
        have hb18 := hF16 b18 o18 rfl (by omega)
        have hc18 := hc18.ext hx17 (by have := hb18.1.2; omega)
        have htr17 := (htr.e0 hxw15).ext hx17 (fun k _ h1 h2 => by have := h1.2; omega)
        ((conv=>whnf);repeat(first|(refine mvT ?_;conv=>whnf)|(refine mvF ?_;conv=>whnf)|(refine cT (by rfl) ?_;conv=>whnf)|(refine cF (by rfl) ?_;conv=>whnf)))
        refine ⟨b18, o18, rfl, ⟨by omega, by omega⟩, ?_⟩
        ((conv=>whnf);repeat(first|(refine mvT ?_;conv=>whnf)|(refine mvF ?_;conv=>whnf)|(refine cT (by rfl) ?_;conv=>whnf)|(refine cF (by rfl) ?_;conv=>whnf)))
        refine ⟨ls'[i], htr.len, by rw [Int.toNat_natCast]; exact hc18, ?_⟩
        ((conv=>whnf);repeat(first|(refine mvT ?_;conv=>whnf)|(refine mvF ?_;conv=>whnf)|(refine cT (by rfl) ?_;conv=>whnf)|(refine cF (by rfl) ?_;conv=>whnf)))
        intro b19 w19 hb19 ho19 hx19
        ((conv=>whnf);repeat(first|(refine mvT ?_;conv=>whnf)|(refine mvF ?_;conv=>whnf)|(refine cT (by rfl) ?_;conv=>whnf)|(refine cF (by rfl) ?_;conv=>whnf)))
        refine st_all ls'[i] ho19 htr.len rfl htr.ok ?_
        intro w20 ho20 hx20
        have hx1720 : Ext nob w17 w20.drew := (hx19.st hx20 hb19).e0 (ext_drew _)
        have ho20 := ho20.e0 (ext_drew _)
        have ho17d := ho17.e0 hx1720
        have ho15d := (ho15.ext hx17 fun h => hb911 h.symm).e0 hx1720
        have honed := (hone.ext hx17 fun k _ h1 h2 => by have := h1.2; omega).e0 hx1720
        have htrd := htr17.e0 hx1720
        have hosd := hos.e0 hx1720
        have helsd := hels.e0 hx1720
        ((conv=>whnf);repeat(first|(refine mvT ?_;conv=>whnf)|(refine mvF ?_;conv=>whnf)|(refine cT (by rfl) ?_;conv=>whnf)|(refine cF (by rfl) ?_;conv=>whnf)))
        refine VD.draw mixed (.q 0 (.q 1 (.q 2 (.q 3 (.q 4 (.eff 5 [1] (.eff 6 [1] (.eff 7 [] (.q 8 (.eff 9 [] (.done))))))))))) (by kernel_rfl) ?_;((conv=>whnf);repeat(first|(refine mvT ?_;conv=>whnf)|(refine mvF ?_;conv=>whnf)|(refine cT (by rfl) ?_;conv=>whnf)|(refine cF (by rfl) ?_;conv=>whnf)))
        refine ldS (ho17d.cell rfl) ?_;((conv=>whnf);repeat(first|(refine mvT ?_;conv=>whnf)|(refine mvF ?_;conv=>whnf)|(refine cT (by rfl) ?_;conv=>whnf)|(refine cF (by rfl) ?_;conv=>whnf)))
        refine ⟨_, rfl, ho15d.cells, ?_⟩
        ((conv=>whnf);repeat(first|(refine mvT ?_;conv=>whnf)|(refine mvF ?_;conv=>whnf)|(refine cT (by rfl) ?_;conv=>whnf)|(refine cF (by rfl) ?_;conv=>whnf)))
        refine ⟨ls'[i], htr.len, ho20.cells, ?_⟩
        ((conv=>whnf);repeat(first|(refine mvT ?_;conv=>whnf)|(refine mvF ?_;conv=>whnf)|(refine cT (by rfl) ?_;conv=>whnf)|(refine cF (by rfl) ?_;conv=>whnf)))
        refine Does.mono (fitted1_does hp (v := v) honed ⟨_, rfl, htrd⟩ hof hsl hsub (nullF_neg _ _ _ _ _ _ _ _ _)) ?_
        rintro r21 w21 ⟨⟨c21, rfl, hr21⟩, hx21⟩
        refine ⟨by (conv => whnf); exact ⟨⟨_, (ho17d.e0 hx21).cell rfl, rfl, rfl⟩, trivial⟩, ?_⟩
        have hnx : ((l.take most).take (i + 1)).map (fit1 (fun sub t => fitB d v sub t) of sub false) = ((l.take most).take i).map (fit1 (fun sub t => fitB d v sub t) of sub false) ++ [fit1 (fun sub t => fitB d v sub t) of sub false l[i]] := by
          rw [List.take_succ_eq_append_getElem hill, List.map_append, hgl]
          rfl
        generalize hft : fit1 (fun sub t => fitB d v sub t) of sub false l[i] = ft at hr21 hnx
        have hrm := hr21.mono (F' := fun k => (plus G w k ∧ k ≠ b6 ∧ k ≠ b9) ∧ vl.ownBlock ≠ some k) fun k h1 h2 => by
          have hvl := hosd.own.lt
          have hsz := hx1720.size
          have hs17 := hx17.size
          rcases h2 with h | h
          · have hk := h.2
            refine ⟨⟨.inl h.1, by omega, by omega⟩, fun hv => ?_⟩
            have := hos.blk k hv
            omega
          · refine ⟨⟨.inr (by have := hxw15.size; omega), by omega, by omega⟩, fun hv => ?_⟩
            have := hvl k hv
            omega
        clear hr21
        cases hrm
        rename_i n4 s4 nl4 l4 u4 sv4 lv4 uv4 ls4 hn4 hs4 hl4 hlen4 hr4 hu4
        have hc21 : TrC w21 (fun k => (plus G w k ∧ k ≠ b6 ∧ k ≠ b9) ∧ vl.ownBlock ≠ some k) [.int .i64 n4, sv4, .bool nl4, lv4, uv4] (.mk n4 s4 nl4 l4 u4) := .mk n4 s4 nl4 l4 u4 sv4 lv4 uv4 ls4 hn4 hs4 hl4 hlen4 hr4 hu4
        have hok21 := hc21.ok
        have hone1 := Sl.one hs4
        have hone2 := hl4.1.one
        have hone3 := hu4.one
        ((conv=>whnf);repeat(first|(refine mvT ?_;conv=>whnf)|(refine mvF ?_;conv=>whnf)|(refine cT (by rfl) ?_;conv=>whnf)|(refine cF (by rfl) ?_;conv=>whnf)))
        intro b22 w22 hb22 ho22 hx22
        have hx1722 : Ext nob w17 w22 := (hx1720.e0 hx21).e0 hx22
        refine ⟨by (conv => whnf); exact ⟨⟨_, (ho17.e0 hx1722).cell rfl, rfl, rfl⟩, trivial⟩, ?_⟩
        have hcs : cs.length = i := by rw [hels.len, List.length_map, List.length_take]; omega
        have hb9s := fun h => (hos.blk b9 h)
        ((conv=>whnf);repeat(first|(refine mvT ?_;conv=>whnf)|(refine mvF ?_;conv=>whnf)|(refine cT (by rfl) ?_;conv=>whnf)|(refine cF (by rfl) ?_;conv=>whnf)))
        refine app_struct (ms := [[.int .i64 n4, sv4, .bool nl4, lv4, uv4]]) rfl ((hosd.e0 hx21).e0 hx22) (src_tree ho22 rfl rfl) (by simp) (by rw [List.flatten_cons, List.flatten_nil, List.append_nil]; exact hok21) rfl ⟨by simp only [List.length_singleton]; omega, by simp only [List.length_singleton]; omega⟩ (by have := hx17.size; have := hx1722.size; omega) ?_
        intro v23 w23 hos23 hx23 hb23 _
        obtain ⟨a23, c23, rfl, hc23, hm23⟩ := hos23.shape
        have ho17' := (ho17.e0 hx1722).ext hx23 fun h => by have := hb9s h; omega
        ((conv=>whnf);repeat(first|(refine mvT ?_;conv=>whnf)|(refine mvF ?_;conv=>whnf)|(refine cT (by rfl) ?_;conv=>whnf)|(refine cF (by rfl) ?_;conv=>whnf)))
        refine ⟨_, _, ho17', rfl, rfl, rfl, ?_⟩
        intro w24 ho24 hx24
        ((conv=>whnf);repeat(first|(refine mvT ?_;conv=>whnf)|(refine mvF ?_;conv=>whnf)|(refine cT (by rfl) ?_;conv=>whnf)|(refine cF (by rfl) ?_;conv=>whnf)))
        have hels22 : Els w22 (fun k => ((plus G w k ∧ k ≠ b6 ∧ k ≠ b9) ∧ vl.ownBlock ≠ some k) ∧ k < w22.heap.size) _ _ := (((helsd.e0 hx21).snoc hc21).e0 hx22).mono fun k h1 h2 => ⟨h2, h1⟩
        have hels23 := (hels22.ext hx23 fun k _ h1 h2 => h1.1.2 h2).mono (F' := fun k => (plus G w k ∧ k ≠ b6 ∧ k ≠ b9) ∧ (Value.slice a23 (cs ++ [[.int .i64 n4, sv4, .bool nl4, lv4, uv4]]).length c23).ownBlock ≠ some k) fun k h1 h2 => by
          refine ⟨h2.1.1, fun hv => ?_⟩
          rcases hb23 with h | ⟨q, hq, hle⟩
          · rw [h] at hv
            exact h2.1.2 hv
          · rw [hq, Option.some.injEq] at hv
            have := h2.2
            omega
        have hels24 := hels23.ext hx24 fun k _ h1 h2 => h1.1.2.2 h2
        have hx1624 : Ext (fun k => k = b9) w16 w24 := ((hx17.tr0 hx1722).trans hx23 fun k hk h => by have := hos.blk k h; omega).trans hx24 fun _ _ h => h
        refine ⟨(i + 1, _), ⟨rfl, rfl, rfl, rfl, rfl, rfl, rfl, rfl, inc_eq (by omega), trivial⟩, ⟨⟨hx1624, by simp only; omega⟩, ho24, _, hos23.ext hx24 fun k hk h => by have := hos23.blk k hk; omega, ?_⟩, by simp only; omega⟩
        simp only
        rw [hnx]
        exact hels24
      · have hil : i = (l.take most).length := by have := of_decide_eq_false h7; simp only at this; omega
        ((conv=>whnf);repeat(first|(refine mvT ?_;conv=>whnf)|(refine mvF ?_;conv=>whnf)|(refine cT (by rfl) ?_;conv=>whnf)|(refine cF (by rfl) ?_;conv=>whnf)))
        obtain ⟨avl, cvl, rfl, hcvl, hmvl⟩ := hos.shape
        refine ⟨_, rfl, ho17.cells, ?_⟩
        ((conv=>whnf);repeat(first|(refine mvT ?_;conv=>whnf)|(refine mvF ?_;conv=>whnf)|(refine cT (by rfl) ?_;conv=>whnf)|(refine cF (by rfl) ?_;conv=>whnf)))
        refine st_all [.int .i64 0, .slice none 0 0, .bool _, .slice avl cs.length cvl, .slice none 0 0] ((ho6.e0 hx315).ext hx17 (by omega)) rfl rfl rfl ?_
        intro w18 ho18 hx18
        have hxw18 := (hxw15.st hx17 hwb9).st hx18 hwb6
        ((conv=>whnf);repeat(first|(refine mvT ?_;conv=>whnf)|(refine mvF ?_;conv=>whnf)|(refine cT (by rfl) ?_;conv=>whnf)|(refine cF (by rfl) ?_;conv=>whnf)))
        refine ⟨_, rfl, ho18.cells, ?_⟩
        rw [hil, List.take_length] at hels
        have hsl18 := (SlE.ext (hos.sl (F := fun k => w16.heap.size ≤ k) fun _ h => h) hx18 fun k _ h1 h2 => by omega).mono (F' := plus G w) fun k _ h => .inr (by have := hxw15.size; omega)
        have hel18 := (hels.ext hx18 fun k _ h1 h2 => h1.1.2.1 h2).mono (F' := plus G w) fun k _ h => h.1.1
        exact ⟨⟨_, rfl, .mk 0 [] _ _ [] _ _ _ cs rfl (Bytes.nil _ _) hsl18 hel18.len hel18.at' (TgsR.nil _ _)⟩, hxw18⟩
  · have hnv : nn = true := by rw [← hnn, h5]; rfl
    subst hnv
    ((conv=>whnf);repeat(first|(refine mvT ?_;conv=>whnf)|(refine mvF ?_;conv=>whnf)|(refine cT (by rfl) ?_;conv=>whnf)|(refine cF (by rfl) ?_;conv=>whnf)))
    intro b9 w9 hb9 ho9 hx9
    ((conv=>whnf);repeat(first|(refine mvT ?_;conv=>whnf)|(refine mvF ?_;conv=>whnf)|(refine cT (by rfl) ?_;conv=>whnf)|(refine cF (by rfl) ?_;conv=>whnf)))
    refine st_all [.int .i64 0, .slice none 0 0, .bool _, .slice none 0 0, .slice none 0 0] ho9 rfl rfl rfl ?_
    intro w10 ho10 hx10
    have hx310 : Ext nob w3 w10 := hx9.st hx10 hb9
    ((conv=>whnf);repeat(first|(refine mvT ?_;conv=>whnf)|(refine mvF ?_;conv=>whnf)|(refine cT (by rfl) ?_;conv=>whnf)|(refine cF (by rfl) ?_;conv=>whnf)))
    refine ⟨_, rfl, (ho.e0 hx310).cells, ?_⟩
    ((conv=>whnf);repeat(first|(refine mvT ?_;conv=>whnf)|(refine mvF ?_;conv=>whnf)|(refine cT (by rfl) ?_;conv=>whnf)|(refine cF (by rfl) ?_;conv=>whnf)))
    intro b11 w11 hb11 ho11 hx11
    ((conv=>whnf);repeat(first|(refine mvT ?_;conv=>whnf)|(refine mvF ?_;conv=>whnf)|(refine cT (by rfl) ?_;conv=>whnf)|(refine cF (by rfl) ?_;conv=>whnf)))
    refine st_all [.int .i64 11, .int .i64 fr, .int .i64 to, .int .i64 nul, .int .i64 tag, .int .i64 df, .int .i64 of, sv] ho11 rfl rfl hf0.ok ?_
    intro w12 ho12 hx12
    have hx1012 : Ext nob w10 w12 := hx11.st hx12 hb11
    ((conv=>whnf);repeat(first|(refine mvT ?_;conv=>whnf)|(refine mvF ?_;conv=>whnf)|(refine cT (by rfl) ?_;conv=>whnf)|(refine cF (by rfl) ?_;conv=>whnf)))
    refine ldS (((ho.e0 hx310).e0 hx1012).cell rfl) ?_;((conv=>whnf);repeat(first|(refine mvT ?_;conv=>whnf)|(refine mvF ?_;conv=>whnf)|(refine cT (by rfl) ?_;conv=>whnf)|(refine cF (by rfl) ?_;conv=>whnf)))
    refine ⟨_, _, ho12, rfl, rfl, rfl, ?_⟩
    intro w13 ho13 hx13
    ((conv=>whnf);repeat(first|(refine mvT ?_;conv=>whnf)|(refine mvF ?_;conv=>whnf)|(refine cT (by rfl) ?_;conv=>whnf)|(refine cF (by rfl) ?_;conv=>whnf)))
    refine ⟨_, _, ho13, rfl, rfl, rfl, ?_⟩
    intro w14 ho14 hx14
    ((conv=>whnf);repeat(first|(refine mvT ?_;conv=>whnf)|(refine mvF ?_;conv=>whnf)|(refine cT (by rfl) ?_;conv=>whnf)|(refine cF (by rfl) ?_;conv=>whnf)))
    refine ⟨_, _, ho14, rfl, rfl, rfl, ?_⟩
    intro w15 ho15 hx15
    have ho15 : Own w15 b11 50 [.int .i64 of, .int .i64 fr, .int .i64 to, .int .i64 (-1), .int .i64 (-1), .int .i64 df, .int .i64 of, sv] := ho15
    have hx1015 : Ext nob w10 w15 := ((hx1012.st hx13 hb11).st hx14 hb11).st hx15 hb11
    have hx315 : Ext nob w3 w15 := hx310.e0 hx1015
    have hxw15 : Ext nob w w15 := hx.e0 hx315
    have ho10 := ho10.e0 hx1015
    have hone : FdC w15 (fun k => F k ∧ k < w.heap.size) [.int .i64 of, .int .i64 fr, .int .i64 to, .int .i64 (-1), .int .i64 (-1), .int .i64 df, .int .i64 of, sv] (.mk of fr to (-1) (-1) df of sub) := .mk of fr to (-1) (-1) df of sub sv ls (hl.e0 hxw15) hlen2 fun i c f h1 h2 => (hr i c f h1 h2).e0 hxw15
    ((conv=>whnf);repeat(first|(refine mvT ?_;conv=>whnf)|(refine mvF ?_;conv=>whnf)|(refine cT (by rfl) ?_;conv=>whnf)|(refine cF (by rfl) ?_;conv=>whnf)))
    refine ldS ((ho2.e0 hx315).cell rfl) ?_;((conv=>whnf);repeat(first|(refine mvT ?_;conv=>whnf)|(refine mvF ?_;conv=>whnf)|(refine cT (by rfl) ?_;conv=>whnf)|(refine cF (by rfl) ?_;conv=>whnf)))
    refine Does.mono (things_does (hl'.e0 hxw15)) ?_
    rintro r16 w16 ⟨hr16, rfl⟩
    obtain ⟨a16, c16, rfl, hc16, hm16, hF16, hS16, hC16⟩ := hr16.view
    have hl16 : (ls'.take most).length = (l.take most).length := by rw [List.length_take, List.length_take, hlen']
    have hmost := take_most_length l
    ((conv=>whnf);repeat(first|(refine mvT ?_;conv=>whnf)|(refine mvF ?_;conv=>whnf)|(refine cT (by rfl) ?_;conv=>whnf)|(refine cF (by rfl) ?_;conv=>whnf)))
    have hb69 : b6 < b9 := by have := ho6.lt; have := hb9; omega
    have hb9w : b9 < w16.heap.size := ho10.lt
    have hb11w : b11 < w16.heap.size := ho15.lt
    have hb911 : b9 ≠ b11 := by have h1 := hb11; have h2 := ho10.lt; have h3 := hx10.size; have h4 := ho9.lt; omega
    have hwb9 : w.heap.size ≤ b9 := by omega
    refine VL.loop (fun i : Nat × Value => [(1, .int .i64 v), (3, .pointer (some ⟨b, 0, none⟩)), (5, .pointer (some ⟨b2, 0, none⟩)), (6, .pointer (some ⟨b6, 0, none⟩)), (9, .pointer (some ⟨b9, 0, none⟩)), (10, .pointer (some ⟨b11, 0, none⟩)), (60, .slice a16 (ls'.take most).length c16), (61, .int .i64 (ls'.take most).length), (62, .int .i64 i.1)])
      (fun i w' => (Ext (fun k => k = b9) w16 w' ∧ i.1 ≤ (ls'.take most).length) ∧ Own w' b9 TreeT [.int .i64 0, .slice none 0 0, .bool true, i.2, .slice none 0 0] ∧ ∃ cs, OSl w' w16.heap.size TreeT 5 i.2 cs ∧ Els w' (fun k => (plus G w k ∧ k ≠ b6 ∧ k ≠ b9) ∧ i.2.ownBlock ≠ some k) cs (((l.take most).take i.1).map (fit1 (fun sub t => fitB d v sub t) of sub false))) (fun i => (ls'.take most).length - i.1) (0, .slice none 0 0)
      ⟨rfl, rfl, rfl, rfl, rfl, rfl, rfl, rfl, rfl, trivial⟩ ⟨⟨Ext.refl _ _, Nat.zero_le _⟩, ho10, [], OSl.nil _ _ _ _, Els.nil _ _⟩ ?_
    rintro ⟨i, vl⟩ w17 ⟨⟨hx17, hi⟩, ho17, cs, hos, hels⟩
    dsimp only at hi ho17 hos hels
    ((conv=>whnf);repeat(first|(refine mvT ?_;conv=>whnf)|(refine mvF ?_;conv=>whnf)|(refine cT (by rfl) ?_;conv=>whnf)|(refine cF (by rfl) ?_;conv=>whnf)))
    refine cI (by rfl) (fun h7=>?_) (fun h7=>?_)
    · have hil : i < (ls'.take most).length := by have := of_decide_eq_true h7; simp only at this; omega
      have hill : i < (l.take most).length := by omega
      have hil' : i < ls'.length := by rw [List.length_take] at hil; omega
      have hill' : i < l.length := by omega
      have htr := hr' i ls'[i] l[i] (by simp [hil']) (by simp [hill'])
      have hgc : (ls'.take most)[i]? = some ls'[i] := by
        rw [List.getElem?_take, if_pos (by rw [List.length_take] at hil; omega)]
        simp [hil']
      have hgl : (l.take most)[i] = l[i] := by simp
      obtain ⟨b18, o18, rfl, hc18⟩ := hC16 i ls'[i] hgc
      have hb18 := hF16 b18 o18 rfl (by omega)
      have hc18 := hc18.ext hx17 (by have := hb18.1.2; omega)
      have htr17 := (htr.e0 hxw15).ext hx17 (fun k _ h1 h2 => by have := h1.2; omega)
      ((conv=>whnf);repeat(first|(refine mvT ?_;conv=>whnf)|(refine mvF ?_;conv=>whnf)|(refine cT (by rfl) ?_;conv=>whnf)|(refine cF (by rfl) ?_;conv=>whnf)))
      refine ⟨b18, o18, rfl, ⟨by omega, by omega⟩, ?_⟩
      ((conv=>whnf);repeat(first|(refine mvT ?_;conv=>whnf)|(refine mvF ?_;conv=>whnf)|(refine cT (by rfl) ?_;conv=>whnf)|(refine cF (by rfl) ?_;conv=>whnf)))
      refine ⟨ls'[i], htr.len, by rw [Int.toNat_natCast]; exact hc18, ?_⟩
      ((conv=>whnf);repeat(first|(refine mvT ?_;conv=>whnf)|(refine mvF ?_;conv=>whnf)|(refine cT (by rfl) ?_;conv=>whnf)|(refine cF (by rfl) ?_;conv=>whnf)))
      intro b19 w19 hb19 ho19 hx19
      ((conv=>whnf);repeat(first|(refine mvT ?_;conv=>whnf)|(refine mvF ?_;conv=>whnf)|(refine cT (by rfl) ?_;conv=>whnf)|(refine cF (by rfl) ?_;conv=>whnf)))
      refine st_all ls'[i] ho19 htr.len rfl htr.ok ?_
      intro w20 ho20 hx20
      have hx1720 : Ext nob w17 w20.drew := (hx19.st hx20 hb19).e0 (ext_drew _)
      have ho20 := ho20.e0 (ext_drew _)
      have ho17d := ho17.e0 hx1720
      have ho15d := (ho15.ext hx17 fun h => hb911 h.symm).e0 hx1720
      have honed := (hone.ext hx17 fun k _ h1 h2 => by have := h1.2; omega).e0 hx1720
      have htrd := htr17.e0 hx1720
      have hosd := hos.e0 hx1720
      have helsd := hels.e0 hx1720
      ((conv=>whnf);repeat(first|(refine mvT ?_;conv=>whnf)|(refine mvF ?_;conv=>whnf)|(refine cT (by rfl) ?_;conv=>whnf)|(refine cF (by rfl) ?_;conv=>whnf)))
      refine VD.draw mixed (.q 0 (.q 1 (.q 2 (.q 3 (.q 4 (.eff 5 [1] (.eff 6 [1] (.eff 7 [] (.q 8 (.eff 9 [] (.done))))))))))) (by kernel_rfl) ?_;((conv=>whnf);repeat(first|(refine mvT ?_;conv=>whnf)|(refine mvF ?_;conv=>whnf)|(refine cT (by rfl) ?_;conv=>whnf)|(refine cF (by rfl) ?_;conv=>whnf)))
      refine ldS (ho17d.cell rfl) ?_;((conv=>whnf);repeat(first|(refine mvT ?_;conv=>whnf)|(refine mvF ?_;conv=>whnf)|(refine cT (by rfl) ?_;conv=>whnf)|(refine cF (by rfl) ?_;conv=>whnf)))
      refine ⟨_, rfl, ho15d.cells, ?_⟩
      ((conv=>whnf);repeat(first|(refine mvT ?_;conv=>whnf)|(refine mvF ?_;conv=>whnf)|(refine cT (by rfl) ?_;conv=>whnf)|(refine cF (by rfl) ?_;conv=>whnf)))
      refine ⟨ls'[i], htr.len, ho20.cells, ?_⟩
      ((conv=>whnf);repeat(first|(refine mvT ?_;conv=>whnf)|(refine mvF ?_;conv=>whnf)|(refine cT (by rfl) ?_;conv=>whnf)|(refine cF (by rfl) ?_;conv=>whnf)))
      refine Does.mono (fitted1_does hp (v := v) honed ⟨_, rfl, htrd⟩ hof hsl hsub (nullF_neg _ _ _ _ _ _ _ _ _)) ?_
      rintro r21 w21 ⟨⟨c21, rfl, hr21⟩, hx21⟩
      refine ⟨by (conv => whnf); exact ⟨⟨_, (ho17d.e0 hx21).cell rfl, rfl, rfl⟩, trivial⟩, ?_⟩
      have hnx : ((l.take most).take (i + 1)).map (fit1 (fun sub t => fitB d v sub t) of sub false) = ((l.take most).take i).map (fit1 (fun sub t => fitB d v sub t) of sub false) ++ [fit1 (fun sub t => fitB d v sub t) of sub false l[i]] := by
        rw [List.take_succ_eq_append_getElem hill, List.map_append, hgl]
        rfl
      generalize hft : fit1 (fun sub t => fitB d v sub t) of sub false l[i] = ft at hr21 hnx
      have hrm := hr21.mono (F' := fun k => (plus G w k ∧ k ≠ b6 ∧ k ≠ b9) ∧ vl.ownBlock ≠ some k) fun k h1 h2 => by
        have hvl := hosd.own.lt
        have hsz := hx1720.size
        have hs17 := hx17.size
        rcases h2 with h | h
        · have hk := h.2
          refine ⟨⟨.inl h.1, by omega, by omega⟩, fun hv => ?_⟩
          have := hos.blk k hv
          omega
        · refine ⟨⟨.inr (by have := hxw15.size; omega), by omega, by omega⟩, fun hv => ?_⟩
          have := hvl k hv
          omega
      clear hr21
      cases hrm
      rename_i n4 s4 nl4 l4 u4 sv4 lv4 uv4 ls4 hn4 hs4 hl4 hlen4 hr4 hu4
      have hc21 : TrC w21 (fun k => (plus G w k ∧ k ≠ b6 ∧ k ≠ b9) ∧ vl.ownBlock ≠ some k) [.int .i64 n4, sv4, .bool nl4, lv4, uv4] (.mk n4 s4 nl4 l4 u4) := .mk n4 s4 nl4 l4 u4 sv4 lv4 uv4 ls4 hn4 hs4 hl4 hlen4 hr4 hu4
      have hok21 := hc21.ok
      have hone1 := Sl.one hs4
      have hone2 := hl4.1.one
      have hone3 := hu4.one
      ((conv=>whnf);repeat(first|(refine mvT ?_;conv=>whnf)|(refine mvF ?_;conv=>whnf)|(refine cT (by rfl) ?_;conv=>whnf)|(refine cF (by rfl) ?_;conv=>whnf)))
      intro b22 w22 hb22 ho22 hx22
      have hx1722 : Ext nob w17 w22 := (hx1720.e0 hx21).e0 hx22
      refine ⟨by (conv => whnf); exact ⟨⟨_, (ho17.e0 hx1722).cell rfl, rfl, rfl⟩, trivial⟩, ?_⟩
      have hcs : cs.length = i := by rw [hels.len, List.length_map, List.length_take]; omega
      have hb9s := fun h => (hos.blk b9 h)
      ((conv=>whnf);repeat(first|(refine mvT ?_;conv=>whnf)|(refine mvF ?_;conv=>whnf)|(refine cT (by rfl) ?_;conv=>whnf)|(refine cF (by rfl) ?_;conv=>whnf)))
      refine app_struct (ms := [[.int .i64 n4, sv4, .bool nl4, lv4, uv4]]) rfl ((hosd.e0 hx21).e0 hx22) (src_tree ho22 rfl rfl) (by simp) (by rw [List.flatten_cons, List.flatten_nil, List.append_nil]; exact hok21) rfl ⟨by simp only [List.length_singleton]; omega, by simp only [List.length_singleton]; omega⟩ (by have := hx17.size; have := hx1722.size; omega) ?_
      intro v23 w23 hos23 hx23 hb23 _
      obtain ⟨a23, c23, rfl, hc23, hm23⟩ := hos23.shape
      have ho17' := (ho17.e0 hx1722).ext hx23 fun h => by have := hb9s h; omega
      ((conv=>whnf);repeat(first|(refine mvT ?_;conv=>whnf)|(refine mvF ?_;conv=>whnf)|(refine cT (by rfl) ?_;conv=>whnf)|(refine cF (by rfl) ?_;conv=>whnf)))
      refine ⟨_, _, ho17', rfl, rfl, rfl, ?_⟩
      intro w24 ho24 hx24
      ((conv=>whnf);repeat(first|(refine mvT ?_;conv=>whnf)|(refine mvF ?_;conv=>whnf)|(refine cT (by rfl) ?_;conv=>whnf)|(refine cF (by rfl) ?_;conv=>whnf)))
      have hels22 : Els w22 (fun k => ((plus G w k ∧ k ≠ b6 ∧ k ≠ b9) ∧ vl.ownBlock ≠ some k) ∧ k < w22.heap.size) _ _ := (((helsd.e0 hx21).snoc hc21).e0 hx22).mono fun k h1 h2 => ⟨h2, h1⟩
      have hels23 := (hels22.ext hx23 fun k _ h1 h2 => h1.1.2 h2).mono (F' := fun k => (plus G w k ∧ k ≠ b6 ∧ k ≠ b9) ∧ (Value.slice a23 (cs ++ [[.int .i64 n4, sv4, .bool nl4, lv4, uv4]]).length c23).ownBlock ≠ some k) fun k h1 h2 => by
        refine ⟨h2.1.1, fun hv => ?_⟩
        rcases hb23 with h | ⟨q, hq, hle⟩
        · rw [h] at hv
          exact h2.1.2 hv
        · rw [hq, Option.some.injEq] at hv
          have := h2.2
          omega
      have hels24 := hels23.ext hx24 fun k _ h1 h2 => h1.1.2.2 h2
      have hx1624 : Ext (fun k => k = b9) w16 w24 := ((hx17.tr0 hx1722).trans hx23 fun k hk h => by have := hos.blk k h; omega).trans hx24 fun _ _ h => h
      refine ⟨(i + 1, _), ⟨rfl, rfl, rfl, rfl, rfl, rfl, rfl, rfl, inc_eq (by omega), trivial⟩, ⟨⟨hx1624, by simp only; omega⟩, ho24, _, hos23.ext hx24 fun k hk h => by have := hos23.blk k hk; omega, ?_⟩, by simp only; omega⟩
      simp only
      rw [hnx]
      exact hels24
    · have hil : i = (l.take most).length := by have := of_decide_eq_false h7; simp only at this; omega
      ((conv=>whnf);repeat(first|(refine mvT ?_;conv=>whnf)|(refine mvF ?_;conv=>whnf)|(refine cT (by rfl) ?_;conv=>whnf)|(refine cF (by rfl) ?_;conv=>whnf)))
      obtain ⟨avl, cvl, rfl, hcvl, hmvl⟩ := hos.shape
      refine ⟨_, rfl, ho17.cells, ?_⟩
      ((conv=>whnf);repeat(first|(refine mvT ?_;conv=>whnf)|(refine mvF ?_;conv=>whnf)|(refine cT (by rfl) ?_;conv=>whnf)|(refine cF (by rfl) ?_;conv=>whnf)))
      refine st_all [.int .i64 0, .slice none 0 0, .bool _, .slice avl cs.length cvl, .slice none 0 0] ((ho6.e0 hx315).ext hx17 (by omega)) rfl rfl rfl ?_
      intro w18 ho18 hx18
      have hxw18 := (hxw15.st hx17 hwb9).st hx18 hwb6
      ((conv=>whnf);repeat(first|(refine mvT ?_;conv=>whnf)|(refine mvF ?_;conv=>whnf)|(refine cT (by rfl) ?_;conv=>whnf)|(refine cF (by rfl) ?_;conv=>whnf)))
      refine ⟨_, rfl, ho18.cells, ?_⟩
      rw [hil, List.take_length] at hels
      have hsl18 := (SlE.ext (hos.sl (F := fun k => w16.heap.size ≤ k) fun _ h => h) hx18 fun k _ h1 h2 => by omega).mono (F' := plus G w) fun k _ h => .inr (by have := hxw15.size; omega)
      have hel18 := (hels.ext hx18 fun k _ h1 h2 => h1.1.2.1 h2).mono (F' := plus G w) fun k _ h => h.1.1
      exact ⟨⟨_, rfl, .mk 0 [] _ _ [] _ _ _ cs rfl (Bytes.nil _ _) hsl18 hel18.len hel18.at' (TgsR.nil _ _)⟩, hxw18⟩
theorem fitted_does {d : Nat} (hp : FitC d) : FittedC (d + 1) := by
  intro F G w c x f t v hf ht hok
  obtain ⟨kind, fr, to, nul, tag, df, of, sub⟩ := f
  obtain ⟨ht1, hk, ho1, hsl, hsub⟩ := okF_parts hok
  by_cases h11 : kind = 11
  · subst h11
    exact fitted_list hp hf ht ho1 hsl hsub rfl
  · have hfb : fittedB (d + 1) v (.mk kind fr to nul tag df of sub) t = fit1 (fun sub t => fitB d v sub t) kind sub (nullF (.mk kind fr to nul tag df of sub) v t) t := by
      rw [fittedB, fitF]
      exact if_neg h11
    rw [hfb]
    exact fitted1_does hp hf ht ⟨hk.1, by omega⟩ hsl hsub rfl
end Go.Proofs.YtlnhbbpmlfaakaaGreat.K
