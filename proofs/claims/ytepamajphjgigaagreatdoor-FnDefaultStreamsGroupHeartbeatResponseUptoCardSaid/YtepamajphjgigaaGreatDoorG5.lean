/- Unknown tags. -/
import Derived.Test.YtepamajphjgigaaGreatDoorG4
set_option linter.unusedVariables false
set_option linter.unusedSimpArgs false
namespace Go.Proofs.YtepamajphjgigaaGreatDoor.K
open Go
set_option maxHeartbeats 800000

def TgC (w : World) (F : Nat → Prop) (c : List Value) (x : Tg) : Prop := x.1 < 4294967296 ∧ ∃ bv, c = [.int .u32 (x.1 : Int), bv] ∧ Bytes w F bv x.2
theorem TgC.ext {M F : Nat → Prop} {w w' : World} {c : List Value} {u : Tg} (h : TgC w F c u) (x : Ext M w w') (hF : ∀ k, k < w.heap.size → F k → ¬ M k) : TgC w' F c u := by
  obtain ⟨g1, bv, g2, g3⟩ := h
  exact ⟨g1, bv, g2, g3.ext x hF⟩
theorem TgC.len {w : World} {F : Nat → Prop} {c : List Value} {u : Tg} (h : TgC w F c u) : c.length = 2 := by
  obtain ⟨g1, bv, rfl, g3⟩ := h
  rfl
theorem TgC.ok {w : World} {F : Nat → Prop} {c : List Value} {u : Tg} (h : TgC w F c u) : okCells c = true := by
  obtain ⟨g1, bv, rfl, g3⟩ := h
  have h1 := Sl.one g3
  simp only [okCells, List.all_cons, List.all_nil, h1]
  rfl
/-- A slice of tags of our own; their octets lie in F. Ty: the type of the tags. -/
def OTg (Ty : TypeId) (w : World) (B : Nat) (F : Nat → Prop) (v : Value) (u : List Tg) : Prop :=
  ∃ ls, OSl w B Ty 2 v ls ∧ ls.length = u.length ∧ ∀ (i : Nat) (c : List Value) (x : Tg), ls[i]? = some c → u[i]? = some x → TgC w F c x
theorem OTg.ext {M F : Nat → Prop} {w w' : World} {Ty : TypeId} {B : Nat} {v : Value} {u : List Tg} (h : OTg Ty w B F v u) (x : Ext M w w') (hb : ∀ k, v.ownBlock = some k → ¬ M k) (hF : ∀ k, k < w.heap.size → F k → ¬ M k) : OTg Ty w' B F v u := by
  obtain ⟨ls, h1, h2, h3⟩ := h
  exact ⟨ls, h1.ext x hb, h2, fun i c y hc hy => (h3 i c y hc hy).ext x hF⟩
theorem OTg.nil (Ty : TypeId) (w : World) (B : Nat) (F : Nat → Prop) : OTg Ty w B F (.slice none 0 0) [] := ⟨[], OSl.nil w B Ty 2, rfl, by simp⟩
theorem OTg.tgs {Ty : TypeId} {w : World} {B : Nat} {F G : Nat → Prop} {v : Value} {u : List Tg} (h : OTg Ty w B F v u) (hB : ∀ k, B ≤ k → G k) (hF : ∀ k, F k → G k) : TgsR w G v u := by
  obtain ⟨ls, h1, h2, h3⟩ := h
  refine ⟨ls, h1.sl hB, h2, fun i c x hc hx => ?_⟩
  obtain ⟨g1, bv, g2, g3⟩ := h3 i c x hc hx
  exact ⟨g1, bv, g2, Sl.mono g3 fun k _ hk => hF k hk⟩
theorem ins_same : ∀ (o : List Tg) (t x : Tg) (i : Nat), (∀ j y, j < i → o[j]? = some y → y.1 < t.1) → o[i]? = some x → x.1 = t.1 → insT o t = o
  | [], t, x, i, _, h, _ => by simp at h
  | y :: r, t, x, 0, _, h, hx => by
    simp only [List.getElem?_cons_zero, Option.some.injEq] at h
    subst h
    simp [insT, hx]
  | y :: r, t, x, i + 1, hl, h, hx => by
    have h1 := hl 0 y (by omega) (by simp)
    rw [insT, if_pos h1, ins_same r t x i (fun j z hj hz => hl (j + 1) z (by omega) (by simpa using hz)) (by simpa using h) hx]
theorem ins_new : ∀ (o : List Tg) (t : Tg) (i : Nat), i ≤ o.length → (∀ j y, j < i → o[j]? = some y → y.1 < t.1) → (∀ x, o[i]? = some x → t.1 < x.1) → insT o t = o.take i ++ t :: o.drop i
  | [], t, i, hi, _, _ => by simp [insT]
  | y :: r, t, 0, _, _, h => by
    have := h y (by simp)
    rw [insT, if_neg (by omega), if_neg (by omega)]
    simp
  | y :: r, t, i + 1, hi, hl, h => by
    have h1 := hl 0 y (by omega) (by simp)
    rw [insT, if_pos h1, ins_new r t i (by simpa using hi) (fun j z hj hz => hl (j + 1) z (by omega) (by simpa using hz)) (fun x hx => h x (by simpa using hx))]
    simp
theorem insT_length : ∀ (o : List Tg) (t : Tg), (insT o t).length ≤ o.length + 1
  | [], t => by simp [insT]
  | x :: r, t => by
    have := insT_length r t
    unfold insT
    split
    · simp; omega
    · split <;> simp
theorem unkT_length (least : Nat) : ∀ (l o : List Tg), (unkT least o l).length ≤ o.length + l.length
  | [], o => by simp [unkT]
  | t :: r, o => by
    have h2 := insT_length o t
    unfold unkT
    simp only [List.length_cons]
    split
    · have h1 := unkT_length least r o
      omega
    · have h1 := unkT_length least r (insT o t)
      omega
theorem take_most_length {α : Type} (l : List α) : (l.take most).length ≤ 32767 := by rw [List.length_take]; exact Nat.min_le_left _ _
theorem unknown_does {F G : Nat → Prop} {w : World} {x y : Value} {fs : List Fd} {u : List Tg} (hf : FdsR w G x fs) (hok : ∀ f, f ∈ fs → f.tag ≤ 1000000) (hu : TgsR w F y u) :
    Does X.P 43 #[x, y] w fun r w' => OTg 63 w' w.heap.size F r (unknownT fs u) ∧ Ext nob w w' := by
  have hu := hu.mono (F' := fun k => F k ∧ k < w.heap.size) fun k h1 h2 => ⟨h2, h1⟩
  obtain ⟨ls, hsl, hlen, hr⟩ := hu
  obtain ⟨a0, c0, rfl, hc0, hm0, hF0, hS0, hC0⟩ := hsl.view
  refine Does.go (X := X) (l := [_, _]) Tryz.func43 rfl (by kernel_rfl) (by kernel_rfl) _ rfl ?_
  ((conv=>whnf);repeat((first|refine mvT ?_|refine mvF ?_|refine yT ?_|refine yF ?_);conv=>whnf))
  refine (known_does hf hok).mono ?_
  rintro r w1 ⟨rfl, hx1⟩
  ((conv=>whnf);repeat((first|refine mvT ?_|refine mvF ?_|refine yT ?_|refine yF ?_);conv=>whnf))
  obtain ⟨p1, p2, p3, p4⟩ := cut_hi (sz := 2) (hsl.e0 hx1).1 rfl (min_most ls.length) (Nat.min_le_right _ _)
  refine ⟨p1, p2, p3, fun r hr => ?_⟩
  obtain ⟨a1, rfl, hsl1⟩ := p4 r hr
  clear p1 p2 p3 p4 hr
  have hcut : (ls.flatten.take (min 32767 ls.length * 2)) = (ls.take most).flatten := by rw [flatten_take 2 ls _ hsl.2, take_most]; rfl
  have hlm : min 32767 ls.length = (ls.take most).length := by rw [List.length_take]; rfl
  rw [hcut] at hsl1
  rw [hlm] at hsl1 ⊢
  clear hcut hlm
  have hsl1 : SlE w1 (fun k => F k ∧ k < w.heap.size) 2 (.slice a1 (ls.take most).length c0) (ls.take most) := ⟨hsl1, fun c hc => hsl.2 c (List.mem_of_mem_take hc)⟩
  have hr1 : ∀ (i : Nat) (c : List Value) (x : Tg), (ls.take most)[i]? = some c → (u.take most)[i]? = some x → TgC w1 (fun k => F k ∧ k < w.heap.size) c x := by
    intro i c x hc hx
    rw [List.getElem?_take] at hc hx
    split at hc
    · rename_i hi
      rw [if_pos hi] at hx
      have h1 : TgC w (fun k => F k ∧ k < w.heap.size) c x := hr i c x hc hx
      exact h1.ext hx1 fun _ _ _ f => f
    · simp at hc
  have hlen1 : (ls.take most).length = (u.take most).length := by rw [List.length_take, List.length_take, hlen]
  have hmost := take_most_length ls
  have hgoal : unknownT fs u = unkT (knownN fs 0) [] (u.take most) := rfl
  have hlow : knownN fs 0 ≤ 1000001 := knownN_le fs 0 hok (Nat.zero_le _)
  generalize ls.take most = ls1 at *
  generalize u.take most = u1 at *
  generalize knownN fs 0 = least at *
  obtain ⟨a2, c2, heq, hc1, hm1, hF1, hS1, hC1⟩ := hsl1.view
  injection heq with e1 e2 e3
  subst e1
  subst e3
  ((conv=>whnf);repeat((first|refine mvT ?_|refine mvF ?_|refine yT ?_|refine yF ?_);conv=>whnf))
  refine VL.loop (fun i : Nat × Value => [(5, .int .u32 least), (6, i.2), (17, .slice a1 ls1.length c0), (18, .int .i64 ls1.length), (19, .int .i64 i.1)])
    (fun i w' => Ext nob w w' ∧ Ext nob w1 w' ∧ i.1 ≤ ls1.length ∧ ∃ o, OTg 63 w' w1.heap.size (fun k => F k ∧ k < w.heap.size) i.2 o ∧ unkT least o (u1.drop i.1) = unknownT fs u ∧ o.length ≤ i.1) (fun i => ls1.length - i.1) (0, .slice none 0 0)
    ⟨rfl, rfl, rfl, rfl, rfl, trivial⟩ ⟨hx1, Ext.refl _ _, Nat.zero_le _, [], OTg.nil _ _ _ _, hgoal.symm, Nat.le_refl _⟩ ?_
  rintro ⟨j, vo⟩ w2 ⟨hx2, hx12, hj, o, ho, hun, hol⟩
  dsimp only at hj ho hun hol
  ((conv=>whnf);repeat((first|refine mvT ?_|refine mvF ?_|refine yT ?_|refine yF ?_);conv=>whnf))
  refine cI (by rfl) (fun h1=>?_) (fun h1=>?_)
  · have hjl : j < ls1.length := by have := of_decide_eq_true h1; simp only at this; omega
    have hju : j < u1.length := by omega
    have ht := hr1 j ls1[j] u1[j] (by simp [hjl]) (by simp [hju])
    rw [List.drop_eq_getElem_cons hju] at hun
    obtain ⟨bt, ot, hat, hct⟩ := hC1 j ls1[j] (by simp [hjl])
    subst hat
    ((conv=>whnf);repeat((first|refine mvT ?_|refine mvF ?_|refine yT ?_|refine yF ?_);conv=>whnf))
    refine ⟨bt, ot, rfl, ⟨by omega, by omega⟩, ?_⟩
    ((conv=>whnf);repeat((first|refine mvT ?_|refine mvF ?_|refine yT ?_|refine yF ?_);conv=>whnf))
    refine ⟨ls1[j], ht.len, hct.e0 hx12, ?_⟩
    ((conv=>whnf);repeat((first|refine mvT ?_|refine mvF ?_|refine yT ?_|refine yF ?_);conv=>whnf))
    intro b3 w3 hb3 ho3 hx3
    ((conv=>whnf);repeat((first|refine mvT ?_|refine mvF ?_|refine yT ?_|refine yF ?_);conv=>whnf))
    refine st_all ls1[j] ho3 ht.len rfl ht.ok ?_
    intro w4 ho4 hx4
    ((conv=>whnf);repeat((first|refine mvT ?_|refine mvF ?_|refine yT ?_|refine yF ?_);conv=>whnf))
    have hx24 : Ext nob w2 w4 := hx3.st hx4 (by omega)
    obtain ⟨hkey, tv, hcell, htb⟩ := ht.ext hx12 fun _ _ _ f => f
    have hx24' := hx24
    have htb := htb.e0 hx24
    rw [hcell] at ho4 hct ⊢
    have hlt2 : ∀ k, vo.ownBlock = some k → k < w2.heap.size := by
      obtain ⟨l, h, _⟩ := ho
      exact h.own.lt
    have ho := ho.ext hx24 (fun _ _ f => f) (fun _ _ _ f => f)
    generalize u1[j] = tg at *
    obtain ⟨ls2, hos, hol2, hor⟩ := ho
    obtain ⟨a2, c2, rfl, hc2, hm2, hF2, hS2, hC2⟩ := (hos.sl (F := anyB) fun _ _ => trivial).view
    have key1 : ∀ (i : Nat) (y : Tg), o[i]? = some y → ∀ w', Ext nob w4 w' → ∃ b p, a2 = some ⟨b, p, none⟩ ∧ w'.cell? ⟨b, p + i * 2 + 0, none⟩ = some (.int .u32 (y.1 : Int)) := by
      intro i y hy w' hx'
      have hil : i < ls2.length := by rw [hol2]; exact (List.getElem?_eq_some_iff.1 hy).1
      obtain ⟨hk, bv, hcv, _⟩ := hor i ls2[i] y (by simp [hil]) hy
      obtain ⟨b, p, ha, hcc⟩ := hC2 i ls2[i] (by simp [hil])
      rw [hcv] at hcc
      exact ⟨b, p, ha, (hcc.e0 hx').cell rfl⟩
    refine VL.cutB (fun i : Nat => [(5, .int .u32 least), (6, .slice a2 ls2.length c2), (8, .pointer (some ⟨b3, 0, none⟩)), (9, .int .i64 i), (17, .slice (some ⟨bt, ot, none⟩) ls1.length c0), (18, .int .i64 ls1.length), (19, .int .i64 j)])
      (fun i w' => Ext nob w4 w' ∧ i ≤ ls2.length ∧ (∀ j y, j < i → o[j]? = some y → y.1 < tg.1) ∧ ∀ x, o[i]? = some x → tg.1 ≤ x.1) ?_ ?_
    · refine VL.loop (fun i : Nat => [(5, .int .u32 least), (6, .slice a2 ls2.length c2), (8, .pointer (some ⟨b3, 0, none⟩)), (9, .int .i64 i), (17, .slice (some ⟨bt, ot, none⟩) ls1.length c0), (18, .int .i64 ls1.length), (19, .int .i64 j)])
        (fun i w' => Ext nob w4 w' ∧ i ≤ ls2.length ∧ ∀ j y, j < i → o[j]? = some y → y.1 < tg.1) (fun i => ls2.length - i) 0
        ⟨rfl, rfl, rfl, rfl, rfl, rfl, rfl, trivial⟩ ⟨Ext.refl _ _, Nat.zero_le _, fun j y h _ => absurd h (Nat.not_lt_zero j)⟩ ?_
      rintro i w5 ⟨hx5, hi, hlow5⟩
      have hx5' : Ext nob w4 w5.drew := hx5.e0 (ext_drew _)
      ((conv=>whnf);repeat((first|refine mvT ?_|refine mvF ?_|refine yT ?_|refine yF ?_);conv=>whnf))
      refine VD.draw mixed (.q 0 (.q 1 (.q 2 (.q 3 (.q 4 (.q 5 (.q 6 (.q 7 (.q 8 (.q 9 (.q 10 (.q 11 (.q 12 (.q 13 (.done))))))))))))))) (by kernel_rfl) ?_;((conv=>whnf);repeat((first|refine mvT ?_|refine mvF ?_|refine yT ?_|refine yF ?_);conv=>whnf))
      intro c3 h3
      cases c3
      · have hil : i = o.length := by have := of_decide_eq_false h3; omega
        ((conv=>whnf);repeat((first|refine mvT ?_|refine mvF ?_|refine yT ?_|refine yF ?_);conv=>whnf))
        refine ⟨i, ⟨rfl, rfl, rfl, rfl, rfl, rfl, rfl, trivial⟩, hx5', hi, hlow5, fun x hx => ?_⟩
        rw [hil] at hx
        simp at hx
      · have hil : i < o.length := by have := of_decide_eq_true h3; omega
        obtain ⟨y, hy⟩ : ∃ y, o[i]? = some y := ⟨o[i], by simp [hil]⟩
        obtain ⟨b6, p6, rfl, hc6⟩ := key1 i y hy _ hx5'
        ((conv=>whnf);repeat((first|refine mvT ?_|refine mvF ?_|refine yT ?_|refine yF ?_);conv=>whnf))
        refine ⟨b6, p6, rfl, ⟨by omega, by omega⟩, ?_⟩
        refine ldS (hc6) ?_;((conv=>whnf);repeat((first|refine mvT ?_|refine mvF ?_|refine yT ?_|refine yF ?_);conv=>whnf))
        refine ldS ((ho4.e0 hx5').cell rfl) ?_;((conv=>whnf);repeat((first|refine mvT ?_|refine mvF ?_|refine yT ?_|refine yF ?_);conv=>whnf))
        refine cI (by rfl) (fun h4=>?_) (fun h4=>?_)
        · have hlt : y.1 < tg.1 := by have := of_decide_eq_true h4; omega
          ((conv=>whnf);repeat((first|refine mvT ?_|refine mvF ?_|refine yT ?_|refine yF ?_);conv=>whnf))
          refine ⟨i + 1, ⟨rfl, rfl, rfl, inc_eq (by rw [maxLen_eq] at hm2; omega), rfl, rfl, rfl, trivial⟩, ⟨hx5', by omega, fun j' z hj' hz => ?_⟩, by omega⟩
          rcases Nat.lt_or_ge j' i with hlt' | hge'
          · exact hlow5 j' z hlt' hz
          · have : j' = i := by omega
            subst this
            rw [hy, Option.some.injEq] at hz
            rw [← hz]
            exact hlt
        · have hlt : ¬ y.1 < tg.1 := by have := of_decide_eq_false h4; omega
          ((conv=>whnf);repeat((first|refine mvT ?_|refine mvF ?_|refine yT ?_|refine yF ?_);conv=>whnf))
          refine ⟨i, ⟨rfl, rfl, rfl, rfl, rfl, rfl, rfl, trivial⟩, hx5', hi, hlow5, fun x hx => ?_⟩
          rw [hy, Option.some.injEq] at hx
          rw [← hx]
          omega
    rintro i w5 ⟨hx5, hi, hlow5, hhigh5⟩
    have hx5' : Ext nob w4 w5.drew := hx5.e0 (ext_drew _)
    ((conv=>whnf);repeat((first|refine mvT ?_|refine mvF ?_|refine yT ?_|refine yF ?_);conv=>whnf))
    have hnext : ∀ o', (if tg.1 < least then o else insT o tg) = o' → unkT least o' (u1.drop (j + 1)) = unknownT fs u := by
      rintro o' rfl
      rw [← hun]
      rfl
    have hfin : Ext nob w w5.drew := (hx2.e0 hx24).e0 hx5'
    have hfin1 : Ext nob w1 w5.drew := (hx12.e0 hx24).e0 hx5'
    have hsame : OTg 63 w5.drew w1.heap.size (fun k => F k ∧ k < w.heap.size) (.slice a2 ls2.length c2) o :=
      ⟨ls2, hos.e0 hx5', hol2, fun i c x hc hx => (hor i c x hc hx).ext hx5' fun _ _ _ f => f⟩
    refine VD.cutE (fun b : Bool => [(5, .int .u32 least), (6, .slice a2 ls2.length c2), (8, .pointer (some ⟨b3, 0, none⟩)), (9, .int .i64 i), (17, .slice (some ⟨bt, ot, none⟩) ls1.length c0), (18, .int .i64 ls1.length), (19, .int .i64 j), (58, .bool b)])
      (fun b w' => w' = w5.drew ∧ (b = true → tg.1 < least ∨ (¬ tg.1 < least ∧ ∃ y, o[i]? = some y ∧ y.1 = tg.1)) ∧ (b = false → ¬ tg.1 < least ∧ ∀ x, o[i]? = some x → tg.1 < x.1)) ?_ ?_
    · refine VD.draw mixed (.q 0 (.q 1 (.q 2 (.q 3 (.q 4 (.q 5 (.q 6 (.q 7 (.q 8 (.q 9 (.q 10 (.q 11 (.q 12 (.q 13 (.q 14 (.q 15 (.q 16 (.q 17 (.q 18 (.q 19 (.done))))))))))))))))))))) (by kernel_rfl) ?_;((conv=>whnf);repeat((first|refine mvT ?_|refine mvF ?_|refine yT ?_|refine yF ?_);conv=>whnf))
      refine ldS ((ho4.e0 hx5').cell rfl) ?_;((conv=>whnf);repeat((first|refine mvT ?_|refine mvF ?_|refine yT ?_|refine yF ?_);conv=>whnf))
      intro c3 h3
      cases c3
      · have hge : ¬ tg.1 < least := by have := of_decide_eq_false h3; omega
        ((conv=>whnf);repeat((first|refine mvT ?_|refine mvF ?_|refine yT ?_|refine yF ?_);conv=>whnf))
        intro c4 h4
        cases c4
        · have hil : i = o.length := by have := of_decide_eq_false h4; omega
          ((conv=>whnf);repeat((first|refine mvT ?_|refine mvF ?_|refine yT ?_|refine yF ?_);conv=>whnf))
          refine ⟨false, ⟨rfl, rfl, rfl, rfl, rfl, rfl, rfl, rfl, trivial⟩, rfl, (by simp), fun _ => ⟨hge, fun x hx => ?_⟩⟩
          rw [hil] at hx
          simp at hx
        · have hil : i < o.length := by have := of_decide_eq_true h4; omega
          obtain ⟨y, hy⟩ : ∃ y, o[i]? = some y := ⟨o[i], by simp [hil]⟩
          have hle := hhigh5 y hy
          obtain ⟨b6, p6, rfl, hc6⟩ := key1 i y hy _ hx5'
          ((conv=>whnf);repeat((first|refine mvT ?_|refine mvF ?_|refine yT ?_|refine yF ?_);conv=>whnf))
          refine ⟨b6, p6, rfl, ⟨by omega, by omega⟩, ?_⟩
          refine ldS (hc6) ?_;((conv=>whnf);repeat((first|refine mvT ?_|refine mvF ?_|refine yT ?_|refine yF ?_);conv=>whnf))
          refine ldS ((ho4.e0 hx5').cell rfl) ?_;((conv=>whnf);repeat((first|refine mvT ?_|refine mvF ?_|refine yT ?_|refine yF ?_);conv=>whnf))
          refine ⟨_, ⟨rfl, rfl, rfl, rfl, rfl, rfl, rfl, rfl, trivial⟩, rfl, fun h5 => ?_, fun h5 => ⟨hge, fun x hx => ?_⟩⟩
          · have heq : y.1 = tg.1 := by have : (y.1 : Int) = (tg.1 : Int) := by simpa using h5
                                        omega
            exact .inr ⟨hge, y, hy, heq⟩
          · have hne : y.1 ≠ tg.1 := by
              intro he
              rw [he] at h5
              simp at h5
            rw [hy, Option.some.injEq] at hx
            rw [← hx]
            omega
      · have hlt : tg.1 < least := by have := of_decide_eq_true h3; omega
        ((conv=>whnf);repeat((first|refine mvT ?_|refine mvF ?_|refine yT ?_|refine yF ?_);conv=>whnf))
        exact ⟨true, ⟨rfl, rfl, rfl, rfl, rfl, rfl, rfl, rfl, trivial⟩, rfl, fun _ => .inl hlt, by simp⟩
    rintro bb w6 ⟨rfl, hbt, hbf⟩
    ((conv=>whnf);repeat((first|refine mvT ?_|refine mvF ?_|refine yT ?_|refine yF ?_);conv=>whnf))
    refine cI (by rfl) (fun h5=>?_) (fun h5=>?_)
    · ((conv=>whnf);repeat((first|refine mvT ?_|refine mvF ?_|refine yT ?_|refine yF ?_);conv=>whnf))
      refine ⟨(j + 1, _), ⟨rfl, rfl, rfl, rfl, inc_eq (by rw [maxLen_eq] at hm1; omega), trivial⟩, ⟨hfin, hfin1, by simp only; omega, o, hsame, hnext o ?_, by simp only; omega⟩, by simp only; omega⟩
      rcases hbt h5 with hlt | ⟨hge, y, hy, heq⟩
      · exact if_pos hlt
      · rw [if_neg hge]
        exact ins_same o tg y i hlow5 hy heq
    obtain ⟨hge, hhi⟩ := hbf h5
    have hnew := ins_new o tg i (by omega) hlow5 hhi
    ((conv=>whnf);repeat((first|refine mvT ?_|refine mvF ?_|refine yT ?_|refine yF ?_);conv=>whnf))
    intro b7 w7 hb7 ho7 hx7
    ((conv=>whnf);repeat((first|refine mvT ?_|refine mvF ?_|refine yT ?_|refine yF ?_);conv=>whnf))
    have hb7' : w1.heap.size ≤ b7 := Nat.le_trans hfin1.size hb7
    refine app_struct (ms := [[.int .u32 0, .slice none 0 0]]) rfl ((hos.e0 hx5').e0 hx7) (src_one ho7 rfl rfl) (by simp) rfl rfl ⟨by rw [maxLen_eq] at hm1; simp only [List.length_singleton]; omega, by simp only [List.length_singleton]; omega⟩ (by have := hfin1.size; have := hx7.size; omega) ?_
    intro v8 w8 hos8 hx8 hb8 _
    obtain ⟨g, cap, rfl, hgB, hgw, -⟩ := hos8.put (i := 0) (by simp)
    have hcap : (ls2 ++ [[Value.int .u32 0, Value.slice none 0 0]]).length = ls2.length + 1 := by simp
    rw [hcap] at hos8 hb8 ⊢
    have hw1w : w.heap.size ≤ w1.heap.size := hx1.size
    have hx8' : Ext nob w1 w8 := (hfin1.e0 hx7).own hx8 hos.blk (Nat.le_refl _)
    have hgb3 : g ≠ b3 := by
      rcases hb8 with h | ⟨k, h, hk⟩
      · have := hlt2 g (by rw [← h]; rfl)
        omega
      · have : g = k := by simpa [Value.ownBlock] using h
        have h4 := ho4.lt
        have := hx5'.size
        have := hx7.size
        omega
    have ho8 : Own w8 b3 63 [Value.int .u32 (tg.1 : Int), tv] := by
      refine ((ho4.e0 hx5').e0 hx7).ext hx8 fun h => ?_
      have h4 := hlt2 b3 h
      omega
    ((conv=>whnf);repeat((first|refine mvT ?_|refine mvF ?_|refine yT ?_|refine yF ?_);conv=>whnf))
    have hn9 : IntKind.i64.wrap (((ls2.length + 1 : Nat) : Int) - 1) = (ls2.length : Int) := by rw [i64_of (by omega) (by rw [maxLen_eq] at hm2; omega)]; omega
    refine VL.cutB (fun _ : Unit => [(5, .int .u32 least), (6, .slice (some ⟨g, 0, none⟩) (ls2.length + 1) cap), (8, .pointer (some ⟨b3, 0, none⟩)), (9, .int .i64 i), (17, .slice (some ⟨bt, ot, none⟩) ls1.length c0), (18, .int .i64 ls1.length), (19, .int .i64 j)])
      (fun _ w' => Ext (fun q => q = g) w8 w' ∧ ∃ gc : List Value, gc.length = 2 ∧ OSl w' w1.heap.size 63 2 (.slice (some ⟨g, 0, none⟩) (ls2.length + 1) cap) (ls2.take i ++ gc :: ls2.drop i)) ?_ ?_
    · refine VL.loop (fun k : Nat => [(5, .int .u32 least), (6, .slice (some ⟨g, 0, none⟩) (ls2.length + 1) cap), (8, .pointer (some ⟨b3, 0, none⟩)), (9, .int .i64 i), (10, .int .i64 k), (17, .slice (some ⟨bt, ot, none⟩) ls1.length c0), (18, .int .i64 ls1.length), (19, .int .i64 j)])
        (fun k w' => (Ext (fun q => q = g) w8 w' ∧ i ≤ k ∧ k ≤ ls2.length) ∧ ∃ gc : List Value, gc.length = 2 ∧ OSl w' w1.heap.size 63 2 (.slice (some ⟨g, 0, none⟩) (ls2.length + 1) cap) (ls2.take k ++ gc :: ls2.drop k)) (fun k => k) ls2.length
        ⟨rfl, rfl, rfl, rfl, by show some (Value.int _ _) = _; rw [hn9], rfl, rfl, rfl, trivial⟩ ⟨⟨Ext.refl _ _, by omega, Nat.le_refl _⟩, _, rfl, by simpa using hos8⟩ ?_
      rintro k w9 ⟨⟨hx9, hik, hkn⟩, gc, hgc, hos9⟩
      ((conv=>whnf);repeat((first|refine mvT ?_|refine mvF ?_|refine yT ?_|refine yF ?_);conv=>whnf))
      refine cI (by rfl) (fun h6=>?_) (fun h6=>?_)
      · have hki : i < k := by have := of_decide_eq_true h6; omega
        obtain ⟨k, rfl⟩ : ∃ k', k = k' + 1 := ⟨k - 1, by omega⟩
        have hkl : k < ls2.length := by omega
        have hput := hos9.put (i := k + 1) (by simp; omega)
        obtain ⟨g', cap', hg', _, _, hput⟩ := hput
        injection hg' with hg1 hg2 hg3
        injection hg1 with hg1
        injection hg1 with hg1
        subst hg1
        have hk64 : IntKind.i64.wrap (((k + 1 : Nat) : Int) - 1) = (k : Int) := by rw [i64_of (by omega) (by rw [maxLen_eq] at hm2; omega)]; omega
        ((conv=>whnf);repeat((first|refine mvT ?_|refine mvF ?_|refine yT ?_|refine yF ?_);conv=>whnf))
        rw [hk64]
        refine ⟨g, 0, rfl, ⟨by omega, by omega⟩, ?_⟩
        ((conv=>whnf);repeat((first|refine mvT ?_|refine mvF ?_|refine yT ?_|refine yF ?_);conv=>whnf))
        have hel : (ls2.take (k + 1) ++ gc :: ls2.drop (k + 1))[k]? = some ls2[k] := by
          rw [List.getElem?_append_left (by rw [List.length_take]; omega), List.getElem?_take, if_pos (by omega)]
          simp [hkl]
        have hlk : (ls2[k]).length = 2 := hos.len _ (by simp)
        have hok2 : okCells ls2[k] = true := (hor k ls2[k] (o[k]'(by omega)) (by simp [hkl]) (by simp)).ok
        refine ⟨ls2[k], hlk, by rw [Int.toNat_natCast]; exact hos9.elem hel, ?_⟩
        ((conv=>whnf);repeat((first|refine mvT ?_|refine mvF ?_|refine yT ?_|refine yF ?_);conv=>whnf))
        refine ⟨g, 0, rfl, ⟨by omega, by omega⟩, ?_⟩
        ((conv=>whnf);repeat((first|refine mvT ?_|refine mvF ?_|refine yT ?_|refine yF ?_);conv=>whnf))
        refine hput ls2[k] _ _ _ hlk rfl (by simp) hok2 ?_
        intro w10 hos10 hx10
        ((conv=>whnf);repeat((first|refine mvT ?_|refine mvF ?_|refine yT ?_|refine yF ?_);conv=>whnf))
        refine ⟨k, ⟨rfl, rfl, rfl, rfl, by show some (Value.int _ _) = _; rw [hk64], rfl, rfl, rfl, trivial⟩, ⟨⟨hx9.trans hx10 fun _ _ h => h, by omega, by omega⟩, ls2[k], hlk, ?_⟩, by omega⟩
        have e : (ls2.take (k + 1) ++ gc :: ls2.drop (k + 1)).set (k + 1) ls2[k] = ls2.take k ++ ls2[k] :: ls2.drop k := by
          rw [List.set_append_right _ _ (by rw [List.length_take]; omega), List.length_take, Nat.min_eq_left (by omega : k + 1 ≤ ls2.length), Nat.sub_self, List.set_cons_zero]
          rw [List.take_succ_eq_append_getElem hkl, List.append_assoc, ← List.drop_eq_getElem_cons hkl]
          rw [List.drop_eq_getElem_cons hkl]
          simp
        rw [← e]
        exact hos10
      · have hki : i = k := by have := of_decide_eq_false h6; omega
        subst hki
        ((conv=>whnf);repeat((first|refine mvT ?_|refine mvF ?_|refine yT ?_|refine yF ?_);conv=>whnf))
        exact ⟨(), ⟨rfl, rfl, rfl, rfl, rfl, rfl, rfl, trivial⟩, hx9, gc, hgc, hos9⟩
    rintro _ w9 ⟨hx9, gc, hgc, hos9⟩
    obtain ⟨g', cap', hg', _, _, hput⟩ := hos9.put (i := i) (by simp; omega)
    injection hg' with hg1 hg2 hg3
    injection hg1 with hg1
    injection hg1 with hg1
    subst hg1
    have ho9 := ho8.ext hx9 (fun h => hgb3 h.symm)
    ((conv=>whnf);repeat((first|refine mvT ?_|refine mvF ?_|refine yT ?_|refine yF ?_);conv=>whnf))
    refine ⟨_, rfl, ho9.cells, ?_⟩
    ((conv=>whnf);repeat((first|refine mvT ?_|refine mvF ?_|refine yT ?_|refine yF ?_);conv=>whnf))
    refine ⟨g, 0, rfl, ⟨by omega, by omega⟩, ?_⟩
    ((conv=>whnf);repeat((first|refine mvT ?_|refine mvF ?_|refine yT ?_|refine yF ?_);conv=>whnf))
    refine hput [Value.int .u32 (tg.1 : Int), tv] _ _ _ rfl rfl (by simp) ?_ ?_
    · have h1 := Sl.one htb
      simp only [okCells, List.all_cons, List.all_nil, h1]
      rfl
    intro w10 hos10 hx10
    ((conv=>whnf);repeat((first|refine mvT ?_|refine mvF ?_|refine yT ?_|refine yF ?_);conv=>whnf))
    have hxg : Ext (fun q => q = g) w8 w10 := hx9.trans hx10 fun _ _ h => h
    have hF8 : ∀ k, k < w5.drew.heap.size → (F k ∧ k < w.heap.size) → ¬ (Value.slice a2 ls2.length c2).ownBlock = some k := by
      intro k _ hk h
      have := hos.blk k h
      omega
    refine ⟨(j + 1, _), ⟨rfl, rfl, rfl, rfl, inc_eq (by rw [maxLen_eq] at hm1; omega), trivial⟩, ⟨((hfin.e0 hx7).own hx8 hos.blk hw1w).trans hxg fun k hk h => by omega, hx8'.trans hxg fun k hk h => by omega, by simp only; omega, _, ?_, hnext _ rfl, ?_⟩, by simp only; omega⟩
    · rw [if_neg hge, hnew]
      refine ⟨_, hos10, ?_, ?_⟩
      · simp [hol2]
      · have e : (ls2.take i ++ gc :: ls2.drop i).set i [Value.int .u32 (tg.1 : Int), tv] = ls2.take i ++ [Value.int .u32 (tg.1 : Int), tv] :: ls2.drop i := by
          rw [List.set_append_right _ _ (by rw [List.length_take]; omega), List.length_take, Nat.min_eq_left hi, Nat.sub_self, List.set_cons_zero]
        rw [e]
        have hev : ∀ {c x}, TgC w4 (fun k => F k ∧ k < w.heap.size) c x → TgC w10 (fun k => F k ∧ k < w.heap.size) c x := by
          intro c x h
          refine TgC.ext (M := fun q => q = g) (TgC.ext (M := fun q => w1.heap.size ≤ q) (h.ext hx5' fun _ _ _ f => f) (w' := w8) ?_ ?_) hxg ?_
          · exact (hx7.mono fun _ _ f => f.elim).trans hx8 fun k hk h => hos.blk k h
          · intro k _ hk h
            omega
          · intro k _ hk h
            omega
        intro q c x hc hx
        rcases Nat.lt_trichotomy q i with hq | hq | hq
        · rw [List.getElem?_append_left (by rw [List.length_take]; omega), List.getElem?_take, if_pos hq] at hc hx
          exact hev (hor q c x hc hx)
        · subst hq
          rw [List.getElem?_append_right (by rw [List.length_take]; omega), List.length_take, Nat.min_eq_left (by omega), Nat.sub_self, List.getElem?_cons_zero, Option.some.injEq] at hc hx
          subst hc
          subst hx
          exact hev ⟨hkey, tv, rfl, htb⟩
        · rw [List.getElem?_append_right (by rw [List.length_take]; omega), List.length_take, Nat.min_eq_left (by omega)] at hc hx
          obtain ⟨d, hd⟩ : ∃ d, q - i = d + 1 := ⟨q - i - 1, by omega⟩
          rw [hd, List.getElem?_cons_succ, List.getElem?_drop] at hc hx
          exact hev (hor _ c x hc hx)
    · rw [if_neg hge]
      have := insT_length o tg
      simp only
      omega
  · have hjl : j = ls1.length := by have := of_decide_eq_false h1; simp only at this; omega
    ((conv=>whnf);repeat((first|refine mvT ?_|refine mvF ?_|refine yT ?_|refine yF ?_);conv=>whnf))
    rw [hjl, hlen1, List.drop_length] at hun
    simp only [unkT] at hun
    rw [← hun]
    refine ⟨?_, hx2⟩
    obtain ⟨l, h1, h2, h3⟩ := ho
    refine ⟨l, h1.mono hx1.size, h2, fun i c x hc hx => ?_⟩
    obtain ⟨g1, bv, g2, g3⟩ := h3 i c x hc hx
    exact ⟨g1, bv, g2, Sl.mono g3 fun k _ hk => hk.1⟩
end Go.Proofs.YtepamajphjgigaaGreatDoor.K
