/- Fields. -/
import Derived.Test.YtepamajphjgigaaGreatDoorG7
set_option linter.unusedVariables false
set_option linter.unusedSimpArgs false
namespace Go.Proofs.YtepamajphjgigaaGreatDoor.K
open Go
set_option maxHeartbeats 800000

theorem field_list {d : Nat} (hp : PartC d) {F G : Nat → Prop} {w : World} {c : List Value} {x : Value} {fr to nul tag df of : Int} {sub : List Fd} {t : T} {v : Int} {flex nb : Bool} (hf : FdC w F c (.mk 11 fr to nul tag df of sub)) (ht : Tr w G x t)
    (ho1 : 0 ≤ of ∧ of ≤ 10) (hsl : sub.length ≤ 1000) (hsub : ∀ f, f ∈ sub → okF d f = true) (hnb : nullF (.mk 11 fr to nul tag df of sub) v t = nb) (ll : List T) (hll0 : ll = if nb = true then [] else t.l.take most)
    (hlen : (countedB flex nb ll.length 4 ++ ll.flatMap (valueW (fun sub t => partB d v flex sub t) of sub false flex)).length ≤ 105000000000000) :
    Does X.P 39 #[.agg c.toArray, .int .i64 v, .bool flex, x] w fun r w' => OB w' w.heap.size r (countedB flex nb ll.length 4 ++ ll.flatMap (valueW (fun sub t => partB d v flex sub t) of sub false flex)) ∧ Ext nob w w' := by
  have hf0 := hf
  have hts := ht
  cases hf
  rename_i sv ls hl hlen2 hr
  obtain ⟨ct, rfl, ht⟩ := ht
  have ht0 := ht
  cases ht
  rename_i n s nl l u sv' lv uv ls' hn hs' hl' hlen' hr' hu
  have hfr : FdsR w F sv sub := ⟨ls, hl, hlen2, hr⟩
  have hml : ll.length ≤ 32767 := by
    rw [hll0]
    split
    · simp
    · exact take_most_length _
  refine Does.go (X := X) (l := [_, _, _, _]) Tryz.func39 rfl (by kernel_rfl) (by kernel_rfl) _ rfl ?_
  ((conv=>whnf);repeat((first|refine mvT ?_|refine mvF ?_|refine yT ?_|refine yF ?_);conv=>whnf))
  intro b w1 hb ho hx
  ((conv=>whnf);repeat((first|refine mvT ?_|refine mvF ?_|refine yT ?_|refine yF ?_);conv=>whnf))
  intro b2 w2 hb2 ho2 hx2
  ((conv=>whnf);repeat((first|refine mvT ?_|refine mvF ?_|refine yT ?_|refine yF ?_);conv=>whnf))
  have ho := ho.e0 hx2
  have hx := hx.e0 hx2
  refine ⟨_, rfl, ho.cells, ?_⟩
  ((conv=>whnf);repeat((first|refine mvT ?_|refine mvF ?_|refine yT ?_|refine yF ?_);conv=>whnf))
  refine ⟨_, rfl, ho2.cells, ?_⟩
  ((conv=>whnf);repeat((first|refine mvT ?_|refine mvF ?_|refine yT ?_|refine yF ?_);conv=>whnf))
  refine Does.mono (null_does (hf0.e0 hx) (hts.e0 hx) v) ?_
  rintro r3 w3 ⟨rfl, hx3⟩
  rw [hnb]
  have ho := ho.e0 hx3
  have ho2 := ho2.e0 hx3
  have hx := hx.e0 hx3
  cases nb with
  | true =>
    have hll0 : ll = [] := hll0
    ((conv=>whnf);repeat((first|refine mvT ?_|refine mvF ?_|refine yT ?_|refine yF ?_);conv=>whnf))
    refine ldS (ho.cell rfl) ?_;((conv=>whnf);repeat((first|refine mvT ?_|refine mvF ?_|refine yT ?_|refine yF ?_);conv=>whnf))
    refine ldS (ho2.cell rfl) ?_;((conv=>whnf);repeat((first|refine mvT ?_|refine mvF ?_|refine yT ?_|refine yF ?_);conv=>whnf))
    refine Does.mono (things_does (hl'.e0 hx)) ?_
    rintro r4 w4 ⟨-, rfl⟩
    obtain ⟨ls4, hlen4, hS, hR⟩ : ∃ ls4, ls4.length = ll.length ∧ SlE w4 G 5 (.slice none 0 0) ls4 ∧ ∀ (i : Nat) (c : List Value) (t : T), ls4[i]? = some c → ll[i]? = some t → TrC w4 G c t := ⟨[], by rw [hll0]; rfl, SlE.nil _ _ _, by simp⟩
    have hx4 := hx
    have ho4 := ho
    ((conv=>whnf);repeat((first|refine mvT ?_|refine mvF ?_|refine yT ?_|refine yF ?_);conv=>whnf))
    obtain ⟨a4, c4, hv4, hc4, hm4, hF4, hS4, hC4⟩ := hS.view
    rw [hv4]
    ((conv=>whnf);repeat((first|refine mvT ?_|refine mvF ?_|refine yT ?_|refine yF ?_);conv=>whnf))
    (refine mvB ?_;((conv=>whnf);repeat((first|refine mvT ?_|refine mvF ?_|refine yT ?_|refine yF ?_);conv=>whnf)))
    rw [hlen4]
    refine Does.mono (counted_does flex true ll.length 4 (by omega) (by omega) _) ?_;rintro r5 w5 ⟨hr5, hx5⟩;((conv=>whnf);repeat((first|refine mvT ?_|refine mvF ?_|refine yT ?_|refine yF ?_);conv=>whnf))
    have hcl := counted_length flex true ll.length 4 (by omega) (by omega)
    refine VL.loop (fun i : Nat × Value => [(1, .int .i64 v), (2, .bool flex), (4, .pointer (some ⟨b, 0, none⟩)), (10, .slice a4 ll.length c4), (11, i.2), (30, .int .i64 ll.length), (31, .int .i64 i.1)])
      (fun i w' => Ext nob w4 w' ∧ i.1 ≤ ll.length ∧ ∃ acc, OB w' w4.heap.size i.2 acc ∧ acc ++ (ll.drop i.1).flatMap (valueW (fun sub t => partB d v flex sub t) of sub false flex) = countedB flex true ll.length 4 ++ ll.flatMap (valueW (fun sub t => partB d v flex sub t) of sub false flex)) (fun i => ll.length - i.1) (0, r5)
      ⟨rfl, rfl, rfl, rfl, rfl, rfl, rfl, trivial⟩ ⟨hx5, Nat.zero_le _, _, hr5, rfl⟩ ?_
    rintro ⟨i, vo⟩ w6 ⟨hx6, hi, acc, hacc, hsum⟩
    dsimp only at hi hacc hsum
    have hxw6 := hx4.e0 hx6
    ((conv=>whnf);repeat((first|refine mvT ?_|refine mvF ?_|refine yT ?_|refine yF ?_);conv=>whnf))
    refine cI (by rfl) (fun h1=>?_) (fun h1=>?_)
    · have hil : i < ll.length := by have := of_decide_eq_true h1; simp only at this; omega
      have hil4 : i < ls4.length := by omega
      have htr := hR i ls4[i] ll[i] (by simp [hil4]) (by simp [hil])
      rw [List.drop_eq_getElem_cons hil, List.flatMap_cons, ← List.append_assoc] at hsum
      obtain ⟨b7, o7, rfl, hc7⟩ := hC4 i ls4[i] (by simp [hil4])
      have hx6' : Ext nob w4 w6.drew := hx6.e0 (ext_drew _)
      have ho6 := (ho4.e0 hx6')
      have hll := congrArg List.length hsum
      rw [List.length_append, List.length_append] at hll
      ((conv=>whnf);repeat((first|refine mvT ?_|refine mvF ?_|refine yT ?_|refine yF ?_);conv=>whnf))
      refine VD.draw mixed (.q 0 (.q 1 (.q 2 (.q 3 (.q 4 (.q 5 (.q 6 (.q 7 (.q 8 (.q 9 (.q 10 (.eff 11 [] (.eff 12 [] (.eff 13 [] (.done))))))))))))))) (by kernel_rfl) ?_;((conv=>whnf);repeat((first|refine mvT ?_|refine mvF ?_|refine yT ?_|refine yF ?_);conv=>whnf))
      refine ldS (ho6.cell rfl) ?_;((conv=>whnf);repeat((first|refine mvT ?_|refine mvF ?_|refine yT ?_|refine yF ?_);conv=>whnf))
      refine ldS (ho6.cell rfl) ?_;((conv=>whnf);repeat((first|refine mvT ?_|refine mvF ?_|refine yT ?_|refine yF ?_);conv=>whnf))
      (refine mvB ?_;((conv=>whnf);repeat((first|refine mvT ?_|refine mvF ?_|refine yT ?_|refine yF ?_);conv=>whnf)))
      refine ⟨b7, o7, rfl, ⟨by omega, by omega⟩, ?_⟩
      ((conv=>whnf);repeat((first|refine mvT ?_|refine mvF ?_|refine yT ?_|refine yF ?_);conv=>whnf))
      refine ⟨ls4[i], htr.len, hc7.e0 hx6', ?_⟩
      ((conv=>whnf);repeat((first|refine mvT ?_|refine mvF ?_|refine yT ?_|refine yF ?_);conv=>whnf))
      refine Does.mono (value_does hp ((hfr.e0 hxw6).e0 (ext_drew _)) (G := G) ⟨_, rfl, htr.e0 hx6'⟩ ho1 hsub hsl (by omega)) ?_
      rintro r8 w8 ⟨hr8, hx8⟩
      ((conv=>whnf);repeat((first|refine mvT ?_|refine mvF ?_|refine yT ?_|refine yF ?_);conv=>whnf))
      refine app_bytes rfl rfl ((hacc.e0 (ext_drew _)).e0 hx8) hr8.bytesAny.src rfl (by omega) (by have := hx6'.size; have := hx8.size; omega) ?_
      intro r9 w9 hr9 hx9 _ _
      ((conv=>whnf);repeat((first|refine mvT ?_|refine mvF ?_|refine yT ?_|refine yF ?_);conv=>whnf))
      exact ⟨(i + 1, r9), ⟨rfl, rfl, rfl, rfl, rfl, rfl, inc_eq (by omega), trivial⟩, ⟨(hx6'.e0 hx8).own hx9 hacc.blk (Nat.le_refl _), by simp only; omega, _, hr9, hsum⟩, by simp only; omega⟩
    · have hil : i = ll.length := by have := of_decide_eq_false h1; simp only at this; omega
      ((conv=>whnf);repeat((first|refine mvT ?_|refine mvF ?_|refine yT ?_|refine yF ?_);conv=>whnf))
      rw [hil, List.drop_length, List.flatMap_nil, List.append_nil] at hsum
      rw [← hsum]
      exact ⟨hacc.mono hx4.size, hxw6⟩
  | false =>
    have hll0 : ll = l.take most := hll0
    ((conv=>whnf);repeat((first|refine mvT ?_|refine mvF ?_|refine yT ?_|refine yF ?_);conv=>whnf))
    refine ldS (ho.cell rfl) ?_;((conv=>whnf);repeat((first|refine mvT ?_|refine mvF ?_|refine yT ?_|refine yF ?_);conv=>whnf))
    refine ldS (ho2.cell rfl) ?_;((conv=>whnf);repeat((first|refine mvT ?_|refine mvF ?_|refine yT ?_|refine yF ?_);conv=>whnf))
    refine Does.mono (things_does (hl'.e0 hx)) ?_
    rintro r4 w4 ⟨hr4, rfl⟩
    obtain ⟨ls4, hlen4, hS, hR⟩ : ∃ ls4, ls4.length = ll.length ∧ SlE w4 G 5 r4 ls4 ∧ ∀ (i : Nat) (c : List Value) (t : T), ls4[i]? = some c → ll[i]? = some t → TrC w4 G c t := by
      refine ⟨ls'.take most, by rw [hll0, List.length_take, List.length_take, hlen'], hr4, fun i c t hc ht => ?_⟩
      rw [hll0] at ht
      rw [List.getElem?_take] at hc ht
      split at hc
      · rename_i hi
        rw [if_pos hi] at ht
        exact (hr' i c t hc ht).e0 hx
      · simp at hc
    have hx4 := hx
    have ho4 := ho
    obtain ⟨a4, c4, rfl, hc4, hm4, hF4, hS4, hC4⟩ := hS.view
    ((conv=>whnf);repeat((first|refine mvT ?_|refine mvF ?_|refine yT ?_|refine yF ?_);conv=>whnf))
    (refine mvB ?_;((conv=>whnf);repeat((first|refine mvT ?_|refine mvF ?_|refine yT ?_|refine yF ?_);conv=>whnf)))
    rw [hlen4]
    refine Does.mono (counted_does flex false ll.length 4 (by omega) (by omega) _) ?_;rintro r5 w5 ⟨hr5, hx5⟩;((conv=>whnf);repeat((first|refine mvT ?_|refine mvF ?_|refine yT ?_|refine yF ?_);conv=>whnf))
    have hcl := counted_length flex false ll.length 4 (by omega) (by omega)
    refine VL.loop (fun i : Nat × Value => [(1, .int .i64 v), (2, .bool flex), (4, .pointer (some ⟨b, 0, none⟩)), (10, .slice a4 ll.length c4), (11, i.2), (30, .int .i64 ll.length), (31, .int .i64 i.1)])
      (fun i w' => Ext nob w4 w' ∧ i.1 ≤ ll.length ∧ ∃ acc, OB w' w4.heap.size i.2 acc ∧ acc ++ (ll.drop i.1).flatMap (valueW (fun sub t => partB d v flex sub t) of sub false flex) = countedB flex false ll.length 4 ++ ll.flatMap (valueW (fun sub t => partB d v flex sub t) of sub false flex)) (fun i => ll.length - i.1) (0, r5)
      ⟨rfl, rfl, rfl, rfl, rfl, rfl, rfl, trivial⟩ ⟨hx5, Nat.zero_le _, _, hr5, rfl⟩ ?_
    rintro ⟨i, vo⟩ w6 ⟨hx6, hi, acc, hacc, hsum⟩
    dsimp only at hi hacc hsum
    have hxw6 := hx4.e0 hx6
    ((conv=>whnf);repeat((first|refine mvT ?_|refine mvF ?_|refine yT ?_|refine yF ?_);conv=>whnf))
    refine cI (by rfl) (fun h1=>?_) (fun h1=>?_)
    · have hil : i < ll.length := by have := of_decide_eq_true h1; simp only at this; omega
      have hil4 : i < ls4.length := by omega
      have htr := hR i ls4[i] ll[i] (by simp [hil4]) (by simp [hil])
      rw [List.drop_eq_getElem_cons hil, List.flatMap_cons, ← List.append_assoc] at hsum
      obtain ⟨b7, o7, rfl, hc7⟩ := hC4 i ls4[i] (by simp [hil4])
      have hx6' : Ext nob w4 w6.drew := hx6.e0 (ext_drew _)
      have ho6 := (ho4.e0 hx6')
      have hll := congrArg List.length hsum
      rw [List.length_append, List.length_append] at hll
      ((conv=>whnf);repeat((first|refine mvT ?_|refine mvF ?_|refine yT ?_|refine yF ?_);conv=>whnf))
      refine VD.draw mixed (.q 0 (.q 1 (.q 2 (.q 3 (.q 4 (.q 5 (.q 6 (.q 7 (.q 8 (.q 9 (.q 10 (.eff 11 [] (.eff 12 [] (.eff 13 [] (.done))))))))))))))) (by kernel_rfl) ?_;((conv=>whnf);repeat((first|refine mvT ?_|refine mvF ?_|refine yT ?_|refine yF ?_);conv=>whnf))
      refine ldS (ho6.cell rfl) ?_;((conv=>whnf);repeat((first|refine mvT ?_|refine mvF ?_|refine yT ?_|refine yF ?_);conv=>whnf))
      refine ldS (ho6.cell rfl) ?_;((conv=>whnf);repeat((first|refine mvT ?_|refine mvF ?_|refine yT ?_|refine yF ?_);conv=>whnf))
      (refine mvB ?_;((conv=>whnf);repeat((first|refine mvT ?_|refine mvF ?_|refine yT ?_|refine yF ?_);conv=>whnf)))
      refine ⟨b7, o7, rfl, ⟨by omega, by omega⟩, ?_⟩
      ((conv=>whnf);repeat((first|refine mvT ?_|refine mvF ?_|refine yT ?_|refine yF ?_);conv=>whnf))
      refine ⟨ls4[i], htr.len, hc7.e0 hx6', ?_⟩
      ((conv=>whnf);repeat((first|refine mvT ?_|refine mvF ?_|refine yT ?_|refine yF ?_);conv=>whnf))
      refine Does.mono (value_does hp ((hfr.e0 hxw6).e0 (ext_drew _)) (G := G) ⟨_, rfl, htr.e0 hx6'⟩ ho1 hsub hsl (by omega)) ?_
      rintro r8 w8 ⟨hr8, hx8⟩
      ((conv=>whnf);repeat((first|refine mvT ?_|refine mvF ?_|refine yT ?_|refine yF ?_);conv=>whnf))
      refine app_bytes rfl rfl ((hacc.e0 (ext_drew _)).e0 hx8) hr8.bytesAny.src rfl (by omega) (by have := hx6'.size; have := hx8.size; omega) ?_
      intro r9 w9 hr9 hx9 _ _
      ((conv=>whnf);repeat((first|refine mvT ?_|refine mvF ?_|refine yT ?_|refine yF ?_);conv=>whnf))
      exact ⟨(i + 1, r9), ⟨rfl, rfl, rfl, rfl, rfl, rfl, inc_eq (by omega), trivial⟩, ⟨(hx6'.e0 hx8).own hx9 hacc.blk (Nat.le_refl _), by simp only; omega, _, hr9, hsum⟩, by simp only; omega⟩
    · have hil : i = ll.length := by have := of_decide_eq_false h1; simp only at this; omega
      ((conv=>whnf);repeat((first|refine mvT ?_|refine mvF ?_|refine yT ?_|refine yF ?_);conv=>whnf))
      rw [hil, List.drop_length, List.flatMap_nil, List.append_nil] at hsum
      rw [← hsum]
      exact ⟨hacc.mono hx4.size, hxw6⟩
theorem field_struct {d : Nat} (hp : PartC d) {F G : Nat → Prop} {w : World} {c : List Value} {x : Value} {fr to nul tag df of : Int} {sub : List Fd} {t : T} {v : Int} {flex nb : Bool} (hf : FdC w F c (.mk 10 fr to nul tag df of sub)) (ht : Tr w G x t)
    (hnul : 0 ≤ nul) (hsl : sub.length ≤ 1000) (hsub : ∀ f, f ∈ sub → okF d f = true) (hnb : nullF (.mk 10 fr to nul tag df of sub) v t = nb)
    (hlen : (if nb = true then fixed (-1) 1 else fixed 1 1 ++ partB d v flex sub t).length ≤ 105000000000000) :
    Does X.P 39 #[.agg c.toArray, .int .i64 v, .bool flex, x] w fun r w' => OB w' w.heap.size r (if nb = true then fixed (-1) 1 else fixed 1 1 ++ partB d v flex sub t) ∧ Ext nob w w' := by
  have hf0 := hf
  have hts := ht
  cases hf
  rename_i sv ls hl hlen2 hr
  obtain ⟨ct, rfl, ht⟩ := ht
  have ht0 := ht
  cases ht
  rename_i n s nl l u sv' lv uv ls' hn hs' hl' hlen' hr' hu
  have hfr : FdsR w F sv sub := ⟨ls, hl, hlen2, hr⟩
  refine Does.go (X := X) (l := [_, _, _, _]) Tryz.func39 rfl (by kernel_rfl) (by kernel_rfl) _ rfl ?_
  ((conv=>whnf);repeat((first|refine mvT ?_|refine mvF ?_|refine yT ?_|refine yF ?_);conv=>whnf))
  intro b w1 hb ho hx
  ((conv=>whnf);repeat((first|refine mvT ?_|refine mvF ?_|refine yT ?_|refine yF ?_);conv=>whnf))
  intro b2 w2 hb2 ho2 hx2
  ((conv=>whnf);repeat((first|refine mvT ?_|refine mvF ?_|refine yT ?_|refine yF ?_);conv=>whnf))
  have ho := ho.e0 hx2
  have hx := hx.e0 hx2
  refine ⟨_, rfl, ho.cells, ?_⟩
  ((conv=>whnf);repeat((first|refine mvT ?_|refine mvF ?_|refine yT ?_|refine yF ?_);conv=>whnf))
  refine ⟨_, rfl, ho2.cells, ?_⟩
  ((conv=>whnf);repeat((first|refine mvT ?_|refine mvF ?_|refine yT ?_|refine yF ?_);conv=>whnf))
  refine Does.mono (null_does (hf0.e0 hx) (hts.e0 hx) v) ?_
  rintro r3 w3 ⟨rfl, hx3⟩
  rw [hnb]
  have ho := ho.e0 hx3
  have ho2 := ho2.e0 hx3
  have hx := hx.e0 hx3
  have hn0 : decide (nul ≥ 0) = true := decide_eq_true hnul
  cases nb with
  | true =>
    ((conv=>whnf);repeat((first|refine mvT ?_|refine mvF ?_|refine yT ?_|refine yF ?_);conv=>whnf))
    refine ldS (ho.cell rfl) ?_;((conv=>whnf);repeat((first|refine mvT ?_|refine mvF ?_|refine yT ?_|refine yF ?_);conv=>whnf))
    refine ldS (ho.cell rfl) ?_;((conv=>whnf);repeat((first|refine mvT ?_|refine mvF ?_|refine yT ?_|refine yF ?_);conv=>whnf))
    refine ldS (ho.cell rfl) ?_;((conv=>whnf);repeat((first|refine mvT ?_|refine mvF ?_|refine yT ?_|refine yF ?_);conv=>whnf))
    refine cI (by rfl) (fun h1=>?_) (fun h1=>?_)
    · ((conv=>whnf);repeat((first|refine mvT ?_|refine mvF ?_|refine yT ?_|refine yF ?_);conv=>whnf))
      refine Does.mono (Fixed_does (-1) 1 (by omega) _) ?_;rintro r4 w4 ⟨hr4, hx4⟩;((conv=>whnf);repeat((first|refine mvT ?_|refine mvF ?_|refine yT ?_|refine yF ?_);conv=>whnf))
      exact ⟨hr4.mono hx.size, hx.e0 hx4⟩
    · have := of_decide_eq_false h1
      omega
  | false =>
    have hlen : (fixed 1 1 ++ partB d v flex sub (.mk n s nl l u)).length ≤ 105000000000000 := hlen
    ((conv=>whnf);repeat((first|refine mvT ?_|refine mvF ?_|refine yT ?_|refine yF ?_);conv=>whnf))
    refine ldS (ho.cell rfl) ?_;((conv=>whnf);repeat((first|refine mvT ?_|refine mvF ?_|refine yT ?_|refine yF ?_);conv=>whnf))
    refine ldS (ho.cell rfl) ?_;((conv=>whnf);repeat((first|refine mvT ?_|refine mvF ?_|refine yT ?_|refine yF ?_);conv=>whnf))
    refine ldS (ho.cell rfl) ?_;((conv=>whnf);repeat((first|refine mvT ?_|refine mvF ?_|refine yT ?_|refine yF ?_);conv=>whnf))
    refine cI (by rfl) (fun h1=>?_) (fun h1=>?_)
    · ((conv=>whnf);repeat((first|refine mvT ?_|refine mvF ?_|refine yT ?_|refine yF ?_);conv=>whnf))
      have hxd := hx.e0 (ext_drew _)
      have hod := ho.e0 (ext_drew _)
      have hod2 := ho2.e0 (ext_drew _)
      rw [List.length_append] at hlen
      refine VD.draw mixed (.q 1 (.q 2 (.q 3 (.q 4 (.q 5 (.eff 0 [2, 5] (.eff 6 [] (.eff 7 [] (.eff 8 [] (.done)))))))))) (by kernel_rfl) ?_;((conv=>whnf);repeat((first|refine mvT ?_|refine mvF ?_|refine yT ?_|refine yF ?_);conv=>whnf))
      refine ldS (hod.cell rfl) ?_;((conv=>whnf);repeat((first|refine mvT ?_|refine mvF ?_|refine yT ?_|refine yF ?_);conv=>whnf))
      (refine mvB ?_;((conv=>whnf);repeat((first|refine mvT ?_|refine mvF ?_|refine yT ?_|refine yF ?_);conv=>whnf)))
      refine ⟨_, rfl, hod2.cells, ?_⟩
      ((conv=>whnf);repeat((first|refine mvT ?_|refine mvF ?_|refine yT ?_|refine yF ?_);conv=>whnf))
      refine Does.mono (Fixed_does 1 1 (by omega) _) ?_
      rintro r4 w4 ⟨hr4, hx4⟩
      refine ⟨by (conv => whnf); exact ⟨⟨_, (hod.e0 hx4).cell rfl, rfl, rfl⟩, ⟨_, rfl, (hod2.e0 hx4).cells, rfl, rfl⟩, trivial⟩, ?_⟩
      ((conv=>whnf);repeat((first|refine mvT ?_|refine mvF ?_|refine yT ?_|refine yF ?_);conv=>whnf))
      refine Does.mono (hp (G := G) (hfr.e0 (hxd.e0 hx4)) ⟨_, rfl, ht0.e0 (hxd.e0 hx4)⟩ hsub hsl (by omega)) ?_
      rintro r5 w5 ⟨hr5, hx5⟩
      ((conv=>whnf);repeat((first|refine mvT ?_|refine mvF ?_|refine yT ?_|refine yF ?_);conv=>whnf))
      refine app_bytes rfl rfl (hr4.e0 hx5) hr5.bytesAny.src rfl (by omega) (by have := hx4.size; have := hx5.size; omega) ?_
      intro r6 w6 hr6 hx6 _ _
      ((conv=>whnf);repeat((first|refine mvT ?_|refine mvF ?_|refine yT ?_|refine yF ?_);conv=>whnf))
      exact ⟨hr6.mono hxd.size, (hxd.e0 (hx4.e0 hx5)).own hx6 hr4.blk hxd.size⟩
    · have := of_decide_eq_false h1
      omega
theorem field_value {d : Nat} (hp : PartC d) {F G : Nat → Prop} {w : World} {c : List Value} {x : Value} {kind fr to nul tag df of : Int} {sub : List Fd} {t : T} {v : Int} {flex nb : Bool} (hf : FdC w F c (.mk kind fr to nul tag df of sub)) (ht : Tr w G x t)
    (hk : 0 ≤ kind ∧ kind ≤ 10) (hnk : ¬ (kind = 10 ∧ 0 ≤ nul)) (hsl : sub.length ≤ 1000) (hsub : ∀ f, f ∈ sub → okF d f = true) (hnb : nullF (.mk kind fr to nul tag df of sub) v t = nb)
    (hlen : (valueW (fun sub t => partB d v flex sub t) kind sub nb flex t).length ≤ 105000000000000) :
    Does X.P 39 #[.agg c.toArray, .int .i64 v, .bool flex, x] w fun r w' => OB w' w.heap.size r (valueW (fun sub t => partB d v flex sub t) kind sub nb flex t) ∧ Ext nob w w' := by
  have hf0 := hf
  have hts := ht
  cases hf
  rename_i sv ls hl hlen2 hr
  obtain ⟨ct, rfl, ht⟩ := ht
  have ht0 := ht
  cases ht
  rename_i n s nl l u sv' lv uv ls' hn hs' hl' hlen' hr' hu
  have hfr : FdsR w F sv sub := ⟨ls, hl, hlen2, hr⟩
  refine Does.go (X := X) (l := [_, _, _, _]) Tryz.func39 rfl (by kernel_rfl) (by kernel_rfl) _ rfl ?_
  ((conv=>whnf);repeat((first|refine mvT ?_|refine mvF ?_|refine yT ?_|refine yF ?_);conv=>whnf))
  intro b w1 hb ho hx
  ((conv=>whnf);repeat((first|refine mvT ?_|refine mvF ?_|refine yT ?_|refine yF ?_);conv=>whnf))
  intro b2 w2 hb2 ho2 hx2
  ((conv=>whnf);repeat((first|refine mvT ?_|refine mvF ?_|refine yT ?_|refine yF ?_);conv=>whnf))
  have ho := ho.e0 hx2
  have hx := hx.e0 hx2
  refine ⟨_, rfl, ho.cells, ?_⟩
  ((conv=>whnf);repeat((first|refine mvT ?_|refine mvF ?_|refine yT ?_|refine yF ?_);conv=>whnf))
  refine ⟨_, rfl, ho2.cells, ?_⟩
  ((conv=>whnf);repeat((first|refine mvT ?_|refine mvF ?_|refine yT ?_|refine yF ?_);conv=>whnf))
  refine Does.mono (null_does (hf0.e0 hx) (hts.e0 hx) v) ?_
  rintro r3 w3 ⟨rfl, hx3⟩
  rw [hnb]
  have ho := ho.e0 hx3
  have ho2 := ho2.e0 hx3
  have hx := hx.e0 hx3
  ((conv=>whnf);repeat((first|refine mvT ?_|refine mvF ?_|refine yT ?_|refine yF ?_);conv=>whnf))
  refine ldS (ho.cell rfl) ?_;((conv=>whnf);repeat((first|refine mvT ?_|refine mvF ?_|refine yT ?_|refine yF ?_);conv=>whnf))
  refine cI (by rfl) (fun h1=>?_) (fun h1=>?_)
  · have : kind = 11 := by simpa using h1
    omega
  · ((conv=>whnf);repeat((first|refine mvT ?_|refine mvF ?_|refine yT ?_|refine yF ?_);conv=>whnf))
    refine ldS (ho.cell rfl) ?_;((conv=>whnf);repeat((first|refine mvT ?_|refine mvF ?_|refine yT ?_|refine yF ?_);conv=>whnf))
    intro c2 h2
    cases c2
    · ((conv=>whnf);repeat((first|refine mvT ?_|refine mvF ?_|refine yT ?_|refine yF ?_);conv=>whnf))
      refine ldS (ho.cell rfl) ?_;((conv=>whnf);repeat((first|refine mvT ?_|refine mvF ?_|refine yT ?_|refine yF ?_);conv=>whnf))
      refine ldS (ho.cell rfl) ?_;((conv=>whnf);repeat((first|refine mvT ?_|refine mvF ?_|refine yT ?_|refine yF ?_);conv=>whnf))
      (refine mvB ?_;((conv=>whnf);repeat((first|refine mvT ?_|refine mvF ?_|refine yT ?_|refine yF ?_);conv=>whnf)))
      (refine mvB ?_;((conv=>whnf);repeat((first|refine mvT ?_|refine mvF ?_|refine yT ?_|refine yF ?_);conv=>whnf)))
      refine ⟨_, rfl, ho2.cells, ?_⟩
      ((conv=>whnf);repeat((first|refine mvT ?_|refine mvF ?_|refine yT ?_|refine yF ?_);conv=>whnf))
      refine Does.mono (value_does hp (hfr.e0 hx) (hts.e0 hx) hk hsub hsl hlen) ?_;rintro r4 w4 ⟨hr4, hx4⟩;((conv=>whnf);repeat((first|refine mvT ?_|refine mvF ?_|refine yT ?_|refine yF ?_);conv=>whnf))
      exact ⟨hr4.mono hx.size, hx.e0 hx4⟩
    · have hk10 : kind = 10 := by simpa using h2
      ((conv=>whnf);repeat((first|refine mvT ?_|refine mvF ?_|refine yT ?_|refine yF ?_);conv=>whnf))
      refine ldS (ho.cell rfl) ?_;((conv=>whnf);repeat((first|refine mvT ?_|refine mvF ?_|refine yT ?_|refine yF ?_);conv=>whnf))
      refine cI (by rfl) (fun h3=>?_) (fun h3=>?_)
      · have := of_decide_eq_true h3
        exact absurd ⟨hk10, by omega⟩ hnk
      · ((conv=>whnf);repeat((first|refine mvT ?_|refine mvF ?_|refine yT ?_|refine yF ?_);conv=>whnf))
        refine ldS (ho.cell rfl) ?_;((conv=>whnf);repeat((first|refine mvT ?_|refine mvF ?_|refine yT ?_|refine yF ?_);conv=>whnf))
        refine ldS (ho.cell rfl) ?_;((conv=>whnf);repeat((first|refine mvT ?_|refine mvF ?_|refine yT ?_|refine yF ?_);conv=>whnf))
        (refine mvB ?_;((conv=>whnf);repeat((first|refine mvT ?_|refine mvF ?_|refine yT ?_|refine yF ?_);conv=>whnf)))
        (refine mvB ?_;((conv=>whnf);repeat((first|refine mvT ?_|refine mvF ?_|refine yT ?_|refine yF ?_);conv=>whnf)))
        refine ⟨_, rfl, ho2.cells, ?_⟩
        ((conv=>whnf);repeat((first|refine mvT ?_|refine mvF ?_|refine yT ?_|refine yF ?_);conv=>whnf))
        refine Does.mono (value_does hp (hfr.e0 hx) (hts.e0 hx) hk hsub hsl hlen) ?_;rintro r4 w4 ⟨hr4, hx4⟩;((conv=>whnf);repeat((first|refine mvT ?_|refine mvF ?_|refine yT ?_|refine yF ?_);conv=>whnf))
        exact ⟨hr4.mono hx.size, hx.e0 hx4⟩
theorem fieldB_struct (d : Nat) (v : Int) (flex : Bool) (f : Fd) (t : T) (h1 : ¬ f.kind = 11) (h2 : f.kind = 10 ∧ 0 ≤ f.nul) : fieldB (d + 1) v flex f t = if nullF f v t = true then fixed (-1) 1 else fixed 1 1 ++ partB d v flex f.sub t := by
  rw [fieldB, fieldW, if_neg h1, if_pos h2]
  rfl
theorem fieldB_value (d : Nat) (v : Int) (flex : Bool) (f : Fd) (t : T) (h1 : ¬ f.kind = 11) (h2 : ¬ (f.kind = 10 ∧ 0 ≤ f.nul)) : fieldB (d + 1) v flex f t = valueW (fun sub t => partB d v flex sub t) f.kind f.sub (nullF f v t) flex t := by
  rw [fieldB, fieldW, if_neg h1, if_neg h2]
  rfl
theorem field_does {d : Nat} (hp : PartC d) : FieldC (d + 1) := by
  intro F G w c x f t v flex hf ht hok hlen
  obtain ⟨kind, fr, to, nul, tag, df, of, sub⟩ := f
  obtain ⟨ht1, hk, ho1, hsl, hsub⟩ := okF_parts hok
  by_cases h11 : kind = 11
  · subst h11
    exact field_list hp hf ht ho1 hsl hsub rfl _ rfl hlen
  · by_cases h10 : kind = 10 ∧ 0 ≤ nul
    · have hfb : fieldB (d + 1) v flex (.mk kind fr to nul tag df of sub) t = if nullF (.mk kind fr to nul tag df of sub) v t = true then fixed (-1) 1 else fixed 1 1 ++ partB d v flex sub t := by
        exact fieldB_struct d v flex (.mk kind fr to nul tag df of sub) t h11 h10
      rw [hfb] at hlen ⊢
      obtain ⟨rfl, hn⟩ := h10
      exact field_struct hp hf ht hn hsl hsub rfl hlen
    · have hfb : fieldB (d + 1) v flex (.mk kind fr to nul tag df of sub) t = valueW (fun sub t => partB d v flex sub t) kind sub (nullF (.mk kind fr to nul tag df of sub) v t) flex t := by
        exact fieldB_value d v flex (.mk kind fr to nul tag df of sub) t h11 h10
      rw [hfb] at hlen ⊢
      exact field_value hp hf ht ⟨hk.1, by omega⟩ h10 hsl hsub rfl hlen
end Go.Proofs.YtepamajphjgigaaGreatDoor.K
