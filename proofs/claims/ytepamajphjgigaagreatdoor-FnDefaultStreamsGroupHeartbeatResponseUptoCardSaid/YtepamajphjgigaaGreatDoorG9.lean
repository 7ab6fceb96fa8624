/- Parts. -/
import Derived.Test.YtepamajphjgigaaGreatDoorG8
set_option linter.unusedVariables false
set_option linter.unusedSimpArgs false
namespace Go.Proofs.YtepamajphjgigaaGreatDoor.K
open Go
set_option maxHeartbeats 1600000

theorem OB.shape {w : World} {B : Nat} {v : Value} {l : List UInt8} (h : OB w B v l) : ∃ a c, v = .slice a l.length c ∧ l.length ≤ c ∧ c ≤ maxLen := by
  obtain ⟨a, c, h1, h2, h3, _⟩ := h.bytesAny.view
  exact ⟨a, c, h1, h2, h3⟩
theorem flatMap_len : ∀ (l : List Tg), l.length ≤ (l.flatMap tagB).length
  | [] => by simp
  | x :: r => by
    have := flatMap_len r
    have h1 : 1 ≤ (tagB x).length := by
      unfold tagB uvar
      split <;> simp <;> omega
    simp only [List.flatMap_cons, List.length_cons, List.length_append]
    omega
theorem part_does {d : Nat} (hfd : FieldC d) : PartC d := by
  intro F G w y x fs t v flex hf ht hok hfl hlen
  have hutag : ∀ f, f ∈ fs → f.tag ≤ 1000000 := fun f hf => okF_tag (hok f hf)
  have hts := ht.mono (F' := fun k => k < w.heap.size) fun k h _ => h
  clear ht
  obtain ⟨n, s, nl, l, u⟩ := t
  obtain ⟨ct, rfl, ht⟩ := id hts
  have ht0 := ht
  cases ht
  rename_i sv' lv uv ls' hn hs' hl' hlen' hr' hu
  have hf0 := hf
  obtain ⟨ls, hsl, hlen2, hr⟩ := hf
  obtain ⟨a, c, rfl, hc, hm, hF, hS, hC⟩ := hsl.view
  generalize hT : T.mk n s nl l u = t at *
  have hpart : partB d v flex fs t = plainW (fieldB d v flex) v t 0 fs ++ (if flex = true then uvar (allTags (fieldB d v flex) (usualB d) fs t).length ++ (allTags (fieldB d v flex) (usualB d) fs t).flatMap tagB else []) := rfl
  rw [hpart] at hlen ⊢
  clear hpart
  have hlenP : (plainW (fieldB d v flex) v t 0 fs).length ≤ 105000000000000 := by rw [List.length_append] at hlen; omega
  refine Does.go (X := X) (l := [_, _, _, _]) Tryz.func22 rfl (by kernel_rfl) (by kernel_rfl) _ rfl ?_
  ((conv=>whnf);repeat((first|refine mvT ?_|refine mvF ?_|refine yT ?_|refine yF ?_);conv=>whnf))
  intro b w1 hb ho hx
  ((conv=>whnf);repeat((first|refine mvT ?_|refine mvF ?_|refine yT ?_|refine yF ?_);conv=>whnf))
  refine VL.cutB (fun vo : Value => [(0, .slice a ls.length c), (1, .int .i64 v), (2, .bool flex), (7, .pointer (some ⟨b, 0, none⟩)), (9, vo), (10, .slice none 0 0), (11, .int .i64 0)])
    (fun vo w' => Ext nob w1 w' ∧ OB w' w1.heap.size vo (plainW (fieldB d v flex) v t 0 fs)) ?_ ?_
  · refine VL.loop (fun i : Nat × Value => [(0, .slice a ls.length c), (1, .int .i64 v), (2, .bool flex), (7, .pointer (some ⟨b, 0, none⟩)), (9, i.2), (10, .slice none 0 0), (11, .int .i64 0), (21, .slice a ls.length c), (22, .int .i64 ls.length), (23, .int .i64 i.1)])
      (fun i w' => Ext nob w1 w' ∧ i.1 ≤ ls.length ∧ ∃ acc, OB w' w1.heap.size i.2 acc ∧ acc ++ plainW (fieldB d v flex) v t i.1 (fs.drop i.1) = plainW (fieldB d v flex) v t 0 fs) (fun i => ls.length - i.1) (0, .slice none 0 0)
      ⟨rfl, rfl, rfl, rfl, rfl, rfl, rfl, rfl, rfl, rfl, trivial⟩ ⟨Ext.refl _ _, Nat.zero_le _, [], OB.nil _ _, rfl⟩ ?_
    rintro ⟨i, vo⟩ w2 ⟨hx2, hi, acc, hacc, hsum⟩
    dsimp only at hi hacc hsum
    ((conv=>whnf);repeat((first|refine mvT ?_|refine mvF ?_|refine yT ?_|refine yF ?_);conv=>whnf))
    refine cI (by rfl) (fun h1=>?_) (fun h1=>?_)
    · have hil : i < ls.length := by have := of_decide_eq_true h1; simp only at this; omega
      have his : i < fs.length := by omega
      have hfi := hr i ls[i] fs[i] (by simp [hil]) (by simp [his])
      have hoki := hok fs[i] (by simp)
      rw [List.drop_eq_getElem_cons his] at hsum
      obtain ⟨b4, o4, rfl, hc4⟩ := hC i ls[i] (by simp [hil])
      generalize ls[i] = ci at hfi hc4
      generalize fs[i] = f at hfi hoki hsum
      have hfi0 := hfi
      have hplain : plainW (fieldB d v flex) v t i (f :: fs.drop (i + 1)) = (if f.tag < 0 ∧ hasF f v = true then fieldB d v flex f (atT t i) else []) ++ plainW (fieldB d v flex) v t (i + 1) (fs.drop (i + 1)) := rfl
      rw [hplain, ← List.append_assoc] at hsum
      have hll := congrArg List.length hsum
      rw [List.length_append, List.length_append] at hll
      ((conv=>whnf);repeat((first|refine mvT ?_|refine mvF ?_|refine yT ?_|refine yF ?_);conv=>whnf))
      refine ⟨b4, o4, rfl, ⟨by omega, by omega⟩, ?_⟩
      ((conv=>whnf);repeat((first|refine mvT ?_|refine mvF ?_|refine yT ?_|refine yF ?_);conv=>whnf))
      refine ⟨ci, hfi.len, (hc4.e0 hx).e0 hx2, ?_⟩
      ((conv=>whnf);repeat((first|refine mvT ?_|refine mvF ?_|refine yT ?_|refine yF ?_);conv=>whnf))
      intro b3 w3 hb3 ho3 hx3
      ((conv=>whnf);repeat((first|refine mvT ?_|refine mvF ?_|refine yT ?_|refine yF ?_);conv=>whnf))
      refine st_all ci ho3 hfi.len rfl hfi.ok ?_
      intro w4 ho4 hx4
      have hx14 : Ext nob w1 w4 := (hx2.e0 hx3).st hx4 (by have := hx2.size; omega)
      have hx24 : Ext nob w2 w4 := hx3.st hx4 hb3
      ((conv=>whnf);repeat((first|refine mvT ?_|refine mvF ?_|refine yT ?_|refine yF ?_);conv=>whnf))
      cases hfi
      rename_i kind fr to nul tag df of sub sv ls2 hl2 hlen2' hr2
      refine ldS (ho4.cell rfl) ?_;((conv=>whnf);repeat((first|refine mvT ?_|refine mvF ?_|refine yT ?_|refine yF ?_);conv=>whnf))
      intro c3 h3
      cases c3
      · have htg : ¬ tag < 0 := by have := of_decide_eq_false h3; omega
        have hno : (if (Fd.mk kind fr to nul tag df of sub).tag < 0 ∧ hasF (Fd.mk kind fr to nul tag df of sub) v = true then fieldB d v flex (Fd.mk kind fr to nul tag df of sub) (atT t i) else []) = [] := if_neg fun h => htg h.1
        rw [hno, List.append_nil] at hsum
        ((conv=>whnf);repeat((first|refine mvT ?_|refine mvF ?_|refine yT ?_|refine yF ?_);conv=>whnf))
        exact ⟨(i + 1, vo), ⟨rfl, rfl, rfl, rfl, rfl, rfl, rfl, rfl, rfl, inc_eq (by rw [maxLen_eq] at hm; omega), trivial⟩, ⟨hx14, by simp only; omega, acc, hacc.e0 hx24, hsum⟩, by simp only; omega⟩
      · have htg : tag < 0 := by have := of_decide_eq_true h3; omega
        ((conv=>whnf);repeat((first|refine mvT ?_|refine mvF ?_|refine yT ?_|refine yF ?_);conv=>whnf))
        refine ⟨_, rfl, ho4.cells, ?_⟩
        ((conv=>whnf);repeat((first|refine mvT ?_|refine mvF ?_|refine yT ?_|refine yF ?_);conv=>whnf))
        refine Does.mono (has_does (hfi0.e0 (hx.e0 hx14)) v) ?_
        rintro r5 w5 ⟨rfl, hx5⟩
        ((conv=>whnf);repeat((first|refine mvT ?_|refine mvF ?_|refine yT ?_|refine yF ?_);conv=>whnf))
        refine cI (by rfl) (fun h4=>?_) (fun h4=>?_)
        · have hyes : (if (Fd.mk kind fr to nul tag df of sub).tag < 0 ∧ hasF (Fd.mk kind fr to nul tag df of sub) v = true then fieldB d v flex (Fd.mk kind fr to nul tag df of sub) (atT t i) else []) = fieldB d v flex (Fd.mk kind fr to nul tag df of sub) (atT t i) := if_pos ⟨htg, h4⟩
          rw [hyes] at hsum hll
          have hx15 := (hx14.e0 hx5).e0 (ext_drew _)
          have ho5 := (ho4.e0 hx5).e0 (ext_drew _)
          have hob := ho.e0 hx15
          ((conv=>whnf);repeat((first|refine mvT ?_|refine mvF ?_|refine yT ?_|refine yF ?_);conv=>whnf))
          refine VD.draw mixed (.q 0 (.q 1 (.q 2 (.q 3 (.q 4 (.q 5 (.eff 6 [1] (.eff 7 [] (.eff 8 [] (.eff 9 [] (.done))))))))))) (by kernel_rfl) ?_;((conv=>whnf);repeat((first|refine mvT ?_|refine mvF ?_|refine yT ?_|refine yF ?_);conv=>whnf))
          refine ⟨_, rfl, ho5.cells, ?_⟩
          ((conv=>whnf);repeat((first|refine mvT ?_|refine mvF ?_|refine yT ?_|refine yF ?_);conv=>whnf))
          (refine mvB ?_;((conv=>whnf);repeat((first|refine mvT ?_|refine mvF ?_|refine yT ?_|refine yF ?_);conv=>whnf)))
          refine ⟨_, rfl, hob.cells, ?_⟩
          ((conv=>whnf);repeat((first|refine mvT ?_|refine mvF ?_|refine yT ?_|refine yF ?_);conv=>whnf))
          refine Does.mono (at_does (hts.e0 (hx.e0 hx15)) i) ?_
          rintro r6 w6 ⟨hr6, hx6⟩
          refine ⟨by (conv => whnf); exact ⟨⟨_, rfl, (ho5.e0 hx6).cells, rfl, rfl⟩, trivial⟩, ?_⟩
          ((conv=>whnf);repeat((first|refine mvT ?_|refine mvF ?_|refine yT ?_|refine yF ?_);conv=>whnf))
          refine Does.mono (hfd (hfi0.e0 ((hx.e0 hx15).e0 hx6)) hr6 hoki (by omega)) ?_
          rintro r7 w7 ⟨hr7, hx7⟩
          have hx27 : Ext nob w2 w7 := (((hx24.e0 hx5).e0 (ext_drew _)).e0 hx6).e0 hx7
          have hx17 : Ext nob w1 w7 := (hx15.e0 hx6).e0 hx7
          ((conv=>whnf);repeat((first|refine mvT ?_|refine mvF ?_|refine yT ?_|refine yF ?_);conv=>whnf))
          refine app_bytes rfl rfl (hacc.e0 hx27) hr7.bytesAny.src rfl (by omega) hx17.size ?_
          intro r8 w8 hr8 hx8 _ _
          ((conv=>whnf);repeat((first|refine mvT ?_|refine mvF ?_|refine yT ?_|refine yF ?_);conv=>whnf))
          exact ⟨(i + 1, r8), ⟨rfl, rfl, rfl, rfl, rfl, rfl, rfl, rfl, rfl, inc_eq (by rw [maxLen_eq] at hm; omega), trivial⟩, ⟨hx17.own hx8 hacc.blk (Nat.le_refl _), by simp only; omega, _, hr8, hsum⟩, by simp only; omega⟩
        · have hno : (if (Fd.mk kind fr to nul tag df of sub).tag < 0 ∧ hasF (Fd.mk kind fr to nul tag df of sub) v = true then fieldB d v flex (Fd.mk kind fr to nul tag df of sub) (atT t i) else []) = [] := if_neg fun h => by
            rw [h.2] at h4
            exact Bool.noConfusion h4
          rw [hno, List.append_nil] at hsum
          ((conv=>whnf);repeat((first|refine mvT ?_|refine mvF ?_|refine yT ?_|refine yF ?_);conv=>whnf))
          exact ⟨(i + 1, vo), ⟨rfl, rfl, rfl, rfl, rfl, rfl, rfl, rfl, rfl, inc_eq (by rw [maxLen_eq] at hm; omega), trivial⟩, ⟨hx14.e0 hx5, by simp only; omega, acc, (hacc.e0 hx24).e0 hx5, hsum⟩, by simp only; omega⟩
    · have hil : i = fs.length := by have := of_decide_eq_false h1; simp only at this; omega
      ((conv=>whnf);repeat((first|refine mvT ?_|refine mvF ?_|refine yT ?_|refine yF ?_);conv=>whnf))
      rw [hil, List.drop_length] at hsum
      have hsum : acc ++ [] = plainW (fieldB d v flex) v t 0 fs := hsum
      rw [List.append_nil] at hsum
      rw [← hsum]
      exact ⟨vo, ⟨rfl, rfl, rfl, rfl, rfl, rfl, rfl, trivial⟩, hx2, hacc⟩
  rintro vo w2 ⟨hx2, hvo⟩
  cases flex with
  | false =>
    ((conv=>whnf);repeat((first|refine mvT ?_|refine mvF ?_|refine yT ?_|refine yF ?_);conv=>whnf))
    have e : plainW (fieldB d v false) v t 0 fs ++ (if false = true then uvar (allTags (fieldB d v false) (usualB d) fs t).length ++ (allTags (fieldB d v false) (usualB d) fs t).flatMap tagB else []) = plainW (fieldB d v false) v t 0 fs := List.append_nil _
    rw [e]
    exact ⟨hvo.mono hx.size, hx.e0 hx2⟩
  | true =>
    have hlen : (plainW (fieldB d v true) v t 0 fs ++ (uvar (allTags (fieldB d v true) (usualB d) fs t).length ++ (allTags (fieldB d v true) (usualB d) fs t).flatMap tagB)).length ≤ 105000000000000 := hlen
    have hall : allTags (fieldB d v true) (usualB d) fs t = tagsW (fieldB d v true) (usualB d) fs t 0 (knownN fs 0) ++ (unknownT fs u).map cutT := by
      rw [← hT]
      rfl
    have hlenS : ((tagsW (fieldB d v true) (usualB d) fs t 0 (knownN fs 0)).flatMap tagB).length + (((unknownT fs u).map cutT).flatMap tagB).length ≤ 105000000000000 := by
      rw [hall, List.flatMap_append] at hlen
      simp only [List.length_append] at hlen
      omega
    have hkn : knownN fs 0 ≤ 1000001 := knownN_le fs 0 hutag (Nat.zero_le _)
    ((conv=>whnf);repeat((first|refine mvT ?_|refine mvF ?_|refine yT ?_|refine yF ?_);conv=>whnf))
    refine Does.mono (known_does ((hf0.e0 hx).e0 hx2) hutag) ?_
    rintro r3 w3 ⟨rfl, hx3⟩
    have hx13 : Ext nob w1 w3 := hx2.e0 hx3
    have hvo := hvo.e0 hx3
    have hK : IntKind.i64.wrap (knownN fs 0 : Nat) = ((knownN fs 0 : Nat) : Int) := i64_of (by omega) (by omega)
    ((conv=>whnf);repeat((first|refine mvT ?_|refine mvF ?_|refine yT ?_|refine yF ?_);conv=>whnf))
    rw [hK]
    generalize hKK : knownN fs 0 = K at *
    refine VL.cutB (fun i : Value × List Tg => [(0, .slice a ls.length c), (1, .int .i64 v), (2, .bool true), (7, .pointer (some ⟨b, 0, none⟩)), (9, vo), (10, i.1), (11, .int .i64 i.2.length)])
      (fun i w' => Ext nob w3 w' ∧ OB w' w3.heap.size i.1 (i.2.flatMap tagB) ∧ i.2 = tagsW (fieldB d v true) (usualB d) fs t 0 K) ?_ ?_
    · refine VL.loop (fun i : Nat × Value × List Tg => [(0, .slice a ls.length c), (1, .int .i64 v), (2, .bool true), (7, .pointer (some ⟨b, 0, none⟩)), (9, vo), (10, i.2.1), (11, .int .i64 i.2.2.length), (51, .int .i64 K), (52, .int .i64 i.1)])
        (fun i w' => Ext nob w3 w' ∧ i.1 ≤ K ∧ OB w' w3.heap.size i.2.1 (i.2.2.flatMap tagB) ∧ i.2.2 ++ tagsW (fieldB d v true) (usualB d) fs t i.1 (K - i.1) = tagsW (fieldB d v true) (usualB d) fs t 0 K) (fun i => K - i.1) (0, .slice none 0 0, [])
        ⟨rfl, rfl, rfl, rfl, rfl, rfl, rfl, rfl, rfl, trivial⟩ ⟨Ext.refl _ _, Nat.zero_le _, OB.nil _ _, rfl⟩ ?_
      rintro ⟨k, vt, tl⟩ w4 ⟨hx4, hkK, hvt, hsum⟩
      dsimp only at hkK hvt hsum
      ((conv=>whnf);repeat((first|refine mvT ?_|refine mvF ?_|refine yT ?_|refine yF ?_);conv=>whnf))
      refine cI (by rfl) (fun h1=>?_) (fun h1=>?_)
      · have hkl : k < K := by have := of_decide_eq_true h1; simp only at this; omega
        obtain ⟨j, hj⟩ : ∃ j, K - k = j + 1 := ⟨K - k - 1, by omega⟩
        have htw : tagsW (fieldB d v true) (usualB d) fs t k (K - k) = taggedW (fieldB d v true) (usualB d) k t 0 fs ++ tagsW (fieldB d v true) (usualB d) fs t (k + 1) j := by rw [hj]; rfl
        rw [htw] at hsum
        have hj' : K - (k + 1) = j := by omega
        ((conv=>whnf);repeat((first|refine mvT ?_|refine mvF ?_|refine yT ?_|refine yF ?_);conv=>whnf))
        refine VL.loop (fun i : Nat × Value × List Tg => [(0, .slice a ls.length c), (1, .int .i64 v), (2, .bool true), (7, .pointer (some ⟨b, 0, none⟩)), (9, vo), (10, i.2.1), (11, .int .i64 i.2.2.length), (14, .int .i64 k), (51, .int .i64 K), (52, .int .i64 k), (55, .slice a ls.length c), (56, .int .i64 ls.length), (57, .int .i64 i.1)])
          (fun i w' => Ext nob w3 w' ∧ i.1 ≤ ls.length ∧ OB w' w3.heap.size i.2.1 (i.2.2.flatMap tagB) ∧ i.2.2 ++ (taggedW (fieldB d v true) (usualB d) k t i.1 (fs.drop i.1) ++ tagsW (fieldB d v true) (usualB d) fs t (k + 1) j) = tagsW (fieldB d v true) (usualB d) fs t 0 K) (fun i => ls.length - i.1) (0, vt, tl)
          ⟨rfl, rfl, rfl, rfl, rfl, rfl, rfl, rfl, rfl, rfl, rfl, rfl, rfl, trivial⟩ ⟨hx4, Nat.zero_le _, hvt, hsum⟩ ?_
        rintro ⟨i, vt5, tl5⟩ w5 ⟨hx5, hi, hvt5, hsum5⟩
        dsimp only at hi hvt5 hsum5
        ((conv=>whnf);repeat((first|refine mvT ?_|refine mvF ?_|refine yT ?_|refine yF ?_);conv=>whnf))
        refine cI (by rfl) (fun h2=>?_) (fun h2=>?_)
        · have hil : i < ls.length := by have := of_decide_eq_true h2; simp only at this; omega
          have his : i < fs.length := by omega
          have hfi := hr i ls[i] fs[i] (by simp [hil]) (by simp [his])
          have hoki := hok fs[i] (by simp)
          rw [List.drop_eq_getElem_cons his] at hsum5
          obtain ⟨b6, o6, rfl, hc6⟩ := hC i ls[i] (by simp [hil])
          generalize ls[i] = ci at hfi hc6
          generalize fs[i] = f at hfi hoki hsum5
          have hfi0 := hfi
          have htg : taggedW (fieldB d v true) (usualB d) k t i (f :: fs.drop (i + 1)) = (if f.tag = (k : Int) ∧ usualB d f (atT t i) = false then [(k, fieldB d v true f (atT t i))] else []) ++ taggedW (fieldB d v true) (usualB d) k t (i + 1) (fs.drop (i + 1)) := rfl
          rw [htg, List.append_assoc, ← List.append_assoc] at hsum5
          have hx1w5 : Ext nob w1 w5 := hx13.e0 hx5
          ((conv=>whnf);repeat((first|refine mvT ?_|refine mvF ?_|refine yT ?_|refine yF ?_);conv=>whnf))
          refine ⟨b6, o6, rfl, ⟨by omega, by omega⟩, ?_⟩
          ((conv=>whnf);repeat((first|refine mvT ?_|refine mvF ?_|refine yT ?_|refine yF ?_);conv=>whnf))
          refine ⟨ci, hfi.len, (hc6.e0 hx).e0 hx1w5, ?_⟩
          ((conv=>whnf);repeat((first|refine mvT ?_|refine mvF ?_|refine yT ?_|refine yF ?_);conv=>whnf))
          intro b7 w7 hb7 ho7 hx7
          ((conv=>whnf);repeat((first|refine mvT ?_|refine mvF ?_|refine yT ?_|refine yF ?_);conv=>whnf))
          refine st_all ci ho7 hfi.len rfl hfi.ok ?_
          intro w8 ho8 hx8
          have hx58 : Ext nob w5 w8 := hx7.st hx8 hb7
          ((conv=>whnf);repeat((first|refine mvT ?_|refine mvF ?_|refine yT ?_|refine yF ?_);conv=>whnf))
          cases hfi
          rename_i kind fr to nul tag df of sub sv ls2 hl2 hlen2' hr2
          have ho9 := ho8.e0 (ext_drew _)
          have hx59 := hx58.e0 (ext_drew _)
          have hob := ho.e0 (hx1w5.e0 hx59)
          refine VD.draw mixed (.q 0 (.q 1 (.q 2 (.q 3 (.q 4 (.q 5 (.q 6 (.q 7 (.eff 8 [5] (.eff 9 [] (.q 10 (.q 11 (.done))))))))))))) (by kernel_rfl) ?_;((conv=>whnf);repeat((first|refine mvT ?_|refine mvF ?_|refine yT ?_|refine yF ?_);conv=>whnf))
          refine ldS (ho9.cell rfl) ?_;((conv=>whnf);repeat((first|refine mvT ?_|refine mvF ?_|refine yT ?_|refine yF ?_);conv=>whnf))
          intro c3 h3
          cases c3
          · have hne : ¬ tag = (k : Int) := by
              intro he
              rw [he] at h3
              simp at h3
            have hno : (if (Fd.mk kind fr to nul tag df of sub).tag = (k : Int) ∧ usualB d (Fd.mk kind fr to nul tag df of sub) (atT t i) = false then [(k, fieldB d v true (Fd.mk kind fr to nul tag df of sub) (atT t i))] else []) = [] := if_neg fun h => hne h.1
            rw [hno, List.append_nil] at hsum5
            ((conv=>whnf);repeat((first|refine mvT ?_|refine mvF ?_|refine yT ?_|refine yF ?_);conv=>whnf))
            refine ⟨by (conv => whnf); exact ⟨⟨rfl, rfl⟩, trivial⟩, ?_⟩
            ((conv=>whnf);repeat((first|refine mvT ?_|refine mvF ?_|refine yT ?_|refine yF ?_);conv=>whnf))
            exact ⟨(i + 1, vt5, tl5), ⟨rfl, rfl, rfl, rfl, rfl, rfl, rfl, rfl, rfl, rfl, rfl, rfl, inc_eq (by rw [maxLen_eq] at hm; omega), trivial⟩, ⟨hx5.e0 hx59, by simp only; omega, hvt5.e0 hx59, hsum5⟩, by simp only; omega⟩
          · have heq : tag = (k : Int) := by simpa using h3
            ((conv=>whnf);repeat((first|refine mvT ?_|refine mvF ?_|refine yT ?_|refine yF ?_);conv=>whnf))
            refine ⟨_, rfl, ho9.cells, ?_⟩
            ((conv=>whnf);repeat((first|refine mvT ?_|refine mvF ?_|refine yT ?_|refine yF ?_);conv=>whnf))
            refine ⟨_, rfl, hob.cells, ?_⟩
            ((conv=>whnf);repeat((first|refine mvT ?_|refine mvF ?_|refine yT ?_|refine yF ?_);conv=>whnf))
            refine Does.mono (at_does (hts.e0 (hx.e0 (hx1w5.e0 hx59))) i) ?_
            rintro r10 w10 ⟨hr10, hx10⟩
            refine ⟨by (conv => whnf); exact ⟨⟨_, rfl, (ho9.e0 hx10).cells, rfl, rfl⟩, trivial⟩, ?_⟩
            ((conv=>whnf);repeat((first|refine mvT ?_|refine mvF ?_|refine yT ?_|refine yF ?_);conv=>whnf))
            have hxw10 := (hx.e0 (hx1w5.e0 hx59)).e0 hx10
            refine Does.mono (usual_does d (hfi0.e0 hxw10) hr10 hoki) ?_
            rintro r11 w11 ⟨rfl, hx11⟩
            have hx5b := (hx59.e0 hx10).e0 hx11
            ((conv=>whnf);repeat((first|refine mvT ?_|refine mvF ?_|refine yT ?_|refine yF ?_);conv=>whnf))
            refine cI (by rfl) (fun h4=>?_) (fun h4=>?_)
            · have hus : usualB d (Fd.mk kind fr to nul tag df of sub) (atT t i) = false := by simpa using h4
              have hyes : (if (Fd.mk kind fr to nul tag df of sub).tag = (k : Int) ∧ usualB d (Fd.mk kind fr to nul tag df of sub) (atT t i) = false then [(k, fieldB d v true (Fd.mk kind fr to nul tag df of sub) (atT t i))] else []) = [(k, fieldB d v true (Fd.mk kind fr to nul tag df of sub) (atT t i))] := if_pos ⟨heq, hus⟩
              rw [hyes] at hsum5
              have hfl := congrArg (fun l => (l.flatMap tagB).length) hsum5
              generalize hbb : fieldB d v true (Fd.mk kind fr to nul tag df of sub) (atT t i) = bb at hsum5 hfl
              simp only [List.flatMap_append, List.flatMap_cons, List.flatMap_nil, List.append_nil, List.length_append, tagB] at hfl
              have hx5c := hx5b.e0 (ext_drew _)
              have ho11 := ho8.e0 (((ext_drew _).e0 hx10).e0 (hx11.e0 (ext_drew _)))
              have hob11 := ho.e0 (hx1w5.e0 hx5c)
              ((conv=>whnf);repeat((first|refine mvT ?_|refine mvF ?_|refine yT ?_|refine yF ?_);conv=>whnf))
              refine VD.draw mixed (.q 0 (.q 1 (.q 2 (.q 3 (.q 4 (.eff 5 [0] (.eff 6 [] (.eff 7 [] (.done))))))))) (by kernel_rfl) ?_;((conv=>whnf);repeat((first|refine mvT ?_|refine mvF ?_|refine yT ?_|refine yF ?_);conv=>whnf))
              refine ⟨_, rfl, ho11.cells, ?_⟩
              ((conv=>whnf);repeat((first|refine mvT ?_|refine mvF ?_|refine yT ?_|refine yF ?_);conv=>whnf))
              refine ⟨_, rfl, hob11.cells, ?_⟩
              ((conv=>whnf);repeat((first|refine mvT ?_|refine mvF ?_|refine yT ?_|refine yF ?_);conv=>whnf))
              refine Does.mono (at_does (hts.e0 (hx.e0 (hx1w5.e0 hx5c))) i) ?_
              rintro r12 w12 ⟨hr12, hx12⟩
              refine ⟨by (conv => whnf); exact ⟨⟨_, rfl, (ho11.e0 hx12).cells, rfl, rfl⟩, trivial⟩, ?_⟩
              ((conv=>whnf);repeat((first|refine mvT ?_|refine mvF ?_|refine yT ?_|refine yF ?_);conv=>whnf))
              have hx5d := hx5c.e0 hx12
              refine Does.mono (hfd (v := v) (flex := true) (hfi0.e0 (hx.e0 (hx1w5.e0 hx5d))) hr12 hoki (by rw [hbb]; omega)) ?_
              rintro r13 w13 ⟨hr13, hx13'⟩
              rw [hbb] at hr13
              have hx5e := hx5d.e0 hx13'
              obtain ⟨a13, c13, rfl, hc13, hm13⟩ := hr13.shape
              ((conv=>whnf);repeat((first|refine mvT ?_|refine mvF ?_|refine yT ?_|refine yF ?_);conv=>whnf))
              have hk64 : IntKind.u64.wrap (k : Int) = (k : Int) := u64_of (by omega)
              rw [hk64]
              refine Does.mono (Uvarint_does k (by omega) _) ?_;rintro r14 w14 ⟨hr14, hx14⟩;((conv=>whnf);repeat((first|refine mvT ?_|refine mvF ?_|refine yT ?_|refine yF ?_);conv=>whnf))
              refine app_bytes rfl rfl ((hvt5.e0 hx5e).e0 hx14) hr14.bytesAny.src rfl (by omega) ((hx5.e0 hx5e).e0 hx14).size ?_
              intro r15 w15 hr15 hx15 hb15 _
              have h5lt := hvt5.lt
              have hs512 := hx5d.size
              have hs1213 := hx13'.size
              have hs1314 := hx14.size
              have hr13b := (hr13.e0 hx14).ext hx15 fun k hk hm => by
                have h1 := hr13.blk k hk
                have h2 := h5lt k hm
                omega
              ((conv=>whnf);repeat((first|refine mvT ?_|refine mvF ?_|refine yT ?_|refine yF ?_);conv=>whnf))
              have hb64 : IntKind.u64.wrap (bb.length : Int) = (bb.length : Int) := u64_of (by omega)
              rw [hb64]
              refine Does.mono (Uvarint_does bb.length (by omega) _) ?_;rintro r16 w16 ⟨hr16, hx16⟩;((conv=>whnf);repeat((first|refine mvT ?_|refine mvF ?_|refine yT ?_|refine yF ?_);conv=>whnf))
              refine app_bytes rfl rfl (hr15.e0 hx16) hr16.bytesAny.src rfl (by simp only [List.length_append]; omega) (((hx5.e0 hx5e).e0 hx14).own hx15 hvt5.blk (Nat.le_refl _) |>.e0 hx16).size ?_
              intro r17 w17 hr17 hx17 hb17 _
              have hr13c := (hr13b.e0 hx16).ext hx17 fun k hk hm => by
                have h1 := hr13.blk k hk
                have h3 := hr13.lt k hk
                rcases hb15 with h | ⟨q, hq, hle⟩
                · rw [h] at hm
                  have h2 := h5lt k hm
                  omega
                · rw [hq, Option.some.injEq] at hm
                  omega
              ((conv=>whnf);repeat((first|refine mvT ?_|refine mvF ?_|refine yT ?_|refine yF ?_);conv=>whnf))
              refine app_bytes rfl rfl hr17 hr13c.bytesAny.src rfl (by simp only [List.length_append]; omega) ((((hx5.e0 hx5e).e0 hx14).own hx15 hvt5.blk (Nat.le_refl _) |>.e0 hx16).own hx17 hr15.blk (Nat.le_refl _)).size ?_
              intro r18 w18 hr18 hx18 _ _
              have hx318 : Ext nob w3 w18 := ((((hx5.e0 hx5e).e0 hx14).own hx15 hvt5.blk (Nat.le_refl _) |>.e0 hx16).own hx17 hr15.blk (Nat.le_refl _)).own hx18 hr17.blk (Nat.le_refl _)
              have htl := flatMap_len tl5
              ((conv=>whnf);repeat((first|refine mvT ?_|refine mvF ?_|refine yT ?_|refine yF ?_);conv=>whnf))
              refine ⟨(i + 1, r18, tl5 ++ [(k, bb)]), ⟨rfl, rfl, rfl, rfl, rfl, rfl, ?_, rfl, rfl, rfl, rfl, rfl, inc_eq (by rw [maxLen_eq] at hm; omega), trivial⟩, ⟨hx318, by simp only; omega, ?_, hsum5⟩, by simp only; omega⟩
              · show some (Value.int .i64 (IntKind.i64.wrap ((tl5.length : Int) + 1))) = _
                rw [inc_eq (by omega)]
                simp
              · simp only [List.flatMap_append, List.flatMap_cons, List.flatMap_nil, List.append_nil, tagB]
                rw [← List.append_assoc, ← List.append_assoc]
                exact hr18
            · have hus : usualB d (Fd.mk kind fr to nul tag df of sub) (atT t i) = true := by simpa using h4
              have hno : (if (Fd.mk kind fr to nul tag df of sub).tag = (k : Int) ∧ usualB d (Fd.mk kind fr to nul tag df of sub) (atT t i) = false then [(k, fieldB d v true (Fd.mk kind fr to nul tag df of sub) (atT t i))] else []) = [] := if_neg fun h => by
                rw [h.2] at hus
                exact Bool.noConfusion hus
              rw [hno, List.append_nil] at hsum5
              ((conv=>whnf);repeat((first|refine mvT ?_|refine mvF ?_|refine yT ?_|refine yF ?_);conv=>whnf))
              exact ⟨(i + 1, vt5, tl5), ⟨rfl, rfl, rfl, rfl, rfl, rfl, rfl, rfl, rfl, rfl, rfl, rfl, inc_eq (by rw [maxLen_eq] at hm; omega), trivial⟩, ⟨hx5.e0 hx5b, by simp only; omega, hvt5.e0 hx5b, hsum5⟩, by simp only; omega⟩
        · have hil : i = fs.length := by have := of_decide_eq_false h2; simp only at this; omega
          rw [hil, List.drop_length] at hsum5
          have hsum5 : tl5 ++ tagsW (fieldB d v true) (usualB d) fs t (k + 1) (K - (k + 1)) = tagsW (fieldB d v true) (usualB d) fs t 0 K := by rw [hj']; exact hsum5
          ((conv=>whnf);repeat((first|refine mvT ?_|refine mvF ?_|refine yT ?_|refine yF ?_);conv=>whnf))
          exact ⟨(k + 1, vt5, tl5), ⟨rfl, rfl, rfl, rfl, rfl, rfl, rfl, rfl, inc_eq (by omega), trivial⟩, ⟨hx5, by simp only; omega, hvt5, hsum5⟩, by simp only; omega⟩
      · have hkl : k = K := by have := of_decide_eq_false h1; simp only at this; omega
        rw [hkl, Nat.sub_self] at hsum
        have hsum : tl ++ [] = tagsW (fieldB d v true) (usualB d) fs t 0 K := hsum
        rw [List.append_nil] at hsum
        ((conv=>whnf);repeat((first|refine mvT ?_|refine mvF ?_|refine yT ?_|refine yF ?_);conv=>whnf))
        exact ⟨(vt, tl), ⟨rfl, rfl, rfl, rfl, rfl, rfl, rfl, trivial⟩, hx4, hvt, hsum⟩
    · rintro ⟨vt, tl⟩ w4 ⟨hx4, hvt, htl⟩
      dsimp only at hvt htl
      rw [← htl] at hlenS hall
      have hx14 := hx13.e0 hx4
      have hob := ho.e0 hx14
      ((conv=>whnf);repeat((first|refine mvT ?_|refine mvF ?_|refine yT ?_|refine yF ?_);conv=>whnf))
      refine ldS (hob.cell rfl) ?_;((conv=>whnf);repeat((first|refine mvT ?_|refine mvF ?_|refine yT ?_|refine yF ?_);conv=>whnf))
      refine Does.mono (unknown_does (hf0.e0 (hx.e0 hx14)) hutag (hu.e0 (hx.e0 hx14))) ?_
      rintro r5 w5 ⟨⟨ls5, ho5, hlen5, hr5⟩, hx5⟩
      obtain ⟨a5, c5, rfl, hc5, hm5, hF5, hS5, hC5⟩ := (ho5.sl (F := fun k => w4.heap.size ≤ k) fun _ h => h).view
      have hS := flatMap_len tl
      have hS2 := flatMap_len ((unknownT fs u).map cutT)
      rw [List.length_map] at hS2
      ((conv=>whnf);repeat((first|refine mvT ?_|refine mvF ?_|refine yT ?_|refine yF ?_);conv=>whnf))
      generalize hU : unknownT fs u = U at *
      refine VL.cutB (fun i : Value => [(2, .bool true), (9, vo), (10, i), (11, .int .i64 ((tl ++ U.map cutT).length : Nat))])
        (fun i w' => Ext nob w3 w' ∧ OB w' w3.heap.size i ((tl ++ U.map cutT).flatMap tagB)) ?_ ?_
      · refine VL.loop (fun i : Nat × Value => [(2, .bool true), (9, vo), (10, i.2), (11, .int .i64 (tl.length + i.1 : Nat)), (100, .slice a5 ls5.length c5), (101, .int .i64 ls5.length), (102, .int .i64 i.1)])
          (fun i w' => (Ext nob w3 w' ∧ Ext (fun k => vt.ownBlock = some k) w5 w') ∧ i.1 ≤ ls5.length ∧ OB w' w3.heap.size i.2 ((tl ++ (U.take i.1).map cutT).flatMap tagB) ∧ (i.2.ownBlock = vt.ownBlock ∨ ∃ k, i.2.ownBlock = some k ∧ w5.heap.size ≤ k)) (fun i => ls5.length - i.1) (0, vt)
          ⟨rfl, rfl, rfl, by rfl, rfl, rfl, rfl, trivial⟩ ⟨⟨hx4.e0 hx5, Ext.refl _ _⟩, Nat.zero_le _, by simpa using hvt.e0 hx5, .inl rfl⟩ ?_
        rintro ⟨j, vu⟩ w6 ⟨⟨hx6, hx56⟩, hj, hvu, hblk⟩
        dsimp only at hj hvu hblk
        ((conv=>whnf);repeat((first|refine mvT ?_|refine mvF ?_|refine yT ?_|refine yF ?_);conv=>whnf))
        refine cI (by rfl) (fun h1=>?_) (fun h1=>?_)
        · have hjl : j < ls5.length := by have := of_decide_eq_true h1; simp only at this; omega
          have hjU : j < U.length := by omega
          have htg := hr5 j ls5[j] U[j] (by simp [hjl]) (by simp [hjU])
          obtain ⟨b7, o7, rfl, hc7⟩ := hC5 j ls5[j] (by simp [hjl])
          have hvlt := hvt.lt
          have hb7 := (hF5 b7 o7 rfl (by omega)).1
          have hc7 := hc7.ext hx56 (fun h => by have := hvlt b7 h; omega)
          have htg := htg.ext hx56 (fun k _ h1 h2 => by have := hvt.blk k h2; have := hx.size; have := hx13.size; omega)
          obtain ⟨hkey, tv, hcell, htb⟩ := htg
          rw [hcell] at hc7
          ((conv=>whnf);repeat((first|refine mvT ?_|refine mvF ?_|refine yT ?_|refine yF ?_);conv=>whnf))
          refine ⟨b7, o7, rfl, ⟨by omega, by omega⟩, ?_⟩
          ((conv=>whnf);repeat((first|refine mvT ?_|refine mvF ?_|refine yT ?_|refine yF ?_);conv=>whnf))
          refine ⟨_, rfl, by rw [Int.toNat_natCast]; exact hc7, ?_⟩
          ((conv=>whnf);repeat((first|refine mvT ?_|refine mvF ?_|refine yT ?_|refine yF ?_);conv=>whnf))
          intro b8 w8 hb8 ho8 hx8
          ((conv=>whnf);repeat((first|refine mvT ?_|refine mvF ?_|refine yT ?_|refine yF ?_);conv=>whnf))
          refine st_all [Value.int .u32 (U[j].1 : Int), tv] ho8 rfl rfl ?_ ?_
          · have h1 := Sl.one htb
            simp only [okCells, List.all_cons, List.all_nil, h1]
            rfl
          intro w9 ho9 hx9
          have hx69 : Ext nob w6 w9 := hx8.st hx9 hb8
          ((conv=>whnf);repeat((first|refine mvT ?_|refine mvF ?_|refine yT ?_|refine yF ?_);conv=>whnf))
          refine ldS (ho9.cell rfl) ?_;((conv=>whnf);repeat((first|refine mvT ?_|refine mvF ?_|refine yT ?_|refine yF ?_);conv=>whnf))
          refine Does.mono (whole_does (htb.e0 hx69)) ?_
          rintro r10 w10 ⟨hr10, rfl⟩
          obtain ⟨a10, c10, rfl, hc10, hm10, _⟩ := hr10.view
          have hmost := take_most_length U[j].2
          ((conv=>whnf);repeat((first|refine mvT ?_|refine mvF ?_|refine yT ?_|refine yF ?_);conv=>whnf))
          have hsplit : U.map cutT = (U.take j).map cutT ++ cutT U[j] :: (U.drop (j + 1)).map cutT := by
            rw [← List.map_cons, ← List.map_append, ← List.drop_eq_getElem_cons hjU, List.take_append_drop]
          have htk : (U.take (j + 1)).map cutT = (U.take j).map cutT ++ [cutT U[j]] := by
            rw [List.take_succ_eq_append_getElem hjU, List.map_append]
            rfl
          have hUl : U.length + tl.length ≤ 105000000000000 := by omega
          rw [hsplit] at hlenS
          simp only [List.flatMap_append, List.flatMap_cons, List.length_append, tagB, cutT] at hlenS
          generalize hbb : U[j].2.take most = bb at *
          have hsz6 := hx6.size
          have hacc : ((tl ++ (U.take j).map cutT).flatMap tagB).length = (tl.flatMap tagB).length + (((U.take j).map cutT).flatMap tagB).length := by rw [List.flatMap_append, List.length_append]
          have hF : ∀ q : Value, (∀ k, q.ownBlock = some k → w3.heap.size ≤ k) → ∀ k, k < w.heap.size → ¬ q.ownBlock = some k := by
            intro q hq k hk h
            have := hq k h
            have := hx.size
            have := hx13.size
            omega
          have hk64 : IntKind.u64.wrap (U[j].1 : Int) = (U[j].1 : Int) := u64_of (by omega)
          have hb64 : IntKind.u64.wrap (bb.length : Int) = (bb.length : Int) := u64_of (by omega)
          refine ldS (ho9.cell rfl) ?_;((conv=>whnf);repeat((first|refine mvT ?_|refine mvF ?_|refine yT ?_|refine yF ?_);conv=>whnf))
          rw [hk64]
          refine Does.mono (Uvarint_does U[j].1 (by omega) _) ?_;rintro r14 w14 ⟨hr14, hx14'⟩;((conv=>whnf);repeat((first|refine mvT ?_|refine mvF ?_|refine yT ?_|refine yF ?_);conv=>whnf))
          have hx614 : Ext nob w6 w14 := hx69.e0 hx14'
          refine app_bytes rfl rfl (hvu.e0 hx614) hr14.bytesAny.src rfl (by omega) (hx6.e0 hx614).size ?_
          intro r15 w15 hr15 hx15 hb15 _
          have hd15 := (hr10.e0 hx14').ext hx15 fun k _ hk => hF _ hvu.blk k hk
          ((conv=>whnf);repeat((first|refine mvT ?_|refine mvF ?_|refine yT ?_|refine yF ?_);conv=>whnf))
          rw [hb64]
          refine Does.mono (Uvarint_does bb.length (by omega) _) ?_;rintro r16 w16 ⟨hr16, hx16⟩;((conv=>whnf);repeat((first|refine mvT ?_|refine mvF ?_|refine yT ?_|refine yF ?_);conv=>whnf))
          have hx316 : Ext nob w3 w16 := ((hx6.e0 hx614).own hx15 hvu.blk (Nat.le_refl _)).e0 hx16
          refine app_bytes rfl rfl (hr15.e0 hx16) hr16.bytesAny.src rfl (by simp only [List.length_append]; omega) hx316.size ?_
          intro r17 w17 hr17 hx17 hb17 _
          have hd17 := (hd15.e0 hx16).ext hx17 fun k _ hk => hF _ hr15.blk k hk
          have hx317 : Ext nob w3 w17 := hx316.own hx17 hr15.blk (Nat.le_refl _)
          ((conv=>whnf);repeat((first|refine mvT ?_|refine mvF ?_|refine yT ?_|refine yF ?_);conv=>whnf))
          refine app_bytes rfl rfl hr17 hd17.src rfl (by simp only [List.length_append]; omega) hx317.size ?_
          intro r18 w18 hr18 hx18 hb18 _
          have hs56 := hx56.size
          have hs614 := hx614.size
          have hs1516 : w14.heap.size ≤ w16.heap.size := Nat.le_trans hx15.size hx16.size
          have hs1617 := hx17.size
          have hb15' : r15.ownBlock = vt.ownBlock ∨ ∃ k, r15.ownBlock = some k ∧ w5.heap.size ≤ k := by
            rcases hb15 with h | ⟨q, hq, hle⟩
            · rw [h]; exact hblk
            · exact .inr ⟨q, hq, by omega⟩
          have hb17' : r17.ownBlock = vt.ownBlock ∨ ∃ k, r17.ownBlock = some k ∧ w5.heap.size ≤ k := by
            rcases hb17 with h | ⟨q, hq, hle⟩
            · rw [h]; exact hb15'
            · exact .inr ⟨q, hq, by omega⟩
          have hb18' : r18.ownBlock = vt.ownBlock ∨ ∃ k, r18.ownBlock = some k ∧ w5.heap.size ≤ k := by
            rcases hb18 with h | ⟨q, hq, hle⟩
            · rw [h]; exact hb17'
            · exact .inr ⟨q, hq, by omega⟩
          have hold : ∀ q : Value, (q.ownBlock = vt.ownBlock ∨ ∃ k, q.ownBlock = some k ∧ w5.heap.size ≤ k) → ∀ k, k < w5.heap.size → q.ownBlock = some k → vt.ownBlock = some k := by
            rintro q (h | ⟨k', h, hle⟩) k hk hq
            · rw [← h]; exact hq
            · rw [h, Option.some.injEq] at hq
              omega
          have hx518 : Ext (fun k => vt.ownBlock = some k) w5 w18 := ((((hx56.tr0 hx614).trans hx15 (hold _ hblk)).tr0 hx16).trans hx17 (hold _ hb15')).trans hx18 (hold _ hb17')
          ((conv=>whnf);repeat((first|refine mvT ?_|refine mvF ?_|refine yT ?_|refine yF ?_);conv=>whnf))
          refine ⟨(j + 1, r18), ⟨rfl, rfl, rfl, ?_, rfl, rfl, inc_eq (by omega), trivial⟩, ⟨⟨hx317.own hx18 hr17.blk (Nat.le_refl _), hx518⟩, by simp only; omega, ?_, hb18'⟩, by simp only; omega⟩
          · show some (Value.int .i64 (IntKind.i64.wrap (((tl.length + j : Nat) : Int) + 1))) = _
            rw [inc_eq (by omega)]
            rfl
          · simp only
            rw [htk, ← List.append_assoc, List.flatMap_append]
            have e : [cutT U[j]].flatMap tagB = uvar U[j].1 ++ uvar bb.length ++ bb := by
              simp only [List.flatMap_cons, List.flatMap_nil, List.append_nil, tagB, cutT, hbb]
            rw [e, ← List.append_assoc, ← List.append_assoc]
            exact hr18
        · have hjl : j = ls5.length := by have := of_decide_eq_false h1; simp only at this; omega
          rw [hjl, hlen5, List.take_length] at hvu
          ((conv=>whnf);repeat((first|refine mvT ?_|refine mvF ?_|refine yT ?_|refine yF ?_);conv=>whnf))
          refine ⟨vu, ⟨rfl, rfl, rfl, ?_, trivial⟩, hx6, hvu⟩
          show some (Value.int .i64 ((tl.length + j : Nat) : Int)) = _
          rw [List.length_append, List.length_map, hjl, hlen5]
      · rintro vu w6 ⟨hx6, hvu⟩
        rw [hall] at hlen
        simp only [List.length_append] at hlen
        have hTl : (tl ++ U.map cutT).length < 2 ^ 64 := by rw [List.length_append, List.length_map]; omega
        have hm64 : IntKind.u64.wrap ((tl ++ U.map cutT).length : Int) = ((tl ++ U.map cutT).length : Int) := u64_of hTl
        ((conv=>whnf);repeat((first|refine mvT ?_|refine mvF ?_|refine yT ?_|refine yF ?_);conv=>whnf))
        rw [hm64]
        refine Does.mono (Uvarint_does _ hTl _) ?_;rintro r14 w14 ⟨hr14, hx14'⟩;((conv=>whnf);repeat((first|refine mvT ?_|refine mvF ?_|refine yT ?_|refine yF ?_);conv=>whnf))
        have hx314 := hx6.e0 hx14'
        have hvlt := hvo.lt
        refine app_bytes rfl rfl (hvo.e0 hx314) hr14.bytesAny.src rfl (by simp only [List.length_append] at hlen ⊢; omega) (hx13.e0 hx314).size ?_
        intro r15 w15 hr15 hx15 hb15 _
        have hvu15 := (hvu.e0 hx14').ext hx15 fun k hk hm => by
          have h1 := hvu.blk k hk
          have h2 := hvlt k hm
          omega
        have hx115 := (hx13.e0 hx314).own hx15 hvo.blk (Nat.le_refl _)
        ((conv=>whnf);repeat((first|refine mvT ?_|refine mvF ?_|refine yT ?_|refine yF ?_);conv=>whnf))
        refine app_bytes rfl rfl hr15 hvu15.bytesAny.src rfl (by simp only [List.length_append] at hlen ⊢; omega) hx115.size ?_
        intro r16 w16 hr16 hx16 _ _
        ((conv=>whnf);repeat((first|refine mvT ?_|refine mvF ?_|refine yT ?_|refine yF ?_);conv=>whnf))
        refine ⟨?_, hx.e0 (hx115.own hx16 hr15.blk (Nat.le_refl _))⟩
        show OB _ _ r16 (plainW (fieldB d v true) v t 0 fs ++ (uvar (allTags (fieldB d v true) (usualB d) fs t).length ++ (allTags (fieldB d v true) (usualB d) fs t).flatMap tagB))
        rw [hall, ← List.append_assoc]
        exact hr16.mono hx.size
theorem fields_do : ∀ d, FieldC d
  | 0 => fun _ _ h => by simp [okF] at h
  | d + 1 => field_does (part_does (fields_do d))
end Go.Proofs.YtepamajphjgigaaGreatDoor.K
