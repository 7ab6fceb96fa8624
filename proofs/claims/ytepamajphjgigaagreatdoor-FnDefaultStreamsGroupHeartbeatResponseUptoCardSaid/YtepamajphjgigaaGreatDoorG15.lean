
/- What fits of a field that is no list. What fits of a list. What fits of a part. Trees are small; trees are handed to the program. Trees are handed on. Messages written; sizes; versions; what a number's field says. -/
import Derived.Test.YtepamajphjgigaaGreatDoorG9
/-! What fits of a field that is no list. -/
set_option linter.unusedVariables false
set_option linter.unusedSimpArgs false
namespace Go.Proofs.YtepamajphjgigaaGreatDoor.K
open Go
set_option maxHeartbeats 800000

/-- Where what is made of data in G lies: in G, or in new blocks. -/
abbrev plus (G : Nat → Prop) (w : World) : Nat → Prop := fun k => G k ∨ w.heap.size ≤ k
end Go.Proofs.YtepamajphjgigaaGreatDoor.K
/-! What fits of a list. -/
set_option linter.unusedVariables false
set_option linter.unusedSimpArgs false
namespace Go.Proofs.YtepamajphjgigaaGreatDoor.K
open Go
set_option maxHeartbeats 800000

abbrev TreeT : TypeId := 26
/-- Trees in cells. -/
structure Els (w : World) (F : Nat → Prop) (cs : List (List Value)) (ts : List T) : Prop where
  len : cs.length = ts.length
  at' : ∀ (i : Nat) (c : List Value) (t : T), cs[i]? = some c → ts[i]? = some t → TrC w F c t
theorem Els.nil (w : World) (F : Nat → Prop) : Els w F [] [] := ⟨rfl, by simp⟩
theorem Els.ext {M F : Nat → Prop} {w w' : World} {cs : List (List Value)} {ts : List T} (h : Els w F cs ts) (x : Ext M w w') (hF : ∀ k, k < w.heap.size → F k → ¬ M k) : Els w' F cs ts := ⟨h.len, fun i c t h1 h2 => (h.at' i c t h1 h2).ext x hF⟩
theorem Els.e0 {F : Nat → Prop} {w w' : World} {cs : List (List Value)} {ts : List T} (h : Els w F cs ts) (x : Ext nob w w') : Els w' F cs ts := h.ext x fun _ _ _ f => f
theorem Els.mono {F F' : Nat → Prop} {w : World} {cs : List (List Value)} {ts : List T} (h : Els w F cs ts) (hF : ∀ k, k < w.heap.size → F k → F' k) : Els w F' cs ts := ⟨h.len, fun i c t h1 h2 => (h.at' i c t h1 h2).mono hF⟩
theorem Els.snoc {F : Nat → Prop} {w : World} {cs : List (List Value)} {ts : List T} {c : List Value} {t : T} (h : Els w F cs ts) (hc : TrC w F c t) : Els w F (cs ++ [c]) (ts ++ [t]) := by
  refine ⟨by simp [h.len], fun i c' t' h1 h2 => ?_⟩
  rcases Nat.lt_or_ge i cs.length with hi | hi
  · rw [List.getElem?_append_left hi] at h1
    rw [List.getElem?_append_left (by rw [← h.len]; exact hi)] at h2
    exact h.at' i c' t' h1 h2
  · rw [List.getElem?_append_right hi] at h1
    rw [List.getElem?_append_right (by rw [← h.len]; exact hi), ← h.len] at h2
    obtain ⟨j, hj⟩ : ∃ j, i - cs.length = j := ⟨_, rfl⟩
    rw [hj] at h1 h2
    cases j with
    | zero =>
      simp only [List.getElem?_cons_zero, Option.some.injEq] at h1 h2
      rw [← h1, ← h2]
      exact hc
    | succ j => simp at h1
theorem OSl.one {w : World} {B : Nat} {e : TypeId} {sz : Nat} {v : Value} {ls : List (List Value)} (h : OSl w B e sz v ls) : v.oneCell' = true := (h.sl (F := anyB) fun _ _ => trivial).1.one
theorem OSl.shape {w : World} {B : Nat} {e : TypeId} {sz : Nat} {v : Value} {ls : List (List Value)} (h : OSl w B e sz v ls) : ∃ a c, v = .slice a ls.length c ∧ ls.length ≤ c ∧ c ≤ maxLen := by
  obtain ⟨a, c, h1, h2, h3, _⟩ := (h.sl (F := anyB) fun _ _ => trivial).view
  exact ⟨a, c, h1, h2, h3⟩
theorem src_tree {w : World} {b : Nat} {Ty : TypeId} {m : List Value} {n c : Nat} (h : Own w b Ty m) (hm : m.length = 5) (hn : n = 1) : Src w 5 (.slice (some ⟨b, 0, none⟩) n c) [m].length [m].flatten := src_one h hm hn
end Go.Proofs.YtepamajphjgigaaGreatDoor.K
/-! What fits of a part. -/
set_option linter.unusedVariables false
set_option linter.unusedSimpArgs false
namespace Go.Proofs.YtepamajphjgigaaGreatDoor.K
open Go
set_option maxHeartbeats 1600000

end Go.Proofs.YtepamajphjgigaaGreatDoor.K
/-! Trees are small; trees are handed to the program. -/
set_option linter.unusedVariables false
set_option linter.unusedSimpArgs false
namespace Go.Proofs.YtepamajphjgigaaGreatDoor.K
open Go
set_option maxHeartbeats 1600000

/-- Lists and tags of a tree are short. -/
inductive Small : T → Prop
  | mk (n : Int) (s : List UInt8) (nl : Bool) (l : List T) (u : List Tg) (hl : l.length ≤ 1000000) (hu : u.length ≤ 1000000) (h : ∀ x, x ∈ l → Small x) : Small (.mk n s nl l u)
theorem Small.zero : Small T.zero := .mk 0 [] false [] [] (by simp) (by simp) (by simp)
end Go.Proofs.YtepamajphjgigaaGreatDoor.K
/-! Trees are handed on. -/
set_option linter.unusedVariables false
set_option linter.unusedSimpArgs false
namespace Go.Proofs.YtepamajphjgigaaGreatDoor.K
open Go
set_option maxHeartbeats 1600000

abbrev ImplTreeT : TypeId := 37
end Go.Proofs.YtepamajphjgigaaGreatDoor.K
/-! Messages written; sizes; versions; what a number's field says. -/
set_option linter.unusedVariables false
set_option linter.unusedSimpArgs false
namespace Go.Proofs.YtepamajphjgigaaGreatDoor.K
open Go
set_option maxHeartbeats 1600000

def flexB (fl v : Int) : Bool := decide (0 ≤ fl) && decide (fl ≤ v)
/-- A message's two cells. -/
def Msg (w : World) (F : Nat → Prop) (x : Value) (fs : List Fd) (fl : Int) : Prop := ∃ fv, x = .agg #[fv, .int .i64 fl] ∧ FdsR w F fv fs
theorem Msg.e0 {F : Nat → Prop} {w w' : World} {x : Value} {fs : List Fd} {fl : Int} (h : Msg w F x fs fl) (hx : Ext nob w w') : Msg w' F x fs fl := by
  obtain ⟨fv, h1, h2⟩ := h
  exact ⟨fv, h1, h2.e0 hx⟩
theorem write_does (d : Nat) {F G : Nat → Prop} {w : World} {m x : Value} {fs : List Fd} {fl v : Int} {t : T} (hm : Msg w F m fs fl) (ht : Tr w G x t) (hok : ∀ f, f ∈ fs → okF d f = true) (hfl : fs.length ≤ 1000) (hlen : (partB d v (flexB fl v) fs t).length ≤ 105000000000000) :
    Does X.P 9 #[m, .int .i64 v, x] w fun r w' => OB w' w.heap.size r (partB d v (flexB fl v) fs t) ∧ Ext nob w w' := by
  obtain ⟨fv, rfl, hfv⟩ := hm
  obtain ⟨ct, rfl, htc⟩ := ht
  have hpart := @part_does d (fields_do d)
  refine Does.go (X := X) (l := [_, _, _]) Tryz.func9 rfl (by kernel_rfl) (by kernel_rfl) _ rfl ?_
  ((conv=>whnf);repeat((first|refine mvT ?_|refine mvF ?_|refine yT ?_|refine yF ?_);conv=>whnf))
  intro b w1 hb ho hx
  ((conv=>whnf);repeat((first|refine mvT ?_|refine mvF ?_|refine yT ?_|refine yF ?_);conv=>whnf))
  intro b2 w2 hb2 ho2 hx2
  ((conv=>whnf);repeat((first|refine mvT ?_|refine mvF ?_|refine yT ?_|refine yF ?_);conv=>whnf))
  have ho := ho.e0 hx2
  have hx := hx.e0 hx2
  have hone := hfv
  obtain ⟨ls, hsl, _⟩ := hone
  obtain ⟨a, c, rfl, _⟩ := hsl.view
  refine ldS (ho.cell rfl) ?_;((conv=>whnf);repeat((first|refine mvT ?_|refine mvF ?_|refine yT ?_|refine yF ?_);conv=>whnf))
  refine ldS (ho.cell rfl) ?_;((conv=>whnf);repeat((first|refine mvT ?_|refine mvF ?_|refine yT ?_|refine yF ?_);conv=>whnf))
  intro c3 h3
  cases c3
  · have hfx : flexB fl v = false := by
      have := of_decide_eq_false h3
      simp [flexB]
      omega
    rw [hfx] at hlen ⊢
    ((conv=>whnf);repeat((first|refine mvT ?_|refine mvF ?_|refine yT ?_|refine yF ?_);conv=>whnf))
    refine ⟨ct, htc.len, ho2.cells, ?_⟩
    ((conv=>whnf);repeat((first|refine mvT ?_|refine mvF ?_|refine yT ?_|refine yF ?_);conv=>whnf))
    refine Does.mono (hpart (hfv.e0 hx) ⟨ct, rfl, htc.e0 hx⟩ hok hfl hlen) ?_;rintro r w3 ⟨h1, h2⟩;((conv=>whnf);repeat((first|refine mvT ?_|refine mvF ?_|refine yT ?_|refine yF ?_);conv=>whnf))
    exact ⟨h1.mono hx.size, hx.e0 h2⟩
  · have hfl0 := of_decide_eq_true h3
    ((conv=>whnf);repeat((first|refine mvT ?_|refine mvF ?_|refine yT ?_|refine yF ?_);conv=>whnf))
    refine ldS (ho.cell rfl) ?_;((conv=>whnf);repeat((first|refine mvT ?_|refine mvF ?_|refine yT ?_|refine yF ?_);conv=>whnf))
    have hfx : flexB fl v = decide (v ≥ fl) := by
      simp only [flexB, decide_eq_true (show 0 ≤ fl by omega), Bool.true_and]
    rw [hfx] at hlen ⊢
    refine ⟨ct, htc.len, ho2.cells, ?_⟩
    ((conv=>whnf);repeat((first|refine mvT ?_|refine mvF ?_|refine yT ?_|refine yF ?_);conv=>whnf))
    refine Does.mono (hpart (hfv.e0 hx) ⟨ct, rfl, htc.e0 hx⟩ hok hfl hlen) ?_;rintro r w3 ⟨h1, h2⟩;((conv=>whnf);repeat((first|refine mvT ?_|refine mvF ?_|refine yT ?_|refine yF ?_);conv=>whnf))
    exact ⟨h1.mono hx.size, hx.e0 h2⟩
theorem zzFits3_does {F : Nat → Prop} {w : World} {c : List Value} {x : Tg} (h : TgC w F c x) : Does X.P 25 #[.agg c.toArray] w fun r w' => (∃ b, r = .bool b) ∧ Ext nob w w' := by
  obtain ⟨hk, bv, rfl, hb⟩ := h
  obtain ⟨a, c, rfl, _⟩ := hb.view
  refine Does.go (X := X) (l := [_]) Tryz.func25 rfl (by kernel_rfl) (by kernel_rfl) _ rfl ?_
  ((conv=>whnf);repeat((first|refine mvT ?_|refine mvF ?_|refine yT ?_|refine yF ?_);conv=>whnf))
  intro b w1 hb ho hx
  ((conv=>whnf);repeat((first|refine mvT ?_|refine mvF ?_|refine yT ?_|refine yF ?_);conv=>whnf))
  refine ldS (ho.cell rfl) ?_;((conv=>whnf);repeat((first|refine mvT ?_|refine mvF ?_|refine yT ?_|refine yF ?_);conv=>whnf))
  refine cI (by rfl) (fun h1=>?_) (fun h1=>?_)
  · ((conv=>whnf);repeat((first|refine mvT ?_|refine mvF ?_|refine yT ?_|refine yF ?_);conv=>whnf))
    exact ⟨⟨_, rfl⟩, hx⟩
  · ((conv=>whnf);repeat((first|refine mvT ?_|refine mvF ?_|refine yT ?_|refine yF ?_);conv=>whnf))
    exact ⟨⟨_, rfl⟩, hx⟩
theorem zzFits2_does {F : Nat → Prop} {w : World} {x : Value} {u : List Tg} (h : TgsR w F x u) : Does X.P 12 #[x] w fun r w' => (∃ b, r = .bool b) ∧ Ext nob w w' := by
  obtain ⟨ls, hsl, hlen, hr⟩ := h
  obtain ⟨a, c, rfl, hc, hm, hF, hS, hC⟩ := hsl.view
  refine Does.go (X := X) (l := [_]) Tryz.func12 rfl (by kernel_rfl) (by kernel_rfl) _ rfl ?_
  ((conv=>whnf);repeat((first|refine mvT ?_|refine mvF ?_|refine yT ?_|refine yF ?_);conv=>whnf))
  refine cI (by rfl) (fun h0=>?_) (fun h0=>?_)
  · ((conv=>whnf);repeat((first|refine mvT ?_|refine mvF ?_|refine yT ?_|refine yF ?_);conv=>whnf))
    exact ⟨⟨_, rfl⟩, Ext.refl _ _⟩
  · ((conv=>whnf);repeat((first|refine mvT ?_|refine mvF ?_|refine yT ?_|refine yF ?_);conv=>whnf))
    refine VL.loop (fun i : Nat => [(8, .slice a ls.length c), (9, .int .i64 ls.length), (10, .int .i64 i)]) (fun i w' => Ext nob w w' ∧ i ≤ ls.length) (fun i => ls.length - i) 0 ⟨rfl, rfl, rfl, trivial⟩ ⟨Ext.refl _ _, Nat.zero_le _⟩ ?_
    rintro i w1 ⟨hx, hi⟩
    ((conv=>whnf);repeat((first|refine mvT ?_|refine mvF ?_|refine yT ?_|refine yF ?_);conv=>whnf))
    refine cI (by rfl) (fun h1=>?_) (fun h1=>?_)
    · have hil : i < ls.length := by have := of_decide_eq_true h1; omega
      have hiu : i < u.length := by omega
      have htg : TgC w F ls[i] u[i] := hr i ls[i] u[i] (by simp [hil]) (by simp [hiu])
      obtain ⟨b4, o4, rfl, hc4⟩ := hC i ls[i] (by simp [hil])
      ((conv=>whnf);repeat((first|refine mvT ?_|refine mvF ?_|refine yT ?_|refine yF ?_);conv=>whnf))
      refine ⟨b4, o4, rfl, ⟨by omega, by omega⟩, ?_⟩
      ((conv=>whnf);repeat((first|refine mvT ?_|refine mvF ?_|refine yT ?_|refine yF ?_);conv=>whnf))
      refine ⟨ls[i], htg.len, by rw [Int.toNat_natCast]; exact hc4.e0 hx, ?_⟩
      ((conv=>whnf);repeat((first|refine mvT ?_|refine mvF ?_|refine yT ?_|refine yF ?_);conv=>whnf))
      intro b5 w5 hb5 ho5 hx5
      ((conv=>whnf);repeat((first|refine mvT ?_|refine mvF ?_|refine yT ?_|refine yF ?_);conv=>whnf))
      refine st_all ls[i] ho5 htg.len rfl htg.ok ?_
      intro w6 ho6 hx6
      have hx16 : Ext nob w1 w6 := hx5.st hx6 hb5
      ((conv=>whnf);repeat((first|refine mvT ?_|refine mvF ?_|refine yT ?_|refine yF ?_);conv=>whnf))
      refine ⟨ls[i], htg.len, ho6.cells, ?_⟩
      ((conv=>whnf);repeat((first|refine mvT ?_|refine mvF ?_|refine yT ?_|refine yF ?_);conv=>whnf))
      refine Does.mono (zzFits3_does (htg.ext (hx.e0 hx16) fun _ _ _ f => f)) ?_
      rintro r7 w7 ⟨⟨b7, rfl⟩, hx7⟩
      ((conv=>whnf);repeat((first|refine mvT ?_|refine mvF ?_|refine yT ?_|refine yF ?_);conv=>whnf))
      refine cI (by rfl) (fun h8=>?_) (fun h8=>?_)
      · ((conv=>whnf);repeat((first|refine mvT ?_|refine mvF ?_|refine yT ?_|refine yF ?_);conv=>whnf))
        exact ⟨⟨_, rfl⟩, (hx.e0 hx16).e0 hx7⟩
      · ((conv=>whnf);repeat((first|refine mvT ?_|refine mvF ?_|refine yT ?_|refine yF ?_);conv=>whnf))
        exact ⟨i + 1, ⟨rfl, rfl, inc_eq (by rw [maxLen_eq] at hm; omega), trivial⟩, ⟨(hx.e0 hx16).e0 hx7, by omega⟩, by omega⟩
    · ((conv=>whnf);repeat((first|refine mvT ?_|refine mvF ?_|refine yT ?_|refine yF ?_);conv=>whnf))
      exact ⟨⟨_, rfl⟩, hx⟩
theorem zzFits1_does {F : Nat → Prop} {w : World} {x : Value} {t : T} (h : Tr w F x t) : Does X.P 4 #[x] w fun r w' => (∃ b, r = .bool b) ∧ Ext nob w w' := by
  obtain ⟨ct, rfl, ht⟩ := h
  cases ht
  rename_i n s nl l u sv lv uv ls hn hs hl hlen hr hu
  obtain ⟨a, c, rfl, _⟩ := hs.view
  obtain ⟨a2, c2, rfl, _⟩ := hl.view
  refine Does.go (X := X) (l := [_]) Tryz.func4 rfl (by kernel_rfl) (by kernel_rfl) _ rfl ?_
  ((conv=>whnf);repeat((first|refine mvT ?_|refine mvF ?_|refine yT ?_|refine yF ?_);conv=>whnf))
  intro b w1 hb ho hx
  ((conv=>whnf);repeat((first|refine mvT ?_|refine mvF ?_|refine yT ?_|refine yF ?_);conv=>whnf))
  refine ldS (ho.cell rfl) ?_;((conv=>whnf);repeat((first|refine mvT ?_|refine mvF ?_|refine yT ?_|refine yF ?_);conv=>whnf))
  refine cI (by rfl) (fun h1=>?_) (fun h1=>?_)
  · ((conv=>whnf);repeat((first|refine mvT ?_|refine mvF ?_|refine yT ?_|refine yF ?_);conv=>whnf))
    exact ⟨⟨_, rfl⟩, hx⟩
  · ((conv=>whnf);repeat((first|refine mvT ?_|refine mvF ?_|refine yT ?_|refine yF ?_);conv=>whnf))
    refine ldS (ho.cell rfl) ?_;((conv=>whnf);repeat((first|refine mvT ?_|refine mvF ?_|refine yT ?_|refine yF ?_);conv=>whnf))
    refine cI (by rfl) (fun h2=>?_) (fun h2=>?_)
    · ((conv=>whnf);repeat((first|refine mvT ?_|refine mvF ?_|refine yT ?_|refine yF ?_);conv=>whnf))
      exact ⟨⟨_, rfl⟩, hx⟩
    · ((conv=>whnf);repeat((first|refine mvT ?_|refine mvF ?_|refine yT ?_|refine yF ?_);conv=>whnf))
      refine ldS (ho.cell rfl) ?_;((conv=>whnf);repeat((first|refine mvT ?_|refine mvF ?_|refine yT ?_|refine yF ?_);conv=>whnf))
      refine Does.mono (zzFits2_does (hu.e0 hx)) ?_
      rintro r3 w3 ⟨⟨b3, rfl⟩, hx3⟩
      ((conv=>whnf);repeat((first|refine mvT ?_|refine mvF ?_|refine yT ?_|refine yF ?_);conv=>whnf))
      refine cI (by rfl) (fun h4=>?_) (fun h4=>?_)
      · ((conv=>whnf);repeat((first|refine mvT ?_|refine mvF ?_|refine yT ?_|refine yF ?_);conv=>whnf))
        exact ⟨⟨_, rfl⟩, hx.e0 hx3⟩
      · ((conv=>whnf);repeat((first|refine mvT ?_|refine mvF ?_|refine yT ?_|refine yF ?_);conv=>whnf))
        exact ⟨⟨_, rfl⟩, hx.e0 hx3⟩
end Go.Proofs.YtepamajphjgigaaGreatDoor.K
