/- Messages written; sizes; versions; what a number's field says. -/
import Derived.Test.YtlnhbbpmlfaakaaGreatDoorRG14
set_option linter.unusedVariables false
set_option linter.unusedSimpArgs false
namespace Go.Proofs.YtlnhbbpmlfaakaaGreatDoorR.K
open Go
set_option maxHeartbeats 1600000

def flexB (fl v : Int) : Bool := decide (0 ≤ fl) && decide (fl ≤ v)
/-- A message's two cells. -/
def Msg (w : World) (F : Nat → Prop) (x : Value) (fs : List Fd) (fl : Int) : Prop := ∃ fv, x = .agg #[fv, .int .i64 fl] ∧ FdsR w F fv fs
theorem Msg.e0 {F : Nat → Prop} {w w' : World} {x : Value} {fs : List Fd} {fl : Int} (h : Msg w F x fs fl) (hx : Ext nob w w') : Msg w' F x fs fl := by
  obtain ⟨fv, h1, h2⟩ := h
  exact ⟨fv, h1, h2.e0 hx⟩
theorem write_does (d : Nat) {F G : Nat → Prop} {w : World} {m x : Value} {fs : List Fd} {fl v : Int} {t : T} (hm : Msg w F m fs fl) (ht : Tr w G x t) (hok : ∀ f, f ∈ fs → okF d f = true) (hfl : fs.length ≤ 1000) (hlen : (partB d v (flexB fl v) fs t).length ≤ 105000000000000) :
    Does X.P 9 #[m, .int .i64 v, x] w fun r w' => OB w' w.heap.size r (partB d v (flexB fl v) fs t) ∧ Ext nob w w' := by
  obtain ⟨fv, rfl, hfv⟩ := hm
  obtain ⟨ct, rfl, htc⟩ := ht
  have hpart := @part_does d (fields_do d)
  refine Does.go (X := X) (l := [_, _, _]) Tryz.func9 rfl (by kernel_rfl) (by kernel_rfl) _ rfl ?_
  ((conv=>whnf);repeat(first|(refine mvT ?_;conv=>whnf)|(refine mvF ?_;conv=>whnf)|(refine cT (by rfl) ?_;conv=>whnf)|(refine cF (by rfl) ?_;conv=>whnf)))
  intro b w1 hb ho hx
  ((conv=>whnf);repeat(first|(refine mvT ?_;conv=>whnf)|(refine mvF ?_;conv=>whnf)|(refine cT (by rfl) ?_;conv=>whnf)|(refine cF (by rfl) ?_;conv=>whnf)))
  intro b2 w2 hb2 ho2 hx2
  ((conv=>whnf);repeat(first|(refine mvT ?_;conv=>whnf)|(refine mvF ?_;conv=>whnf)|(refine cT (by rfl) ?_;conv=>whnf)|(refine cF (by rfl) ?_;conv=>whnf)))
  have ho := ho.e0 hx2
  have hx := hx.e0 hx2
  have hone := hfv
  obtain ⟨ls, hsl, _⟩ := hone
  obtain ⟨a, c, rfl, _⟩ := hsl.view
  refine ldS (ho.cell rfl) ?_;((conv=>whnf);repeat(first|(refine mvT ?_;conv=>whnf)|(refine mvF ?_;conv=>whnf)|(refine cT (by rfl) ?_;conv=>whnf)|(refine cF (by rfl) ?_;conv=>whnf)))
  refine ldS (ho.cell rfl) ?_;((conv=>whnf);repeat(first|(refine mvT ?_;conv=>whnf)|(refine mvF ?_;conv=>whnf)|(refine cT (by rfl) ?_;conv=>whnf)|(refine cF (by rfl) ?_;conv=>whnf)))
  intro c3 h3
  cases c3
  · have hfx : flexB fl v = false := by
      have := of_decide_eq_false h3
      simp [flexB]
      omega
    rw [hfx] at hlen ⊢
    ((conv=>whnf);repeat(first|(refine mvT ?_;conv=>whnf)|(refine mvF ?_;conv=>whnf)|(refine cT (by rfl) ?_;conv=>whnf)|(refine cF (by rfl) ?_;conv=>whnf)))
    refine ⟨ct, htc.len, ho2.cells, ?_⟩
    ((conv=>whnf);repeat(first|(refine mvT ?_;conv=>whnf)|(refine mvF ?_;conv=>whnf)|(refine cT (by rfl) ?_;conv=>whnf)|(refine cF (by rfl) ?_;conv=>whnf)))
    refine Does.mono (hpart (hfv.e0 hx) ⟨ct, rfl, htc.e0 hx⟩ hok hfl hlen) ?_;rintro r w3 ⟨h1, h2⟩;((conv=>whnf);repeat(first|(refine mvT ?_;conv=>whnf)|(refine mvF ?_;conv=>whnf)|(refine cT (by rfl) ?_;conv=>whnf)|(refine cF (by rfl) ?_;conv=>whnf)))
    exact ⟨h1.mono hx.size, hx.e0 h2⟩
  · have hfl0 := of_decide_eq_true h3
    ((conv=>whnf);repeat(first|(refine mvT ?_;conv=>whnf)|(refine mvF ?_;conv=>whnf)|(refine cT (by rfl) ?_;conv=>whnf)|(refine cF (by rfl) ?_;conv=>whnf)))
    refine ldS (ho.cell rfl) ?_;((conv=>whnf);repeat(first|(refine mvT ?_;conv=>whnf)|(refine mvF ?_;conv=>whnf)|(refine cT (by rfl) ?_;conv=>whnf)|(refine cF (by rfl) ?_;conv=>whnf)))
    have hfx : flexB fl v = decide (v ≥ fl) := by
      simp only [flexB, decide_eq_true (show 0 ≤ fl by omega), Bool.true_and]
    rw [hfx] at hlen ⊢
    refine ⟨ct, htc.len, ho2.cells, ?_⟩
    ((conv=>whnf);repeat(first|(refine mvT ?_;conv=>whnf)|(refine mvF ?_;conv=>whnf)|(refine cT (by rfl) ?_;conv=>whnf)|(refine cF (by rfl) ?_;conv=>whnf)))
    refine Does.mono (hpart (hfv.e0 hx) ⟨ct, rfl, htc.e0 hx⟩ hok hfl hlen) ?_;rintro r w3 ⟨h1, h2⟩;((conv=>whnf);repeat(first|(refine mvT ?_;conv=>whnf)|(refine mvF ?_;conv=>whnf)|(refine cT (by rfl) ?_;conv=>whnf)|(refine cF (by rfl) ?_;conv=>whnf)))
    exact ⟨h1.mono hx.size, hx.e0 h2⟩
theorem zzFits3_does {F : Nat → Prop} {w : World} {c : List Value} {x : Tg} (h : TgC w F c x) : Does X.P 24 #[.agg c.toArray] w fun r w' => (∃ b, r = .bool b) ∧ Ext nob w w' := by
  obtain ⟨hk, bv, rfl, hb⟩ := h
  obtain ⟨a, c, rfl, _⟩ := hb.view
  refine Does.go (X := X) (l := [_]) Tryz.func24 rfl (by kernel_rfl) (by kernel_rfl) _ rfl ?_
  ((conv=>whnf);repeat(first|(refine mvT ?_;conv=>whnf)|(refine mvF ?_;conv=>whnf)|(refine cT (by rfl) ?_;conv=>whnf)|(refine cF (by rfl) ?_;conv=>whnf)))
  intro b w1 hb ho hx
  ((conv=>whnf);repeat(first|(refine mvT ?_;conv=>whnf)|(refine mvF ?_;conv=>whnf)|(refine cT (by rfl) ?_;conv=>whnf)|(refine cF (by rfl) ?_;conv=>whnf)))
  refine ldS (ho.cell rfl) ?_;((conv=>whnf);repeat(first|(refine mvT ?_;conv=>whnf)|(refine mvF ?_;conv=>whnf)|(refine cT (by rfl) ?_;conv=>whnf)|(refine cF (by rfl) ?_;conv=>whnf)))
  refine cI (by rfl) (fun h1=>?_) (fun h1=>?_)
  · ((conv=>whnf);repeat(first|(refine mvT ?_;conv=>whnf)|(refine mvF ?_;conv=>whnf)|(refine cT (by rfl) ?_;conv=>whnf)|(refine cF (by rfl) ?_;conv=>whnf)))
    exact ⟨⟨_, rfl⟩, hx⟩
  · ((conv=>whnf);repeat(first|(refine mvT ?_;conv=>whnf)|(refine mvF ?_;conv=>whnf)|(refine cT (by rfl) ?_;conv=>whnf)|(refine cF (by rfl) ?_;conv=>whnf)))
    exact ⟨⟨_, rfl⟩, hx⟩
theorem zzFits2_does {F : Nat → Prop} {w : World} {x : Value} {u : List Tg} (h : TgsR w F x u) : Does X.P 14 #[x] w fun r w' => (∃ b, r = .bool b) ∧ Ext nob w w' := by
  obtain ⟨ls, hsl, hlen, hr⟩ := h
  obtain ⟨a, c, rfl, hc, hm, hF, hS, hC⟩ := hsl.view
  refine Does.go (X := X) (l := [_]) Tryz.func14 rfl (by kernel_rfl) (by kernel_rfl) _ rfl ?_
  ((conv=>whnf);repeat(first|(refine mvT ?_;conv=>whnf)|(refine mvF ?_;conv=>whnf)|(refine cT (by rfl) ?_;conv=>whnf)|(refine cF (by rfl) ?_;conv=>whnf)))
  refine cI (by rfl) (fun h0=>?_) (fun h0=>?_)
  · ((conv=>whnf);repeat(first|(refine mvT ?_;conv=>whnf)|(refine mvF ?_;conv=>whnf)|(refine cT (by rfl) ?_;conv=>whnf)|(refine cF (by rfl) ?_;conv=>whnf)))
    exact ⟨⟨_, rfl⟩, Ext.refl _ _⟩
  · ((conv=>whnf);repeat(first|(refine mvT ?_;conv=>whnf)|(refine mvF ?_;conv=>whnf)|(refine cT (by rfl) ?_;conv=>whnf)|(refine cF (by rfl) ?_;conv=>whnf)))
    refine VL.loop (fun i : Nat => [(8, .slice a ls.length c), (9, .int .i64 ls.length), (10, .int .i64 i)]) (fun i w' => Ext nob w w' ∧ i ≤ ls.length) (fun i => ls.length - i) 0 ⟨rfl, rfl, rfl, trivial⟩ ⟨Ext.refl _ _, Nat.zero_le _⟩ ?_
    rintro i w1 ⟨hx, hi⟩
    ((conv=>whnf);repeat(first|(refine mvT ?_;conv=>whnf)|(refine mvF ?_;conv=>whnf)|(refine cT (by rfl) ?_;conv=>whnf)|(refine cF (by rfl) ?_;conv=>whnf)))
    refine cI (by rfl) (fun h1=>?_) (fun h1=>?_)
    · have hil : i < ls.length := by have := of_decide_eq_true h1; omega
      have hiu : i < u.length := by omega
      have htg : TgC w F ls[i] u[i] := hr i ls[i] u[i] (by simp [hil]) (by simp [hiu])
      obtain ⟨b4, o4, rfl, hc4⟩ := hC i ls[i] (by simp [hil])
      ((conv=>whnf);repeat(first|(refine mvT ?_;conv=>whnf)|(refine mvF ?_;conv=>whnf)|(refine cT (by rfl) ?_;conv=>whnf)|(refine cF (by rfl) ?_;conv=>whnf)))
      refine ⟨b4, o4, rfl, ⟨by omega, by omega⟩, ?_⟩
      ((conv=>whnf);repeat(first|(refine mvT ?_;conv=>whnf)|(refine mvF ?_;conv=>whnf)|(refine cT (by rfl) ?_;conv=>whnf)|(refine cF (by rfl) ?_;conv=>whnf)))
      refine ⟨ls[i], htg.len, by rw [Int.toNat_natCast]; exact hc4.e0 hx, ?_⟩
      ((conv=>whnf);repeat(first|(refine mvT ?_;conv=>whnf)|(refine mvF ?_;conv=>whnf)|(refine cT (by rfl) ?_;conv=>whnf)|(refine cF (by rfl) ?_;conv=>whnf)))
      intro b5 w5 hb5 ho5 hx5
      ((conv=>whnf);repeat(first|(refine mvT ?_;conv=>whnf)|(refine mvF ?_;conv=>whnf)|(refine cT (by rfl) ?_;conv=>whnf)|(refine cF (by rfl) ?_;conv=>whnf)))
      refine st_all ls[i] ho5 htg.len rfl htg.ok ?_
      intro w6 ho6 hx6
      have hx16 : Ext nob w1 w6 := hx5.st hx6 hb5
      ((conv=>whnf);repeat(first|(refine mvT ?_;conv=>whnf)|(refine mvF ?_;conv=>whnf)|(refine cT (by rfl) ?_;conv=>whnf)|(refine cF (by rfl) ?_;conv=>whnf)))
      refine ⟨ls[i], htg.len, ho6.cells, ?_⟩
      ((conv=>whnf);repeat(first|(refine mvT ?_;conv=>whnf)|(refine mvF ?_;conv=>whnf)|(refine cT (by rfl) ?_;conv=>whnf)|(refine cF (by rfl) ?_;conv=>whnf)))
      refine Does.mono (zzFits3_does (htg.ext (hx.e0 hx16) fun _ _ _ f => f)) ?_
      rintro r7 w7 ⟨⟨b7, rfl⟩, hx7⟩
      ((conv=>whnf);repeat(first|(refine mvT ?_;conv=>whnf)|(refine mvF ?_;conv=>whnf)|(refine cT (by rfl) ?_;conv=>whnf)|(refine cF (by rfl) ?_;conv=>whnf)))
      refine cI (by rfl) (fun h8=>?_) (fun h8=>?_)
      · ((conv=>whnf);repeat(first|(refine mvT ?_;conv=>whnf)|(refine mvF ?_;conv=>whnf)|(refine cT (by rfl) ?_;conv=>whnf)|(refine cF (by rfl) ?_;conv=>whnf)))
        exact ⟨⟨_, rfl⟩, (hx.e0 hx16).e0 hx7⟩
      · ((conv=>whnf);repeat(first|(refine mvT ?_;conv=>whnf)|(refine mvF ?_;conv=>whnf)|(refine cT (by rfl) ?_;conv=>whnf)|(refine cF (by rfl) ?_;conv=>whnf)))
        exact ⟨i + 1, ⟨rfl, rfl, inc_eq (by rw [maxLen_eq] at hm; omega), trivial⟩, ⟨(hx.e0 hx16).e0 hx7, by omega⟩, by omega⟩
    · ((conv=>whnf);repeat(first|(refine mvT ?_;conv=>whnf)|(refine mvF ?_;conv=>whnf)|(refine cT (by rfl) ?_;conv=>whnf)|(refine cF (by rfl) ?_;conv=>whnf)))
      exact ⟨⟨_, rfl⟩, hx⟩
theorem zzFits1_does {F : Nat → Prop} {w : World} {x : Value} {t : T} (h : Tr w F x t) : Does X.P 5 #[x] w fun r w' => (∃ b, r = .bool b) ∧ Ext nob w w' := by
  obtain ⟨ct, rfl, ht⟩ := h
  cases ht
  rename_i n s nl l u sv lv uv ls hn hs hl hlen hr hu
  obtain ⟨a, c, rfl, _⟩ := hs.view
  obtain ⟨a2, c2, rfl, _⟩ := hl.view
  refine Does.go (X := X) (l := [_]) Tryz.func5 rfl (by kernel_rfl) (by kernel_rfl) _ rfl ?_
  ((conv=>whnf);repeat(first|(refine mvT ?_;conv=>whnf)|(refine mvF ?_;conv=>whnf)|(refine cT (by rfl) ?_;conv=>whnf)|(refine cF (by rfl) ?_;conv=>whnf)))
  intro b w1 hb ho hx
  ((conv=>whnf);repeat(first|(refine mvT ?_;conv=>whnf)|(refine mvF ?_;conv=>whnf)|(refine cT (by rfl) ?_;conv=>whnf)|(refine cF (by rfl) ?_;conv=>whnf)))
  refine ldS (ho.cell rfl) ?_;((conv=>whnf);repeat(first|(refine mvT ?_;conv=>whnf)|(refine mvF ?_;conv=>whnf)|(refine cT (by rfl) ?_;conv=>whnf)|(refine cF (by rfl) ?_;conv=>whnf)))
  refine cI (by rfl) (fun h1=>?_) (fun h1=>?_)
  · ((conv=>whnf);repeat(first|(refine mvT ?_;conv=>whnf)|(refine mvF ?_;conv=>whnf)|(refine cT (by rfl) ?_;conv=>whnf)|(refine cF (by rfl) ?_;conv=>whnf)))
    exact ⟨⟨_, rfl⟩, hx⟩
  · ((conv=>whnf);repeat(first|(refine mvT ?_;conv=>whnf)|(refine mvF ?_;conv=>whnf)|(refine cT (by rfl) ?_;conv=>whnf)|(refine cF (by rfl) ?_;conv=>whnf)))
    refine ldS (ho.cell rfl) ?_;((conv=>whnf);repeat(first|(refine mvT ?_;conv=>whnf)|(refine mvF ?_;conv=>whnf)|(refine cT (by rfl) ?_;conv=>whnf)|(refine cF (by rfl) ?_;conv=>whnf)))
    refine cI (by rfl) (fun h2=>?_) (fun h2=>?_)
    · ((conv=>whnf);repeat(first|(refine mvT ?_;conv=>whnf)|(refine mvF ?_;conv=>whnf)|(refine cT (by rfl) ?_;conv=>whnf)|(refine cF (by rfl) ?_;conv=>whnf)))
      exact ⟨⟨_, rfl⟩, hx⟩
    · ((conv=>whnf);repeat(first|(refine mvT ?_;conv=>whnf)|(refine mvF ?_;conv=>whnf)|(refine cT (by rfl) ?_;conv=>whnf)|(refine cF (by rfl) ?_;conv=>whnf)))
      refine ldS (ho.cell rfl) ?_;((conv=>whnf);repeat(first|(refine mvT ?_;conv=>whnf)|(refine mvF ?_;conv=>whnf)|(refine cT (by rfl) ?_;conv=>whnf)|(refine cF (by rfl) ?_;conv=>whnf)))
      refine Does.mono (zzFits2_does (hu.e0 hx)) ?_
      rintro r3 w3 ⟨⟨b3, rfl⟩, hx3⟩
      ((conv=>whnf);repeat(first|(refine mvT ?_;conv=>whnf)|(refine mvF ?_;conv=>whnf)|(refine cT (by rfl) ?_;conv=>whnf)|(refine cF (by rfl) ?_;conv=>whnf)))
      refine cI (by rfl) (fun h4=>?_) (fun h4=>?_)
      · ((conv=>whnf);repeat(first|(refine mvT ?_;conv=>whnf)|(refine mvF ?_;conv=>whnf)|(refine cT (by rfl) ?_;conv=>whnf)|(refine cF (by rfl) ?_;conv=>whnf)))
        exact ⟨⟨_, rfl⟩, hx.e0 hx3⟩
      · ((conv=>whnf);repeat(first|(refine mvT ?_;conv=>whnf)|(refine mvF ?_;conv=>whnf)|(refine cT (by rfl) ?_;conv=>whnf)|(refine cF (by rfl) ?_;conv=>whnf)))
        exact ⟨⟨_, rfl⟩, hx.e0 hx3⟩
end Go.Proofs.YtlnhbbpmlfaakaaGreatDoorR.K
