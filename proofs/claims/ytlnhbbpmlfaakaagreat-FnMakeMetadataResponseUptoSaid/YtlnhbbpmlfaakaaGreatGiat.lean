/- What the field of a number says, in the program. -/
import Derived.Test.YtlnhbbpmlfaakaaGreatG3
set_option linter.unusedVariables false
set_option linter.unusedSimpArgs false
namespace Go.Proofs.YtlnhbbpmlfaakaaGreat.K
open Go
set_option maxHeartbeats 400000

theorem iat_does {F : Nat → Prop} {w : World} {x : Value} {t : T} (ht : Tr w F x t) (i : Nat) : Does X.P 29 #[x, .int .i64 i] w fun r w' => Tr w' F r (atT t i) ∧ Ext nob w w' := by
  obtain ⟨ct, rfl, ht⟩ := ht
  cases ht
  rename_i n s nl l u sv lv uv ls hn hs hl hlen hr hu
  obtain ⟨a, c, rfl, hc, hm, hF, hS, hC⟩ := hl.view
  refine Does.go (X := X) (l := [_, _]) Tryz.func29 rfl (by kernel_rfl) (by kernel_rfl) _ rfl ?_
  ((conv=>whnf);repeat(first|(refine mvT ?_;conv=>whnf)|(refine mvF ?_;conv=>whnf)|(refine cT (by rfl) ?_;conv=>whnf)|(refine cF (by rfl) ?_;conv=>whnf)))
  intro b1 w1 hb1 ho1 hx1
  ((conv=>whnf);repeat(first|(refine mvT ?_;conv=>whnf)|(refine mvF ?_;conv=>whnf)|(refine cT (by rfl) ?_;conv=>whnf)|(refine cF (by rfl) ?_;conv=>whnf)))
  intro b2 w2 hb2 ho2 hx2
  ((conv=>whnf);repeat(first|(refine mvT ?_;conv=>whnf)|(refine mvF ?_;conv=>whnf)|(refine cT (by rfl) ?_;conv=>whnf)|(refine cF (by rfl) ?_;conv=>whnf)))
  have ho1 := ho1.e0 hx2
  have hx := hx1.e0 hx2
  refine ldS (ho1.cell rfl) ?_;((conv=>whnf);repeat(first|(refine mvT ?_;conv=>whnf)|(refine mvF ?_;conv=>whnf)|(refine cT (by rfl) ?_;conv=>whnf)|(refine cF (by rfl) ?_;conv=>whnf)))
  refine cI (by rfl) (fun h1=>?_) (fun h1=>?_)
  · have hi : i < ls.length := by have := of_decide_eq_true h1; omega
    ((conv=>whnf);repeat(first|(refine mvT ?_;conv=>whnf)|(refine mvF ?_;conv=>whnf)|(refine cT (by rfl) ?_;conv=>whnf)|(refine cF (by rfl) ?_;conv=>whnf)))
    refine ldS (ho1.cell rfl) ?_;((conv=>whnf);repeat(first|(refine mvT ?_;conv=>whnf)|(refine mvF ?_;conv=>whnf)|(refine cT (by rfl) ?_;conv=>whnf)|(refine cF (by rfl) ?_;conv=>whnf)))
    have hil : i < l.length := by omega
    have ht := hr i ls[i] l[i] (by simp [hi]) (by simp [hil])
    have hat : atT (.mk n s nl l u) i = l[i] := by simp [atT, T.l, hil]
    obtain ⟨b, o, rfl, hcc⟩ := hC i ls[i] (by simp [hi])
    refine ⟨b, o, rfl, ⟨by omega, by omega⟩, ?_⟩
    ((conv=>whnf);repeat(first|(refine mvT ?_;conv=>whnf)|(refine mvF ?_;conv=>whnf)|(refine cT (by rfl) ?_;conv=>whnf)|(refine cF (by rfl) ?_;conv=>whnf)))
    refine ⟨ls[i], ht.len, hcc.e0 hx, ?_⟩
    ((conv=>whnf);repeat(first|(refine mvT ?_;conv=>whnf)|(refine mvF ?_;conv=>whnf)|(refine cT (by rfl) ?_;conv=>whnf)|(refine cF (by rfl) ?_;conv=>whnf)))
    refine st_all ls[i] ho2 ht.len rfl ht.ok ?_
    intro w3 ho3 hx3
    ((conv=>whnf);repeat(first|(refine mvT ?_;conv=>whnf)|(refine mvF ?_;conv=>whnf)|(refine cT (by rfl) ?_;conv=>whnf)|(refine cF (by rfl) ?_;conv=>whnf)))
    refine ⟨ls[i], ht.len, ho3.cells, ?_⟩
    rw [hat]
    have hx' := hx.st hx3 (by have := hx1.size; omega)
    exact ⟨⟨_, rfl, ht.e0 hx'⟩, hx'⟩
  · have hi : ¬ i < l.length := by have := of_decide_eq_false h1; omega
    have hat : atT (.mk n s nl l u) i = T.zero := by simp [atT, T.l, List.getElem?_eq_none (Nat.le_of_not_lt hi)]
    ((conv=>whnf);repeat(first|(refine mvT ?_;conv=>whnf)|(refine mvF ?_;conv=>whnf)|(refine cT (by rfl) ?_;conv=>whnf)|(refine cF (by rfl) ?_;conv=>whnf)))
    refine st_all [.int .i64 0, .slice none 0 0, .bool false, .slice none 0 0, .slice none 0 0] ho2 rfl rfl rfl ?_
    intro w3 ho3 hx3
    ((conv=>whnf);repeat(first|(refine mvT ?_;conv=>whnf)|(refine mvF ?_;conv=>whnf)|(refine cT (by rfl) ?_;conv=>whnf)|(refine cF (by rfl) ?_;conv=>whnf)))
    refine ⟨_, rfl, ho3.cells, ?_⟩
    rw [hat]
    exact ⟨⟨_, rfl, TrC.zero _ _⟩, hx.st hx3 (by have := hx1.size; omega)⟩
end Go.Proofs.YtlnhbbpmlfaakaaGreat.K
