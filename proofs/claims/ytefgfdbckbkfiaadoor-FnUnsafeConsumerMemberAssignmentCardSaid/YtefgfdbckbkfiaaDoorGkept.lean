/- What is kept within. -/
import Derived.Test.YtefgfdbckbkfiaaDoorG15
set_option linter.unusedVariables false
set_option linter.unusedSimpArgs false
namespace Go.Proofs.YtefgfdbckbkfiaaDoor.K
open Go
set_option maxHeartbeats 1600000

theorem kept_does (d : Nat) {F G : Nat → Prop} {w : World} {m x : Value} {fs : List Fd} {fl v : Int} {t : T} (hm : Msg w F m fs fl) (ht : Tr w G x t) (hok : ∀ f, f ∈ fs → okF d f = true) (hfl : fs.length ≤ 1000) (hlen : (partB d v (flexB fl v) fs t).length ≤ 105000000000000) :
    Does X.P 5 #[m, .int .i64 v, x] w fun r w' => OB w' w.heap.size r (fixed v 2 ++ partB d v (flexB fl v) fs t) ∧ Ext nob w w' := by
  obtain ⟨fv, rfl, hfv⟩ := id hm
  obtain ⟨ct, rfl, htc⟩ := ht
  refine Does.go (X := X) (l := [_, _, _]) Tryd.func5 rfl (by kernel_rfl) (by kernel_rfl) _ rfl ?_
  ((conv=>whnf);repeat((first|refine mvT ?_|refine mvF ?_|refine yT ?_|refine yF ?_);conv=>whnf))
  intro b w1 hb ho hx
  ((conv=>whnf);repeat((first|refine mvT ?_|refine mvF ?_|refine yT ?_|refine yF ?_);conv=>whnf))
  intro b2 w2 hb2 ho2 hx2
  ((conv=>whnf);repeat((first|refine mvT ?_|refine mvF ?_|refine yT ?_|refine yF ?_);conv=>whnf))
  have ho := (ho.e0 hx2).e0 (ext_drew _)
  have ho2 := ho2.e0 (ext_drew _)
  have hx := (hx.e0 hx2).e0 (ext_drew _)
  refine VD.draw mixed (.q 0 (.q 2 (.q 3 (.q 4 (.eff 1 [2, 4] (.eff 5 [] (.eff 6 [] (.eff 7 [] (.done))))))))) (by kernel_rfl) ?_;((conv=>whnf);repeat((first|refine mvT ?_|refine mvF ?_|refine yT ?_|refine yF ?_);conv=>whnf))
  refine ⟨_, rfl, ho.cells, ?_⟩
  ((conv=>whnf);repeat((first|refine mvT ?_|refine mvF ?_|refine yT ?_|refine yF ?_);conv=>whnf))
  refine ⟨ct, htc.len, ho2.cells, ?_⟩
  ((conv=>whnf);repeat((first|refine mvT ?_|refine mvF ?_|refine yT ?_|refine yF ?_);conv=>whnf))
  refine Does.mono (Fixed_does v 2 (by omega) _) ?_
  rintro r3 w3 ⟨hr3, hx3⟩
  refine ⟨by (conv => whnf); exact ⟨⟨_, rfl, (ho.e0 hx3).cells, rfl, rfl⟩, ⟨_, htc.len, (ho2.e0 hx3).cells, rfl, rfl⟩, trivial⟩, ?_⟩
  ((conv=>whnf);repeat((first|refine mvT ?_|refine mvF ?_|refine yT ?_|refine yF ?_);conv=>whnf))
  refine Does.mono (write_does d (hm.e0 (hx.e0 hx3)) ⟨ct, rfl, htc.e0 (hx.e0 hx3)⟩ hok hfl hlen) ?_
  rintro r4 w4 ⟨hr4, hx4⟩
  ((conv=>whnf);repeat((first|refine mvT ?_|refine mvF ?_|refine yT ?_|refine yF ?_);conv=>whnf))
  refine app_bytes rfl rfl (hr3.e0 hx4) hr4.bytesAny.src rfl (by rw [fixed_length]; omega) (hx3.e0 hx4).size ?_
  intro r5 w5 hr5 hx5 _ _
  ((conv=>whnf);repeat((first|refine mvT ?_|refine mvF ?_|refine yT ?_|refine yF ?_);conv=>whnf))
  exact ⟨hr5.mono hx.size, ((hx.e0 hx3).e0 hx4).own hx5 hr3.blk hx.size⟩
end Go.Proofs.YtefgfdbckbkfiaaDoor.K
