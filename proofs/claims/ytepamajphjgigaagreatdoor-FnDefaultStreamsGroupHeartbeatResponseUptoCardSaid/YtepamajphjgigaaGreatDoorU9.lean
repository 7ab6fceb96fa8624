/- spec.Defaults says yes where each field that has a default other than nought says it. -/
import Derived.Test.YtepamajphjgigaaGreatDoorU6
set_option linter.unusedVariables false
set_option linter.unusedSimpArgs false
namespace Go.Proofs.YtepamajphjgigaaGreatDoor.K
open Go
set_option maxHeartbeats 1600000

theorem Defaults_does {d : Nat} {F G : Nat → Prop} {w : World} {y x : Value} {fs : List Fd} {t : T} (hf : FdsR w F y fs) (ht : Tr w G x t) (hok : ∀ f, f ∈ fs → okF (d + 1) f = true) (hN : ∀ (i : Nat) (f : Fd), fs[i]? = some f → f.df ≠ 0 → (atT t i).n = numK f.kind f.df) (hdf : ∀ f, f ∈ fs → IntKind.i64.wrap f.df = f.df) :
    Does X.P 10 #[y, x] w fun r w' => r = .bool true ∧ Ext nob w w' := by
  obtain ⟨fl, hsl, hfl, hfr⟩ := hf
  obtain ⟨a, c, rfl, hc, hm, _, _, hC⟩ := hsl.view
  obtain ⟨ct, rfl, ht0⟩ := id ht
  have htok := ht0.ok
  have htlen := ht0.len
  refine Does.go (X := X) (l := [_, _]) Tryz.func10 rfl (by kernel_rfl) (by kernel_rfl) _ rfl ?_
  ((conv=>whnf);repeat((first|refine mvT ?_|refine mvF ?_|refine yT ?_|refine yF ?_);conv=>whnf))
  intro b w1 hb ho hx
  ((conv=>whnf);repeat((first|refine mvT ?_|refine mvF ?_|refine yT ?_|refine yF ?_);conv=>whnf))
  refine VL.loop (fun i : Nat => [(0, .slice a fl.length c), (3, .pointer (some ⟨b, 0, none⟩)), (7, .slice a fl.length c), (8, .int .i64 fl.length), (9, .int .i64 i)])
    (fun i w' => Ext nob w1 w' ∧ i ≤ fl.length) (fun i => fl.length - i) 0 ⟨rfl, rfl, rfl, rfl, rfl, trivial⟩ ⟨Ext.refl _ _, Nat.zero_le _⟩ ?_
  rintro i w3 ⟨hx3, hi⟩
  ((conv=>whnf);repeat((first|refine mvT ?_|refine mvF ?_|refine yT ?_|refine yF ?_);conv=>whnf))
  refine cI (by rfl) (fun h1=>?_) (fun h1=>?_)
  · have hil : i < fl.length := by have := of_decide_eq_true h1; omega
    have his : i < fs.length := by omega
    have hfd' := hfr i fl[i] fs[i] (by simp [hil]) (by simp [his])
    have hg := List.getElem_mem his
    have ok1 := hok _ hg
    have hdf1 := hdf _ hg
    have hN1 := hN i fs[i] (by simp [his])
    obtain ⟨b4, o4, rfl, hc4⟩ := hC i fl[i] (by simp [hil])
    ((conv=>whnf);repeat((first|refine mvT ?_|refine mvF ?_|refine yT ?_|refine yF ?_);conv=>whnf))
    refine ⟨b4, o4, rfl, ⟨by omega, by omega⟩, ?_⟩
    ((conv=>whnf);repeat((first|refine mvT ?_|refine mvF ?_|refine yT ?_|refine yF ?_);conv=>whnf))
    refine ⟨fl[i], hfd'.len, (hc4.e0 hx).e0 hx3, ?_⟩
    ((conv=>whnf);repeat((first|refine mvT ?_|refine mvF ?_|refine yT ?_|refine yF ?_);conv=>whnf))
    generalize fl[i] = ci at hfd' hc4
    generalize fs[i] = f at hfd' ok1 hdf1 hN1
    obtain ⟨kind, fr, to, nul, tag, df, of, sub⟩ := f
    obtain ⟨_, hk, _, _, _⟩ := okF_parts ok1
    have hfd0 := hfd'
    cases hfd'
    rename_i sv ls hl hlen2 hr
    intro b5 w5 hb5 ho5 hx5
    ((conv=>whnf);repeat((first|refine mvT ?_|refine mvF ?_|refine yT ?_|refine yF ?_);conv=>whnf))
    refine st_all [.int .i64 kind, .int .i64 fr, .int .i64 to, .int .i64 nul, .int .i64 tag, .int .i64 df, .int .i64 of, sv] ho5 rfl rfl hfd0.ok ?_
    intro w6 ho6 hx6
    have hx16 : Ext nob w1 w6.drew := (hx3.e0 (hx5.st hx6 hb5)).e0 (ext_drew _)
    have ho6 := ho6.e0 (ext_drew _)
    ((conv=>whnf);repeat((first|refine mvT ?_|refine mvF ?_|refine yT ?_|refine yF ?_);conv=>whnf))
    refine VD.draw mixed (.q 0 (.q 1 (.q 2 (.q 3 (.q 4 (.q 5 (.q 8 (.q 9 (.q 10 (.q 11 (.eff 6 [9, 11] (.q 7 (.eff 12 [] (.q 13 (.q 14 (.done)))))))))))))))) (by kernel_rfl) ?_;((conv=>whnf);repeat((first|refine mvT ?_|refine mvF ?_|refine yT ?_|refine yF ?_);conv=>whnf))
    refine ldS (ho6.cell rfl) ?_;((conv=>whnf);repeat((first|refine mvT ?_|refine mvF ?_|refine yT ?_|refine yF ?_);conv=>whnf))
    intro cq hcq
    cases cq
    · ((conv=>whnf);repeat((first|refine mvT ?_|refine mvF ?_|refine yT ?_|refine yF ?_);conv=>whnf))
      refine ⟨by (conv => whnf); exact ⟨⟨rfl, rfl⟩, ⟨rfl, rfl⟩, trivial⟩, ?_⟩
      ((conv=>whnf);repeat((first|refine mvT ?_|refine mvF ?_|refine yT ?_|refine yF ?_);conv=>whnf))
      exact ⟨i + 1, ⟨rfl, rfl, rfl, rfl, inc_eq (by rw [maxLen_eq] at hm; omega), trivial⟩, ⟨hx16, by omega⟩, by omega⟩
    · have hne : df ≠ 0 := by simpa using hcq
      ((conv=>whnf);repeat((first|refine mvT ?_|refine mvF ?_|refine yT ?_|refine yF ?_);conv=>whnf))
      refine ⟨_, htlen, (ho.e0 hx16).cells, ?_⟩
      ((conv=>whnf);repeat((first|refine mvT ?_|refine mvF ?_|refine yT ?_|refine yF ?_);conv=>whnf))
      refine ldS (ho6.cell rfl) ?_;((conv=>whnf);repeat((first|refine mvT ?_|refine mvF ?_|refine yT ?_|refine yF ?_);conv=>whnf))
      refine ldS (ho6.cell rfl) ?_;((conv=>whnf);repeat((first|refine mvT ?_|refine mvF ?_|refine yT ?_|refine yF ?_);conv=>whnf))
      refine Does.mono (at_does (ht.e0 (hx.e0 hx16)) i) ?_
      rintro r7 w7 ⟨⟨cx, rfl, hcx⟩, hx7⟩
      obtain ⟨xn, xsv, xnl, xlv, xuv, rfl⟩ := hcx.five
      have hxn : xn = (atT t i).n := by
        generalize atT t i = y at hcx
        cases hcx
        rfl
      refine ⟨by (conv => whnf); exact ⟨⟨_, (ho6.e0 hx7).cell rfl, rfl, rfl⟩, ⟨_, (ho6.e0 hx7).cell rfl, rfl, rfl⟩, trivial⟩, ?_⟩
      ((conv=>whnf);repeat((first|refine mvT ?_|refine mvF ?_|refine yT ?_|refine yF ?_);conv=>whnf))
      refine Does.mono (number_does hk hdf1 w7) ?_
      rintro r8 w8 ⟨rfl, hx8⟩
      have he : xn = numK kind df := hxn.trans (hN1 hne)
      ((conv=>whnf);repeat((first|refine mvT ?_|refine mvF ?_|refine yT ?_|refine yF ?_);conv=>whnf))
      refine cI (by rfl) (fun h9=>?_) (fun h9=>?_)
      · simp at h9
        exact absurd he h9
      ((conv=>whnf);repeat((first|refine mvT ?_|refine mvF ?_|refine yT ?_|refine yF ?_);conv=>whnf))
      exact ⟨i + 1, ⟨rfl, rfl, rfl, rfl, inc_eq (by rw [maxLen_eq] at hm; omega), trivial⟩, ⟨(hx16.e0 hx7).e0 hx8, by omega⟩, by omega⟩
  · ((conv=>whnf);repeat((first|refine mvT ?_|refine mvF ?_|refine yT ?_|refine yF ?_);conv=>whnf))
    exact ⟨rfl, hx.e0 hx3⟩
end Go.Proofs.YtepamajphjgigaaGreatDoor.K
