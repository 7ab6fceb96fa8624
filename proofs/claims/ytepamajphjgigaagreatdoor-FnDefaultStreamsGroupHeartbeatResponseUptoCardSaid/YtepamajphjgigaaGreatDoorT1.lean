/- try -/
import Derived.Test.YtepamajphjgigaaGreatDoorG0
import Derived.Test.YtepamajphjgigaaGreatDoorKX
namespace Go.Proofs.YtepamajphjgigaaGreatDoor.K
open Go
set_option maxHeartbeats 400000
theorem Same_does {F G : Nat → Prop} {w : World} {x y : Value} {l m : List UInt8} (ha : Bytes w F x l) (hb : Bytes w G y m) : Does X.P 83 #[x, y] w fun v w' => v = .bool (decide (l = m)) ∧ Ext nob w w' := by
  obtain ⟨a, c, rfl, hac, ham, haF, haS, haN, haC⟩ := ha.view
  obtain ⟨b, d, rfl, hbc, hbm, hbF, hbS, hbN, hbC⟩ := hb.view
  refine Does.go (X := X) (l := [_, _]) Tryz.func83 rfl (by kernel_rfl) (by kernel_rfl) _ rfl ?_
  ((conv=>whnf);repeat((first|refine mvT ?_|refine mvF ?_|refine yT ?_|refine yF ?_);conv=>whnf))
  refine cI (by rfl) (fun h1=>?_) (fun h1=>?_)
  · ((conv=>whnf);repeat((first|refine mvT ?_|refine mvF ?_|refine yT ?_|refine yF ?_);conv=>whnf))
    have hne : l ≠ m := fun h => by simp [h] at h1
    exact ⟨by simp [oneOr, hne], Ext.refl _ _⟩
  · ((conv=>whnf);repeat((first|refine mvT ?_|refine mvF ?_|refine yT ?_|refine yF ?_);conv=>whnf))
    have hlm : l.length = m.length := Int.ofNat_inj.1 (by simpa using h1)
    refine VL.loop (fun i : Nat => [(0, .slice a l.length c), (1, .slice b m.length d), (12, .int .i64 l.length), (13, .int .i64 i)]) (fun i w' => Ext nob w w' ∧ i ≤ l.length ∧ ∀ j, j < i → l[j]? = m[j]?) (fun i => l.length - i) 0 ⟨rfl, rfl, rfl, rfl, trivial⟩ ⟨Ext.refl _ _, Nat.zero_le _, fun j hj => absurd hj (Nat.not_lt_zero j)⟩ ?_
    rintro i w1 ⟨hx, hi, hall⟩
    ((conv=>whnf);repeat((first|refine mvT ?_|refine mvF ?_|refine yT ?_|refine yF ?_);conv=>whnf))
    refine cI (by rfl) (fun h2=>?_) (fun h2=>?_)
    · have hil : i < l.length := by have := of_decide_eq_true h2; omega
      ((conv=>whnf);repeat((first|refine mvT ?_|refine mvF ?_|refine yT ?_|refine yF ?_);conv=>whnf))
      refine VD.draw mixed (.q 0 (.q 1 (.q 2 (.q 3 (.q 4 (.q 5 (.q 6 (.q 7 (.q 8 (.done)))))))))) (by kernel_rfl) ?_;((conv=>whnf);repeat((first|refine mvT ?_|refine mvF ?_|refine yT ?_|refine yF ?_);conv=>whnf))
      obtain ⟨u, hu⟩ : ∃ u, l[i]? = some u := ⟨l[i], by simp [hil]⟩
      obtain ⟨u', hu'⟩ : ∃ u, m[i]? = some u := ⟨m[i]'(by omega), by simp⟩
      obtain ⟨b1, p1, rfl, hc1⟩ := haC i u hu
      obtain ⟨b2, p2, rfl, hc2⟩ := hbC i u' hu'
      refine ⟨b1, p1, rfl, ⟨by omega, by omega⟩, ?_⟩
      refine ⟨_, ld (hx.cell hc1 id) (by simp), ?_⟩
      refine ⟨b2, p2, rfl, ⟨by omega, by omega⟩, ?_⟩
      refine ⟨_, ld (hx.cell hc2 id) (by simp), ?_⟩
      conv => whnf
      refine cI (by rfl) (fun h3=>?_) (fun h3=>?_)
      · ((conv=>whnf);repeat((first|refine mvT ?_|refine mvF ?_|refine yT ?_|refine yF ?_);conv=>whnf))
        refine ⟨?_, hx.e0 (ext_drew _)⟩
        have hne : l ≠ m := by
          rintro rfl
          rw [hu] at hu'
          injection hu' with hu'
          subst hu'
          simp at h3
        simp [oneOr, hne]
      · ((conv=>whnf);repeat((first|refine mvT ?_|refine mvF ?_|refine yT ?_|refine yF ?_);conv=>whnf))
        have huu : u = u' := by
          have : (u.toNat : Int) = (u'.toNat : Int) := by simpa using h3
          exact UInt8.toNat_inj.1 (by omega)
        refine ⟨i + 1, ⟨rfl, rfl, rfl, inc_eq (by rw [maxLen_eq] at ham; omega), trivial⟩, ⟨hx.e0 (ext_drew _), by omega, fun j hj => ?_⟩, by omega⟩
        by_cases hji : j = i
        · subst hji
          rw [hu, hu', huu]
        · exact hall j (by omega)
    · have hil : i = l.length := by have := of_decide_eq_false h2; omega
      ((conv=>whnf);repeat((first|refine mvT ?_|refine mvF ?_|refine yT ?_|refine yF ?_);conv=>whnf))
      refine ⟨?_, hx⟩
      have : l = m := by
        apply List.ext_getElem?
        intro j
        by_cases hj : j < i
        · exact hall j hj
        · rw [List.getElem?_eq_none (by omega), List.getElem?_eq_none (by omega)]
      simp [oneOr, this]
end Go.Proofs.YtepamajphjgigaaGreatDoor.K
