/- Scopes: jumps ahead to a label. -/
import Derived.Test.YtepamajphjgigaaGreatDoorK9
import Derived.ScopeJumps
set_option linter.unusedVariables false
namespace Go.Proofs.YtepamajphjgigaaGreatDoor.K
open Go

/-- As Q; by a jump to label l: J; by a jump to another label: no way out. -/
def jumpE (l : Nat) (J : Env → World → Prop) (Q : Exit → Env → World → Prop) : Exit → Env → World → Prop
  | .goto l', e, w => cond (Nat.beq l' l) (J e w) False
  | x, e, w => Q x e w
section
variable {X : Pr} {N : Nat} {Q : Exit → Env → World → Prop} {e : Env} {w : World}
theorem VO.label {l : Nat} (h : Q .normal e w) : VO X N (.label l) Q e w := ⟨⟨fun a ha => wp_label ⟨e, ha, h⟩⟩⟩
theorem VO.goto {l : Nat} (h : Q (.goto l) e w) : VO X N (.goto l) Q e w := ⟨⟨fun a ha => wp_goto ⟨e, ha, h⟩⟩⟩
theorem VO.scope {ι : Type} {c rest : Code} {l : Nat} (E : ι → Env) (R : ι → World → Prop) (hf : findLabel c l = some rest)
    (h1 : goV X N c (jumpE l (fun e' w' => ∃ i, Has (E i) e' ∧ R i w') Q) e w) (h2 : ∀ i w', R i w' → goV X N rest (jumpE l (fun _ _ => False) Q) (E i) w') : VO X N (.scope c) Q e w := by
  refine ⟨⟨fun a ha => ?_⟩⟩
  refine wp_scope_jumps l (fun a' w' => ∃ i, Agree N (E i) a' ∧ R i w') (fun _ _ => 0) hf ?_ ?_
  · refine wp_mono ((goV_sound _ h1).run a ha) fun ex a' w' ⟨e', g1, g2⟩ => ?_
    cases ex with
    | goto l' =>
      simp only [jumpE] at g2
      cases hb : Nat.beq l' l with
      | true =>
        rw [hb, cond_true] at g2
        obtain ⟨i, g3, g4⟩ := g2
        exact ⟨Nat.eq_of_beq_eq_true hb, i, g1.weaken g3, g4⟩
      | false =>
        rw [hb, cond_false] at g2
        exact g2.elim
    | _ => exact ⟨e', g1, g2⟩
  · rintro a' w' ⟨i, hag, hr⟩
    refine wp_mono ((goV_sound _ (h2 i w' hr)).run a' hag) fun ex a'' w'' ⟨e', g1, g2⟩ => ?_
    cases ex with
    | goto l' =>
      simp only [jumpE] at g2
      cases hb : Nat.beq l' l with
      | true => rw [hb, cond_true] at g2; exact g2.elim
      | false => rw [hb, cond_false] at g2; exact g2.elim
    | _ => exact ⟨e', g1, g2⟩
end
end Go.Proofs.YtepamajphjgigaaGreatDoor.K
