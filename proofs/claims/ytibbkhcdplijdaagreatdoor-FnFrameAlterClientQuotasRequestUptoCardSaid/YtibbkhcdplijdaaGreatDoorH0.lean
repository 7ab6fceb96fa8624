/- Methods called through an interface. -/
import Derived.Test.YtibbkhcdplijdaaGreatDoorF1
set_option linter.unusedVariables false
set_option linter.unusedSimpArgs false
namespace Go.Proofs.YtibbkhcdplijdaaGreatDoor.K
open Go
set_option maxHeartbeats 800000

theorem evs_map {e : Env} {ρ : Operand → Value} (hρ : ∀ x v, ev e x = some v → ρ x = v) : ∀ (xs : List Operand) (l : List Value), evs e xs = some l → xs.map ρ = l
  | [], l, h => by
    simp only [evs, Option.some.injEq] at h
    subst h
    rfl
  | x :: r, l, h => by
    unfold evs at h
    split at h
    · rename_i v l2 h1 h2
      simp only [Option.some.injEq] at h
      subst h
      rw [List.map_cons, hρ x v h1, evs_map hρ r l2 h2]
    · cases h
theorem inv_vc {o : Oper} {e : Env} {w : World} {K : Value → World → Prop} {recv : Operand} {name : String} {args : Array Operand} {tys : Array TypeId} {t : TypeId} {v r : Value} {g : FuncId} {l : List Value}
    (ho : o.op = .call ⟨.invoke recv name, args, tys⟩) (hr : ev e recv = some (.iface t v)) (hl : evs e args.toList = some l) (hm : (method (X.P.types.size + Made.depth) t v name).run X.P w = .ok (g, r) w) (hd : Does X.P g (r :: l).toArray w K) : semVC X o e w K := by
  have e1 : ∀ ρ : Operand → Value, (∀ x v, ev e x = some v → ρ x = v) → args.map ρ = l.toArray := fun ρ hρ => Array.ext' (by simpa using evs_map hρ _ _ hl)
  have e2 : #[r] ++ l.toArray = (r :: l).toArray := Array.ext' (by simp)
  rcases hd.run with ⟨hok, hcalls⟩ | ⟨v', w', hrv, hkv⟩
  · refine .inr ⟨g, (r :: l).toArray, fun ρ hρ => ?_, hcalls⟩
    have h1 := hρ recv _ hr
    simp [execOp, ho, resolve, h1, e1 ρ hρ, invoke, callMethod, hm, hok _ _, e2]
  · refine .inl ⟨v', w', fun ρ hρ => .inl ?_, hkv⟩
    have h1 := hρ recv _ hr
    simp [execOp, ho, resolve, h1, e1 ρ hρ, invoke, callMethod, hm, hrv, e2]
end Go.Proofs.YtibbkhcdplijdaaGreatDoor.K
