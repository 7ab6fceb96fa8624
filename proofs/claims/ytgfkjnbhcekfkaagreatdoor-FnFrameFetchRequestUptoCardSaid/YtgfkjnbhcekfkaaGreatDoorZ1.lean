/- Two values of a struct, held against each other: no tags, or some. -/
import Derived.Test.YtgfkjnbhcekfkaaGreatDoorC4
set_option linter.unusedVariables false
set_option linter.unusedSimpArgs false
namespace Go.Proofs.YtgfkjnbhcekfkaaGreatDoor.K
open Go
set_option maxHeartbeats 800000

theorem range_none {o : Oper} {e : Env} {w : World} {K : Value → World → Prop} {t : TypeId} {x : Operand} {kt et s1 b1 : Nat} {z1 : List Value} (ho : o.op = .range t x) (hx : ev e x = some (.map none)) (ht : tlook X.tab t = some ⟨.map kt et, s1, b1, z1⟩)
    (hk : ∀ r w', w'.heap[r]? = some (.mapIter none 0 #[] 0) → Ext nob w w' → K (.pointer (some ⟨r, 0, none⟩)) w') : semVC X o e w K := by
  obtain ⟨d, inf, zv, hr⟩ := X.row ht
  have hd := hr.desc
  cases d <;> simp [descOf] at hd
  refine .inl ⟨.pointer (some ⟨w.heap.size, 0, none⟩), w.alloc (.mapIter none 0 #[] 0), fun ρ hρ => .inl ?_, hk _ _ ?_ (Ext.alloc w _)⟩
  · have h1 := hρ x _ hx
    simp [execOp, ho, h1, Instr.range, hr.run_und, getObj, Sem.run, Result.andThen, newObj]
  · show (w.heap.push _)[w.heap.size]? = _
    simp
theorem next_none {o : Oper} {e : Env} {w : World} {K : Value → World → Prop} {x : Operand} {r : Nat} (ho : o.op = .next x false) (hx : ev e x = some (.pointer (some ⟨r, 0, none⟩))) (hi : w.heap[r]? = some (.mapIter none 0 #[] 0)) (h0 : K (.tuple #[.bool false]) w) : semVC X o e w K := by
  refine .inl ⟨_, w, fun ρ hρ => .inl ?_, h0⟩
  have h1 := hρ x _ hx
  simp [execOp, ho, h1, Instr.next, getObj, Sem.run, hi, Result.andThen]
theorem Tags_same_does {w : World} {F : Nat → Prop} {m : Value} {u : List Tg} (h : TagsR w F m u) :
    Does X.P 119 #[.agg #[m], .agg #[.map none]] w fun r w' => r = .bool u.isEmpty ∧ Ext nob w w' := by
  obtain ⟨kvs, hm, hlen, _⟩ := h
  cases hm with
  | none =>
    obtain rfl : u = [] := List.eq_nil_of_length_eq_zero (by rw [← hlen]; rfl)
    refine Does.go (X := X) (l := [_, _]) Tryz.func119 rfl (by kernel_rfl) (by kernel_rfl) _ rfl ?_
    ((conv=>whnf);repeat((first|refine mvT ?_|refine mvF ?_|refine yT ?_|refine yF ?_);conv=>whnf))
    intro b1 w1 hb1 ho1 hx1
    ((conv=>whnf);repeat((first|refine mvT ?_|refine mvF ?_|refine yT ?_|refine yF ?_);conv=>whnf))
    intro b2 w2 hb2 ho2 hx2
    ((conv=>whnf);repeat((first|refine mvT ?_|refine mvF ?_|refine yT ?_|refine yF ?_);conv=>whnf))
    have ho12 := ho1.e0 hx2
    refine ldS (ho12.cell rfl) ?_;((conv=>whnf);repeat((first|refine mvT ?_|refine mvF ?_|refine yT ?_|refine yF ?_);conv=>whnf))
    refine ldS (ho2.cell rfl) ?_;((conv=>whnf);repeat((first|refine mvT ?_|refine mvF ?_|refine yT ?_|refine yF ?_);conv=>whnf))
    refine ldS (ho12.cell rfl) ?_;((conv=>whnf);repeat((first|refine mvT ?_|refine mvF ?_|refine yT ?_|refine yF ?_);conv=>whnf))
    refine ⟨0, rfl, ?_⟩
    ((conv=>whnf);repeat((first|refine mvT ?_|refine mvF ?_|refine yT ?_|refine yF ?_);conv=>whnf))
    refine ldS (ho2.cell rfl) ?_;((conv=>whnf);repeat((first|refine mvT ?_|refine mvF ?_|refine yT ?_|refine yF ?_);conv=>whnf))
    refine ⟨0, rfl, ?_⟩
    ((conv=>whnf);repeat((first|refine mvT ?_|refine mvF ?_|refine yT ?_|refine yF ?_);conv=>whnf))
    refine ldS (ho12.cell rfl) ?_;((conv=>whnf);repeat((first|refine mvT ?_|refine mvF ?_|refine yT ?_|refine yF ?_);conv=>whnf))
    refine range_none rfl rfl rfl fun r w3 hr hx3 => ?_
    ((conv=>whnf);repeat((first|refine mvT ?_|refine mvF ?_|refine yT ?_|refine yF ?_);conv=>whnf))
    refine VL.loop (fun _ : Unit => [(4, .bool false), (27, .pointer (some ⟨r, 0, none⟩))]) (fun _ w' => w' = w3) (fun _ => 0) () ⟨rfl, rfl, trivial⟩ rfl ?_
    rintro _ w rfl
    ((conv=>whnf);repeat((first|refine mvT ?_|refine mvF ?_|refine yT ?_|refine yF ?_);conv=>whnf))
    refine next_none rfl rfl hr ?_
    ((conv=>whnf);repeat((first|refine mvT ?_|refine mvF ?_|refine yT ?_|refine yF ?_);conv=>whnf))
    exact ⟨rfl, (hx1.e0 hx2).e0 hx3⟩
  | some b kvs hb hf hne =>
    have hue : u.isEmpty = false := by
      cases u with
      | nil => exact absurd (List.eq_nil_of_length_eq_zero hlen) hne
      | cons y z => rfl
    refine Does.go (X := X) (l := [_, _]) Tryz.func119 rfl (by kernel_rfl) (by kernel_rfl) _ rfl ?_
    ((conv=>whnf);repeat((first|refine mvT ?_|refine mvF ?_|refine yT ?_|refine yF ?_);conv=>whnf))
    intro b1 w1 hb1 ho1 hx1
    ((conv=>whnf);repeat((first|refine mvT ?_|refine mvF ?_|refine yT ?_|refine yF ?_);conv=>whnf))
    intro b2 w2 hb2 ho2 hx2
    ((conv=>whnf);repeat((first|refine mvT ?_|refine mvF ?_|refine yT ?_|refine yF ?_);conv=>whnf))
    have ho12 := ho1.e0 hx2
    refine ldS (ho12.cell rfl) ?_;((conv=>whnf);repeat((first|refine mvT ?_|refine mvF ?_|refine yT ?_|refine yF ?_);conv=>whnf))
    refine ldS (ho2.cell rfl) ?_;((conv=>whnf);repeat((first|refine mvT ?_|refine mvF ?_|refine yT ?_|refine yF ?_);conv=>whnf))
    exact ⟨by rw [hue]; rfl, hx1.e0 hx2⟩
end Go.Proofs.YtgfkjnbhcekfkaaGreatDoor.K
