/- Setting texts and octets. -/
import Derived.Test.YteciepjfbipfgaaC2
set_option linter.unusedVariables false
set_option linter.unusedSimpArgs false
namespace Go.Proofs.Yteciepjfbipfgaa.K
open Go
set_option maxHeartbeats 800000
theorem ok_nil : okCells [] = true := rfl
theorem ok_cons {c : Value} {l : List Value} (h : c.oneCell' = true) (h2 : okCells l = true) : okCells (c :: l) = true := by
  simp only [okCells, List.all_cons, Bool.and_eq_true] at h2 ⊢
  exact ⟨h, h2⟩
theorem NTextR.one {w : World} {F : Nat → Prop} {c : Value} {t : T} (h : NTextR w F c t) : c.oneCell' = true := by
  rcases h with ⟨_, rfl⟩ | ⟨_, b, o, rfl, _⟩ <;> rfl
theorem OctR.one {nb : Bool} {w : World} {F : Nat → Prop} {c : Value} {t : T} (h : OctR nb w F c t) : c.oneCell' = true := by
  rcases h with ⟨_, rfl⟩ | ⟨_, _, h⟩
  · rfl
  · exact Sl.one h
theorem ListR.one {nb : Bool} {sz : Nat} {R : List Value → T → Prop} {w : World} {F : Nat → Prop} {c : Value} {t : T} (h : ListR nb sz R w F c t) : c.oneCell' = true := by
  obtain ⟨a, k, ls, rfl, _⟩ := h.view
  rfl
theorem TagM.one {w : World} {F : Nat → Prop} {c : Value} {kvs : List (Nat × Value)} (h : TagM w F c kvs) : c.oneCell' = true := by cases h <;> rfl
theorem TagsR.one {w : World} {F : Nat → Prop} {c : Value} {u : List Tg} (h : TagsR w F c u) : c.oneCell' = true := by
  obtain ⟨kvs, h, _⟩ := h
  exact h.one
theorem and1_bool (n : Int) : (IntKind.i64.wrap ((BitVec.ofInt IntKind.i64.bits n &&& BitVec.ofInt IntKind.i64.bits 1).toNat : Int) == 1) = decide (n % 2 = 1) := by
  rw [and1]
  rfl
theorem bo_eq (n : Int) : [if (decide (n % 2 = 1)) = true then (1 : UInt8) else 0] = boA n := by
  unfold boA
  rcases (show n % 2 = 0 ∨ n % 2 = 1 by omega) with h | h <;> rw [h] <;> rfl
theorem cells_one {v : Value} (h : v.oneCell' = true) : v.cells.toList = [v] := by
  cases v <;> first | rfl | exact Bool.noConfusion h
theorem octetsOf_does {F : Nat → Prop} {w : World} {x : Value} {t : T} (ht : Tr w F x t) (hl : t.s.length ≤ 32767) : Does X.P 77 #[x] w fun r w' => OctR true w' (fun k => w.heap.size ≤ k) r t ∧ r.oneCell' = true ∧ Ext nob w w' := by
  obtain ⟨sv, lv, uv, ls, rfl, _, hs, _⟩ := ht.open
  refine Does.go (X := X) (l := [_]) Try.func77 rfl (by kernel_rfl) (by kernel_rfl) _ rfl ?_
  ((conv=>whnf);repeat(first|(refine mvT ?_;conv=>whnf)|(refine mvF ?_;conv=>whnf)|(refine cT (by rfl) ?_;conv=>whnf)|(refine cF (by rfl) ?_;conv=>whnf)))
  intro b w1 hb ho hx
  ((conv=>whnf);repeat(first|(refine mvT ?_;conv=>whnf)|(refine mvF ?_;conv=>whnf)|(refine cT (by rfl) ?_;conv=>whnf)|(refine cF (by rfl) ?_;conv=>whnf)))
  refine ldS (ho.cell rfl) ?_;((conv=>whnf);repeat(first|(refine mvT ?_;conv=>whnf)|(refine mvF ?_;conv=>whnf)|(refine cT (by rfl) ?_;conv=>whnf)|(refine cF (by rfl) ?_;conv=>whnf)))
  refine cI (by rfl) (fun h=>?_) (fun h=>?_)
  · ((conv=>whnf);repeat(first|(refine mvT ?_;conv=>whnf)|(refine mvF ?_;conv=>whnf)|(refine cT (by rfl) ?_;conv=>whnf)|(refine cF (by rfl) ?_;conv=>whnf)))
    exact ⟨.inl ⟨h, rfl⟩, rfl, hx⟩
  · ((conv=>whnf);repeat(first|(refine mvT ?_;conv=>whnf)|(refine mvF ?_;conv=>whnf)|(refine cT (by rfl) ?_;conv=>whnf)|(refine cF (by rfl) ?_;conv=>whnf)))
    intro b2 w2 hb2 ho2 hx2
    ((conv=>whnf);repeat(first|(refine mvT ?_;conv=>whnf)|(refine mvF ?_;conv=>whnf)|(refine cT (by rfl) ?_;conv=>whnf)|(refine cF (by rfl) ?_;conv=>whnf)))
    refine ldS ((ho.e0 hx2).cell rfl) ?_;((conv=>whnf);repeat(first|(refine mvT ?_;conv=>whnf)|(refine mvF ?_;conv=>whnf)|(refine cT (by rfl) ?_;conv=>whnf)|(refine cF (by rfl) ?_;conv=>whnf)))
    have hx02 := hx.e0 hx2
    have hsz := hx.size
    have hob : OB w2 w.heap.size (.slice (some ⟨b2, 0, none⟩) 0 0) [] := ⟨OwnSl.of_own (sz := 1) (n := 0) (cap := 0) ho2 (Nat.le_refl _) (by rw [maxLen_eq]; omega) rfl, fun k hk => by simp only [Value.ownBlock, Option.some.injEq] at hk; omega⟩
    refine app_bytes rfl rfl hob (hs.e0 hx02).src rfl (by simp only [List.length_nil]; omega) hx02.size ?_
    intro v3 w3 h3 hx3 _ hnn
    ((conv=>whnf);repeat(first|(refine mvT ?_;conv=>whnf)|(refine mvF ?_;conv=>whnf)|(refine cT (by rfl) ?_;conv=>whnf)|(refine cF (by rfl) ?_;conv=>whnf)))
    have hx03 := hx02.trans hx3 fun k hk e => by simp only [Value.ownBlock, Option.some.injEq] at e; omega
    rw [List.nil_append] at h3
    refine ⟨.inr ⟨h, fun _ => ?_, h3.bytes fun k hk => hk⟩, Sl.one (h3.bytes (F := anyB) fun _ _ => trivial), hx03⟩
    rcases h3.own.2 with ⟨e, _⟩ | ⟨g, cap, cur, e, _⟩
    · exact absurd e (hnn (by simp))
    · exact ⟨_, _, _, e⟩
end Go.Proofs.Yteciepjfbipfgaa.K
