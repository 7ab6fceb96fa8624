/- Small functions over fields and trees. -/
import Derived.Test.YtepamajphjgigaaGreatDoorG2
set_option linter.unusedVariables false
set_option linter.unusedSimpArgs false
namespace Go.Proofs.YtepamajphjgigaaGreatDoor.K
open Go
set_option maxHeartbeats 400000

theorem hasF_eq (kind fr to nul tag df of : Int) (sub : List Fd) (v : Int) : hasF (.mk kind fr to nul tag df of sub) v = (decide (fr ≤ v) && (decide (to < 0) || decide (v ≤ to))) := rfl
theorem nullF_eq (kind fr to nul tag df of : Int) (sub : List Fd) (v n : Int) (s : List UInt8) (nl : Bool) (l : List T) (u : List Tg) : nullF (.mk kind fr to nul tag df of sub) v (.mk n s nl l u) = (nl && (decide (0 ≤ nul) && decide (nul ≤ v))) := rfl
theorem has_does {F : Nat → Prop} {w : World} {c : List Value} {f : Fd} (hf : FdC w F c f) (v : Int) : Does X.P 38 #[.agg c.toArray, .int .i64 v] w fun r w' => r = .bool (hasF f v) ∧ Ext nob w w' := by
  cases hf
  rename_i kind fr to nul tag df of sub sv ls hl hlen hr
  refine Does.go (X := X) (l := [_, _]) Tryz.func38 rfl (by kernel_rfl) (by kernel_rfl) _ rfl ?_
  ((conv=>whnf);repeat((first|refine mvT ?_|refine mvF ?_|refine yT ?_|refine yF ?_);conv=>whnf))
  intro b w1 hb ho hx
  ((conv=>whnf);repeat((first|refine mvT ?_|refine mvF ?_|refine yT ?_|refine yF ?_);conv=>whnf))
  refine ldS (ho.cell rfl) ?_;((conv=>whnf);repeat((first|refine mvT ?_|refine mvF ?_|refine yT ?_|refine yF ?_);conv=>whnf))
  intro c1 h1
  cases c1
  · ((conv=>whnf);repeat((first|refine mvT ?_|refine mvF ?_|refine yT ?_|refine yF ?_);conv=>whnf))
    exact ⟨by rw [hasF_eq, h1]; rfl, hx⟩
  · ((conv=>whnf);repeat((first|refine mvT ?_|refine mvF ?_|refine yT ?_|refine yF ?_);conv=>whnf))
    refine ldS (ho.cell rfl) ?_;((conv=>whnf);repeat((first|refine mvT ?_|refine mvF ?_|refine yT ?_|refine yF ?_);conv=>whnf))
    intro c2 h2
    cases c2
    · ((conv=>whnf);repeat((first|refine mvT ?_|refine mvF ?_|refine yT ?_|refine yF ?_);conv=>whnf))
      refine ldS (ho.cell rfl) ?_;((conv=>whnf);repeat((first|refine mvT ?_|refine mvF ?_|refine yT ?_|refine yF ?_);conv=>whnf))
      exact ⟨by rw [hasF_eq, h1, h2]; rfl, hx⟩
    · ((conv=>whnf);repeat((first|refine mvT ?_|refine mvF ?_|refine yT ?_|refine yF ?_);conv=>whnf))
      exact ⟨by rw [hasF_eq, h1, h2]; rfl, hx⟩
theorem null_does {F G : Nat → Prop} {w : World} {c : List Value} {f : Fd} {x : Value} {t : T} (hf : FdC w F c f) (ht : Tr w G x t) (v : Int) : Does X.P 78 #[.agg c.toArray, .int .i64 v, x] w fun r w' => r = .bool (nullF f v t) ∧ Ext nob w w' := by
  cases hf
  rename_i kind fr to nul tag df of sub sv ls hl hlen hr
  obtain ⟨ct, rfl, ht⟩ := ht
  cases ht
  rename_i n s nl l u sv' lv uv ls' hn hs' hl' hlen' hr' hu
  refine Does.go (X := X) (l := [_, _, _]) Tryz.func78 rfl (by kernel_rfl) (by kernel_rfl) _ rfl ?_
  ((conv=>whnf);repeat((first|refine mvT ?_|refine mvF ?_|refine yT ?_|refine yF ?_);conv=>whnf))
  intro b w1 hb ho hx
  ((conv=>whnf);repeat((first|refine mvT ?_|refine mvF ?_|refine yT ?_|refine yF ?_);conv=>whnf))
  intro b2 w2 hb2 ho2 hx2
  ((conv=>whnf);repeat((first|refine mvT ?_|refine mvF ?_|refine yT ?_|refine yF ?_);conv=>whnf))
  have ho := ho.e0 hx2
  have hx := hx.e0 hx2
  refine ldS (ho2.cell rfl) ?_;((conv=>whnf);repeat((first|refine mvT ?_|refine mvF ?_|refine yT ?_|refine yF ?_);conv=>whnf))
  intro c1 h1
  cases c1
  · ((conv=>whnf);repeat((first|refine mvT ?_|refine mvF ?_|refine yT ?_|refine yF ?_);conv=>whnf))
    exact ⟨by rw [nullF_eq, h1]; rfl, hx⟩
  · ((conv=>whnf);repeat((first|refine mvT ?_|refine mvF ?_|refine yT ?_|refine yF ?_);conv=>whnf))
    refine ldS (ho.cell rfl) ?_;((conv=>whnf);repeat((first|refine mvT ?_|refine mvF ?_|refine yT ?_|refine yF ?_);conv=>whnf))
    intro c2 h2
    cases c2
    · ((conv=>whnf);repeat((first|refine mvT ?_|refine mvF ?_|refine yT ?_|refine yF ?_);conv=>whnf))
      exact ⟨by rw [nullF_eq, h1, h2]; rfl, hx⟩
    · ((conv=>whnf);repeat((first|refine mvT ?_|refine mvF ?_|refine yT ?_|refine yF ?_);conv=>whnf))
      refine ldS (ho.cell rfl) ?_;((conv=>whnf);repeat((first|refine mvT ?_|refine mvF ?_|refine yT ?_|refine yF ?_);conv=>whnf))
      exact ⟨by rw [nullF_eq, h1, h2]; rfl, hx⟩
theorem whole_does {F : Nat → Prop} {w : World} {x : Value} {l : List UInt8} (h : Bytes w F x l) : Does X.P 44 #[x] w fun r w' => Bytes w' F r (l.take most) ∧ w' = w := by
  have h0 := h
  obtain ⟨a, c, rfl, ⟨hc, hm⟩, hl, ha⟩ := h
  refine Does.go (X := X) (l := [_]) Tryz.func44 rfl (by kernel_rfl) (by kernel_rfl) _ rfl ?_
  ((conv=>whnf);repeat((first|refine mvT ?_|refine mvF ?_|refine yT ?_|refine yF ?_);conv=>whnf))
  obtain ⟨p1, p2, p3, p4⟩ := cut_hi (sz := 1) h0 rfl (min_most l.length) (Nat.min_le_right _ _)
  refine ⟨p1, p2, p3, fun r hr => ?_⟩
  obtain ⟨a', rfl, ha'⟩ := p4 r hr
  clear p1 p2 p3 p4 hr
  ((conv=>whnf);repeat((first|refine mvT ?_|refine mvF ?_|refine yT ?_|refine yF ?_);conv=>whnf))
  refine ⟨?_, rfl⟩
  show Sl w F 1 _ _ _
  rw [Nat.mul_one, ← List.map_take, take_most] at ha'
  have e : min 32767 l.length = (l.take most).length := by rw [List.length_take]; rfl
  rw [e] at ha' ⊢
  exact ha'
theorem things_does {F : Nat → Prop} {w : World} {x : Value} {ls : List (List Value)} (h : SlE w F 5 x ls) : Does X.P 79 #[x] w fun r w' => SlE w' F 5 r (ls.take most) ∧ w' = w := by
  have h0 := h
  obtain ⟨⟨a, c, rfl, ⟨hc, hm⟩, hl, ha⟩, hu⟩ := h
  refine Does.go (X := X) (l := [_]) Tryz.func79 rfl (by kernel_rfl) (by kernel_rfl) _ rfl ?_
  ((conv=>whnf);repeat((first|refine mvT ?_|refine mvF ?_|refine yT ?_|refine yF ?_);conv=>whnf))
  obtain ⟨p1, p2, p3, p4⟩ := cut_hi (sz := 5) h0.1 rfl (min_most ls.length) (Nat.min_le_right _ _)
  refine ⟨p1, p2, p3, fun r hr => ?_⟩
  obtain ⟨a', rfl, ha'⟩ := p4 r hr
  clear p1 p2 p3 p4 hr
  ((conv=>whnf);repeat((first|refine mvT ?_|refine mvF ?_|refine yT ?_|refine yF ?_);conv=>whnf))
  refine ⟨⟨?_, fun c hc => hu c (List.mem_of_mem_take hc)⟩, rfl⟩
  rw [flatten_take 5 ls _ hu, take_most] at ha'
  have e : min 32767 ls.length = (ls.take most).length := by rw [List.length_take]; rfl
  rw [e] at ha' ⊢
  exact ha'
theorem at_does {F : Nat → Prop} {w : World} {x : Value} {t : T} (ht : Tr w F x t) (i : Nat) : Does X.P 23 #[x, .int .i64 i] w fun r w' => Tr w' F r (atT t i) ∧ Ext nob w w' := by
  obtain ⟨ct, rfl, ht⟩ := ht
  cases ht
  rename_i n s nl l u sv lv uv ls hn hs hl hlen hr hu
  obtain ⟨a, c, rfl, hc, hm, hF, hS, hC⟩ := hl.view
  refine Does.go (X := X) (l := [_, _]) Tryz.func23 rfl (by kernel_rfl) (by kernel_rfl) _ rfl ?_
  ((conv=>whnf);repeat((first|refine mvT ?_|refine mvF ?_|refine yT ?_|refine yF ?_);conv=>whnf))
  intro b1 w1 hb1 ho1 hx1
  ((conv=>whnf);repeat((first|refine mvT ?_|refine mvF ?_|refine yT ?_|refine yF ?_);conv=>whnf))
  intro b2 w2 hb2 ho2 hx2
  ((conv=>whnf);repeat((first|refine mvT ?_|refine mvF ?_|refine yT ?_|refine yF ?_);conv=>whnf))
  have ho1 := ho1.e0 hx2
  have hx := hx1.e0 hx2
  refine ldS (ho1.cell rfl) ?_;((conv=>whnf);repeat((first|refine mvT ?_|refine mvF ?_|refine yT ?_|refine yF ?_);conv=>whnf))
  refine cI (by rfl) (fun h1=>?_) (fun h1=>?_)
  · have hi : i < ls.length := by have := of_decide_eq_true h1; omega
    ((conv=>whnf);repeat((first|refine mvT ?_|refine mvF ?_|refine yT ?_|refine yF ?_);conv=>whnf))
    refine ldS (ho1.cell rfl) ?_;((conv=>whnf);repeat((first|refine mvT ?_|refine mvF ?_|refine yT ?_|refine yF ?_);conv=>whnf))
    have hil : i < l.length := by omega
    have ht := hr i ls[i] l[i] (by simp [hi]) (by simp [hil])
    have hat : atT (.mk n s nl l u) i = l[i] := by simp [atT, T.l, hil]
    obtain ⟨b, o, rfl, hcc⟩ := hC i ls[i] (by simp [hi])
    refine ⟨b, o, rfl, ⟨by omega, by omega⟩, ?_⟩
    ((conv=>whnf);repeat((first|refine mvT ?_|refine mvF ?_|refine yT ?_|refine yF ?_);conv=>whnf))
    refine ⟨ls[i], ht.len, hcc.e0 hx, ?_⟩
    ((conv=>whnf);repeat((first|refine mvT ?_|refine mvF ?_|refine yT ?_|refine yF ?_);conv=>whnf))
    refine st_all ls[i] ho2 ht.len rfl ht.ok ?_
    intro w3 ho3 hx3
    ((conv=>whnf);repeat((first|refine mvT ?_|refine mvF ?_|refine yT ?_|refine yF ?_);conv=>whnf))
    refine ⟨ls[i], ht.len, ho3.cells, ?_⟩
    rw [hat]
    have hx' := hx.st hx3 (by have := hx1.size; omega)
    exact ⟨⟨_, rfl, ht.e0 hx'⟩, hx'⟩
  · have hi : ¬ i < l.length := by have := of_decide_eq_false h1; omega
    have hat : atT (.mk n s nl l u) i = T.zero := by simp [atT, T.l, List.getElem?_eq_none (Nat.le_of_not_lt hi)]
    ((conv=>whnf);repeat((first|refine mvT ?_|refine mvF ?_|refine yT ?_|refine yF ?_);conv=>whnf))
    refine st_all [.int .i64 0, .slice none 0 0, .bool false, .slice none 0 0, .slice none 0 0] ho2 rfl rfl rfl ?_
    intro w3 ho3 hx3
    ((conv=>whnf);repeat((first|refine mvT ?_|refine mvF ?_|refine yT ?_|refine yF ?_);conv=>whnf))
    refine ⟨_, rfl, ho3.cells, ?_⟩
    rw [hat]
    exact ⟨⟨_, rfl, TrC.zero _ _⟩, hx.st hx3 (by have := hx1.size; omega)⟩
end Go.Proofs.YtepamajphjgigaaGreatDoor.K
