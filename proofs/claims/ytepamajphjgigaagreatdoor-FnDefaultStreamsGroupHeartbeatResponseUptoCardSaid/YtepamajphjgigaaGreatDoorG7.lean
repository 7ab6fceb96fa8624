/- What is written of values, fields and parts. -/
import Derived.Test.YtepamajphjgigaaGreatDoorG6
set_option linter.unusedVariables false
set_option linter.unusedSimpArgs false
namespace Go.Proofs.YtepamajphjgigaaGreatDoor.K
open Go
set_option maxHeartbeats 800000

def PartC (d : Nat) : Prop := ∀ {F G : Nat → Prop} {w : World} {y x : Value} {fs : List Fd} {t : T} {v : Int} {flex : Bool}, FdsR w F y fs → Tr w G x t → (∀ f, f ∈ fs → okF d f = true) → fs.length ≤ 1000 → (partB d v flex fs t).length ≤ 105000000000000 →
  Does X.P 22 #[y, .int .i64 v, .bool flex, x] w fun r w' => OB w' w.heap.size r (partB d v flex fs t) ∧ Ext nob w w'
def FieldC (d : Nat) : Prop := ∀ {F G : Nat → Prop} {w : World} {c : List Value} {x : Value} {f : Fd} {t : T} {v : Int} {flex : Bool}, FdC w F c f → Tr w G x t → okF d f = true → (fieldB d v flex f t).length ≤ 105000000000000 →
  Does X.P 39 #[.agg c.toArray, .int .i64 v, .bool flex, x] w fun r w' => OB w' w.heap.size r (fieldB d v flex f t) ∧ Ext nob w w'
theorem counted_length (flex null : Bool) (n k : Nat) (hn : n < 2 ^ 62) (hk : k ≤ 8) : (countedB flex null n k).length ≤ 10 := by
  have := uvar_length (n + 1)
  unfold countedB
  split
  · split
    · simp
    · omega
  · split <;> rw [fixed_length] <;> omega
/-- Counted octets. -/
theorem OB.own1 {w : World} {b : Nat} {l : List UInt8} (h : Own w b U8 (l.map bcell)) {n : Nat} (hn : n = l.length) (hm : n ≤ maxLen) {B : Nat} (hB : B ≤ b) : OB w B (.slice (some ⟨b, 0, none⟩) n n) l := by
  subst hn
  refine ⟨?_, fun k hk => ?_⟩
  · have := OwnSl.of_own (sz := 1) (n := l.length) (cap := l.length) h (Nat.le_refl _) hm (by simp)
    rw [Nat.mul_one, List.take_of_length_le (by simp)] at this
    exact this
  · simp only [Value.ownBlock, Option.some.injEq] at hk
    omega
theorem uuid_cells (s : List UInt8) : splice ((List.replicate 16 [Value.int IntKind.u8 0]).flatten) 0 ((s.map bcell).take (Nat.min s.length 16 * 1)) = (uuidB s).map bcell := by
  have e1 : (List.replicate 16 [Value.int IntKind.u8 0]).flatten = (List.replicate 16 (0 : UInt8)).map bcell := rfl
  rw [e1, Nat.mul_one]
  simp only [splice, List.take_zero, List.nil_append, Nat.zero_add]
  unfold uuidB
  rw [← List.map_take, List.length_map, List.length_take, ← List.map_drop, ← List.map_append]
  congr 1
  rcases Nat.le_total s.length 16 with h | h
  · rw [show Nat.min s.length 16 = s.length from Nat.min_eq_left h, Nat.min_self, List.take_of_length_le (Nat.le_refl _)]
    rw [List.take_append, List.take_of_length_le h, List.take_replicate, List.drop_replicate]
    congr 2
    omega
  · rw [show Nat.min s.length 16 = 16 from Nat.min_eq_right h, Nat.min_eq_left h]
    rw [List.take_append, show 16 - s.length = 0 by omega]
    simp
theorem value_does {d : Nat} (hp : PartC d) {F G : Nat → Prop} {w : World} {y x : Value} {sub : List Fd} {t : T} {kind v : Int} {null flex : Bool} (hf : FdsR w F y sub) (ht : Tr w G x t) (hk : 0 ≤ kind ∧ kind ≤ 10) (hsub : ∀ f, f ∈ sub → okF d f = true) (hsl : sub.length ≤ 1000)
    (hlen : (valueW (fun sub t => partB d v flex sub t) kind sub null flex t).length ≤ 105000000000000) :
    Does X.P 81 #[.int .i64 kind, y, .bool null, .int .i64 v, .bool flex, x] w fun r w' => OB w' w.heap.size r (valueW (fun sub t => partB d v flex sub t) kind sub null flex t) ∧ Ext nob w w' := by
  obtain ⟨ct, rfl, ht⟩ := ht
  have ht0 := ht
  cases ht
  rename_i n s nl l u sv' lv uv ls' hn hs' hl' hlen' hr' hu
  refine Does.go (X := X) (l := [_, _, _, _, _, _]) Tryz.func81 rfl (by kernel_rfl) (by kernel_rfl) _ rfl ?_
  ((conv=>whnf);repeat((first|refine mvT ?_|refine mvF ?_|refine yT ?_|refine yF ?_);conv=>whnf))
  intro b w1 hb ho hx
  ((conv=>whnf);repeat((first|refine mvT ?_|refine mvF ?_|refine yT ?_|refine yF ?_);conv=>whnf))
  have hmost := take_most_length s
  rcases kinds kind ⟨hk.1, by omega⟩ with rfl | rfl | rfl | rfl | rfl | rfl | hk
  · ((conv=>whnf);repeat((first|refine mvT ?_|refine mvF ?_|refine yT ?_|refine yF ?_);conv=>whnf))
    refine ldS (ho.cell rfl) ?_;((conv=>whnf);repeat((first|refine mvT ?_|refine mvF ?_|refine yT ?_|refine yF ?_);conv=>whnf))
    intro b2 w2 hb2 ho2 hx2
    rw [and1, wrap_u8] at ho2
    ((conv=>whnf);repeat((first|refine mvT ?_|refine mvF ?_|refine yT ?_|refine yF ?_);conv=>whnf))
    refine ⟨?_, hx.e0 hx2⟩
    exact OB.own1 (l := [b8 (n % 2)]) ho2 rfl (by rw [maxLen_eq]; show 1 ≤ _; omega) (by have := hx.size; omega)
  · ((conv=>whnf);repeat((first|refine mvT ?_|refine mvF ?_|refine yT ?_|refine yF ?_);conv=>whnf))
    refine ⟨⟨by omega, by omega, by omega, by decide⟩, ⟨by decide, rfl⟩, ?_⟩
    intro b2 w2 hb2 ho2 hx2
    ((conv=>whnf);repeat((first|refine mvT ?_|refine mvF ?_|refine yT ?_|refine yF ?_);conv=>whnf))
    refine ldS ((ho.e0 hx2).cell rfl) ?_;((conv=>whnf);repeat((first|refine mvT ?_|refine mvF ?_|refine yT ?_|refine yF ?_);conv=>whnf))
    refine ⟨_, _, _, _, ho2, ((hs'.e0 hx).e0 hx2).src, okCells_bytes s, by decide, ?_⟩
    intro w3 ho3 hx3
    ((conv=>whnf);repeat((first|refine mvT ?_|refine mvF ?_|refine yT ?_|refine yF ?_);conv=>whnf))
    have ho3 : Own w3 b2 U8 ((uuidB s).map bcell) := by
      rw [← uuid_cells]
      exact ho3
    refine ⟨?_, (hx.e0 hx2).st hx3 (by have := hx.size; omega)⟩
    exact OB.own1 ho3 (by simp [uuidB]) (by rw [maxLen_eq]; decide) (by have := hx.size; omega)
  · cases null
    · have hlen : (countedB flex false (s.take most).length 2 ++ s.take most).length ≤ 105000000000000 := hlen
      ((conv=>whnf);repeat((first|refine mvT ?_|refine mvF ?_|refine yT ?_|refine yF ?_);conv=>whnf))
      refine ldS (ho.cell rfl) ?_;((conv=>whnf);repeat((first|refine mvT ?_|refine mvF ?_|refine yT ?_|refine yF ?_);conv=>whnf))
      refine Does.mono (whole_does (hs'.e0 hx)) ?_;rintro r2 w2 ⟨hr2, rfl⟩;((conv=>whnf);repeat((first|refine mvT ?_|refine mvF ?_|refine yT ?_|refine yF ?_);conv=>whnf))
      obtain ⟨a2, c2, rfl, hc2, hm2, _⟩ := hr2.view
      ((conv=>whnf);repeat((first|refine mvT ?_|refine mvF ?_|refine yT ?_|refine yF ?_);conv=>whnf))
      (refine mvB ?_;((conv=>whnf);repeat((first|refine mvT ?_|refine mvF ?_|refine yT ?_|refine yF ?_);conv=>whnf)))
      refine Does.mono (counted_does flex false (s.take most).length 2 (by omega) (by omega) _) ?_;rintro r3 w3 ⟨hr3, hx3⟩;((conv=>whnf);repeat((first|refine mvT ?_|refine mvF ?_|refine yT ?_|refine yF ?_);conv=>whnf))
      refine app_bytes rfl rfl hr3 (hr2.e0 hx3).src rfl (by rw [List.length_append] at hlen; omega) hx3.size ?_
      intro r4 w4 hr4 hx4 _ _
      ((conv=>whnf);repeat((first|refine mvT ?_|refine mvF ?_|refine yT ?_|refine yF ?_);conv=>whnf))
      exact ⟨hr4.mono hx.size, (hx.e0 hx3).own hx4 hr3.blk hx.size⟩
    · have hcl := counted_length flex true 0 2 (by omega) (by omega)
      ((conv=>whnf);repeat((first|refine mvT ?_|refine mvF ?_|refine yT ?_|refine yF ?_);conv=>whnf))
      refine ldS (ho.cell rfl) ?_;((conv=>whnf);repeat((first|refine mvT ?_|refine mvF ?_|refine yT ?_|refine yF ?_);conv=>whnf))
      refine Does.mono (whole_does (hs'.e0 hx)) ?_;rintro r2 w2 ⟨hr2, rfl⟩;((conv=>whnf);repeat((first|refine mvT ?_|refine mvF ?_|refine yT ?_|refine yF ?_);conv=>whnf))
      (refine mvB ?_;((conv=>whnf);repeat((first|refine mvT ?_|refine mvF ?_|refine yT ?_|refine yF ?_);conv=>whnf)))
      refine Does.mono (counted_does flex true 0 2 (by omega) (by omega) _) ?_;rintro r3 w3 ⟨hr3, hx3⟩;((conv=>whnf);repeat((first|refine mvT ?_|refine mvF ?_|refine yT ?_|refine yF ?_);conv=>whnf))
      refine app_bytes (m := []) rfl rfl hr3 (Src.empty none 0) rfl (by simp only [List.length_nil]; omega) hx3.size ?_
      intro r4 w4 hr4 hx4 _ _
      ((conv=>whnf);repeat((first|refine mvT ?_|refine mvF ?_|refine yT ?_|refine yF ?_);conv=>whnf))
      exact ⟨hr4.mono hx.size, (hx.e0 hx3).own hx4 hr3.blk hx.size⟩
  · cases null
    · have hlen : (countedB flex false (s.take most).length 4 ++ s.take most).length ≤ 105000000000000 := hlen
      ((conv=>whnf);repeat((first|refine mvT ?_|refine mvF ?_|refine yT ?_|refine yF ?_);conv=>whnf))
      refine ldS (ho.cell rfl) ?_;((conv=>whnf);repeat((first|refine mvT ?_|refine mvF ?_|refine yT ?_|refine yF ?_);conv=>whnf))
      refine Does.mono (whole_does (hs'.e0 hx)) ?_;rintro r2 w2 ⟨hr2, rfl⟩;((conv=>whnf);repeat((first|refine mvT ?_|refine mvF ?_|refine yT ?_|refine yF ?_);conv=>whnf))
      obtain ⟨a2, c2, rfl, hc2, hm2, _⟩ := hr2.view
      ((conv=>whnf);repeat((first|refine mvT ?_|refine mvF ?_|refine yT ?_|refine yF ?_);conv=>whnf))
      (refine mvB ?_;((conv=>whnf);repeat((first|refine mvT ?_|refine mvF ?_|refine yT ?_|refine yF ?_);conv=>whnf)))
      refine Does.mono (counted_does flex false (s.take most).length 4 (by omega) (by omega) _) ?_;rintro r3 w3 ⟨hr3, hx3⟩;((conv=>whnf);repeat((first|refine mvT ?_|refine mvF ?_|refine yT ?_|refine yF ?_);conv=>whnf))
      refine app_bytes rfl rfl hr3 (hr2.e0 hx3).src rfl (by rw [List.length_append] at hlen; omega) hx3.size ?_
      intro r4 w4 hr4 hx4 _ _
      ((conv=>whnf);repeat((first|refine mvT ?_|refine mvF ?_|refine yT ?_|refine yF ?_);conv=>whnf))
      exact ⟨hr4.mono hx.size, (hx.e0 hx3).own hx4 hr3.blk hx.size⟩
    · have hcl := counted_length flex true 0 4 (by omega) (by omega)
      ((conv=>whnf);repeat((first|refine mvT ?_|refine mvF ?_|refine yT ?_|refine yF ?_);conv=>whnf))
      refine ldS (ho.cell rfl) ?_;((conv=>whnf);repeat((first|refine mvT ?_|refine mvF ?_|refine yT ?_|refine yF ?_);conv=>whnf))
      refine Does.mono (whole_does (hs'.e0 hx)) ?_;rintro r2 w2 ⟨hr2, rfl⟩;((conv=>whnf);repeat((first|refine mvT ?_|refine mvF ?_|refine yT ?_|refine yF ?_);conv=>whnf))
      (refine mvB ?_;((conv=>whnf);repeat((first|refine mvT ?_|refine mvF ?_|refine yT ?_|refine yF ?_);conv=>whnf)))
      refine Does.mono (counted_does flex true 0 4 (by omega) (by omega) _) ?_;rintro r3 w3 ⟨hr3, hx3⟩;((conv=>whnf);repeat((first|refine mvT ?_|refine mvF ?_|refine yT ?_|refine yF ?_);conv=>whnf))
      refine app_bytes (m := []) rfl rfl hr3 (Src.empty none 0) rfl (by simp only [List.length_nil]; omega) hx3.size ?_
      intro r4 w4 hr4 hx4 _ _
      ((conv=>whnf);repeat((first|refine mvT ?_|refine mvF ?_|refine yT ?_|refine yF ?_);conv=>whnf))
      exact ⟨hr4.mono hx.size, (hx.e0 hx3).own hx4 hr3.blk hx.size⟩
  · omega
  · have hlen : (partB d v flex sub (.mk n s nl l u)).length ≤ 105000000000000 := hlen
    ((conv=>whnf);repeat((first|refine mvT ?_|refine mvF ?_|refine yT ?_|refine yF ?_);conv=>whnf))
    (refine mvB ?_;((conv=>whnf);repeat((first|refine mvT ?_|refine mvF ?_|refine yT ?_|refine yF ?_);conv=>whnf)))
    refine ⟨_, rfl, ho.cells, ?_⟩
    ((conv=>whnf);repeat((first|refine mvT ?_|refine mvF ?_|refine yT ?_|refine yF ?_);conv=>whnf))
    refine Does.mono (hp (G := G) (hf.e0 hx) ⟨_, rfl, ht0.e0 hx⟩ hsub hsl hlen) ?_;rintro r2 w2 ⟨hr2, hx2⟩;((conv=>whnf);repeat((first|refine mvT ?_|refine mvF ?_|refine yT ?_|refine yF ?_);conv=>whnf))
    exact ⟨hr2.mono hx.size, hx.e0 hx2⟩
  · have hkb : ∀ j : Int, j = 0 ∨ j = 7 ∨ j = 8 ∨ j = 9 ∨ j = 10 → kind ≠ j := by omega
    have hus : valueW (fun sub t => partB d v flex sub t) kind sub null flex (.mk n s nl l u) = fixed n (widthK kind) := by
      rw [valueW, if_neg (hkb 0 (by omega)), if_neg (hkb 7 (by omega)), if_neg (hkb 8 (by omega)), if_neg (hkb 9 (by omega)), if_neg (hkb 10 (by omega))]
      rfl
    rw [hus]
    clear hus hkb hlen
    rcases hk with rfl | rfl | rfl | rfl | rfl | rfl
    all_goals
      have hx := hx.e0 (ext_drew _)
      have hod := ho.e0 (ext_drew _)
      ((conv=>whnf);repeat((first|refine mvT ?_|refine mvF ?_|refine yT ?_|refine yF ?_);conv=>whnf))
      refine VD.draw mixed (.q 0 (.q 1 (.q 2 (.eff 3 [1] (.eff 4 [] (.eff 5 [] (.done))))))) (by kernel_rfl) ?_;((conv=>whnf);repeat((first|refine mvT ?_|refine mvF ?_|refine yT ?_|refine yF ?_);conv=>whnf))
      refine ldS (hod.cell rfl) ?_;((conv=>whnf);repeat((first|refine mvT ?_|refine mvF ?_|refine yT ?_|refine yF ?_);conv=>whnf))
      refine Does.mono (width_nat _ _) ?_
      rintro r3 w3 ⟨rfl, hx3⟩
      refine ⟨by (conv => whnf); exact ⟨⟨_, (hod.e0 hx3).cell rfl, rfl, rfl⟩, trivial⟩, ?_⟩
      ((conv=>whnf);repeat((first|refine mvT ?_|refine mvF ?_|refine yT ?_|refine yF ?_);conv=>whnf))
      refine Does.mono (Fixed_does _ _ (widthK_le _) _) ?_
      rintro r4 w4 ⟨hr4, hx4⟩
      have hx34 := hx3.e0 hx4
      ((conv=>whnf);repeat((first|refine mvT ?_|refine mvF ?_|refine yT ?_|refine yF ?_);conv=>whnf))
      exact ⟨hr4.mono (hx.e0 hx3).size, hx.e0 hx34⟩
end Go.Proofs.YtepamajphjgigaaGreatDoor.K
