/- Counts; whether a field is as by default. -/
import Derived.Test.YtepamajphjgigaaGreatDoorG5
import Derived.Test.YtepamajphjgigaaGreatDoorT1
set_option linter.unusedVariables false
set_option linter.unusedSimpArgs false
namespace Go.Proofs.YtepamajphjgigaaGreatDoor.K
open Go
set_option maxHeartbeats 800000

theorem counted_does (flex null : Bool) (n k : Nat) (hn : n < 2 ^ 62) (hk : k ≤ 8) (w : World) : Does X.P 80 #[.bool flex, .bool null, .int .i64 n, .int .i64 k] w fun v w' => OB w' w.heap.size v (countedB flex null n k) ∧ Ext nob w w' := by
  have hu : IntKind.u64.wrap (IntKind.u64.wrap (n : Int) + 1) = ((n + 1 : Nat) : Int) := by
    rw [u64_of (by omega), show (n : Int) + 1 = ((n + 1 : Nat) : Int) from rfl, u64_of (by omega)]
  cases flex <;> cases null
  · refine Does.go (X := X) (l := [_, _, _, _]) Tryz.func80 rfl (by kernel_rfl) (by kernel_rfl) _ rfl ?_
    ((conv=>whnf);repeat((first|refine mvT ?_|refine mvF ?_|refine yT ?_|refine yF ?_);conv=>whnf))
    refine Does.mono (Fixed_does n k hk w) ?_;rintro r w1 ⟨h1, h2⟩;((conv=>whnf);repeat((first|refine mvT ?_|refine mvF ?_|refine yT ?_|refine yF ?_);conv=>whnf))
    exact ⟨h1, h2⟩
  · refine Does.go (X := X) (l := [_, _, _, _]) Tryz.func80 rfl (by kernel_rfl) (by kernel_rfl) _ rfl ?_
    ((conv=>whnf);repeat((first|refine mvT ?_|refine mvF ?_|refine yT ?_|refine yF ?_);conv=>whnf))
    refine Does.mono (Fixed_does (-1) k hk w) ?_;rintro r w1 ⟨h1, h2⟩;((conv=>whnf);repeat((first|refine mvT ?_|refine mvF ?_|refine yT ?_|refine yF ?_);conv=>whnf))
    exact ⟨h1, h2⟩
  · refine Does.go (X := X) (l := [_, _, _, _]) Tryz.func80 rfl (by kernel_rfl) (by kernel_rfl) _ rfl ?_
    ((conv=>whnf);repeat((first|refine mvT ?_|refine mvF ?_|refine yT ?_|refine yF ?_);conv=>whnf))
    rw [hu]
    refine Does.mono (Uvarint_does (n + 1) (by omega) w) ?_;rintro r w1 ⟨h1, h2⟩;((conv=>whnf);repeat((first|refine mvT ?_|refine mvF ?_|refine yT ?_|refine yF ?_);conv=>whnf))
    exact ⟨h1, h2⟩
  · refine Does.go (X := X) (l := [_, _, _, _]) Tryz.func80 rfl (by kernel_rfl) (by kernel_rfl) _ rfl ?_
    ((conv=>whnf);repeat((first|refine mvT ?_|refine mvF ?_|refine yT ?_|refine yF ?_);conv=>whnf))
    intro b w1 hb ho hx
    ((conv=>whnf);repeat((first|refine mvT ?_|refine mvF ?_|refine yT ?_|refine yF ?_);conv=>whnf))
    refine ⟨⟨?_, ?_⟩, hx⟩
    · have := OwnSl.of_own (sz := 1) (n := 1) (cap := 1) ho (Nat.le_refl _) (by rw [maxLen_eq]; omega) rfl
      exact this
    · intro k hk
      simp only [oneOr, Value.ownBlock, Option.some.injEq] at hk
      omega
theorem and1 (n : Int) : IntKind.i64.wrap ((BitVec.ofInt IntKind.i64.bits n &&& BitVec.ofInt IntKind.i64.bits 1).toNat : Int) = n % 2 := by
  rw [show IntKind.i64.bits = 64 from rfl, BitVec.toNat_and, BitVec.toNat_ofInt, show (1 : Int) = ((1 : Nat) : Int) from rfl, bv_ofInt_nat]
  rw [show (1 : Nat) % 2 ^ 64 = 2 ^ 1 - 1 from rfl, Nat.and_two_pow_sub_one_eq_mod]
  rw [i64_of (by omega) (by omega)]
  omega
theorem okF_parts {d : Nat} {kind fr to nul tag df of : Int} {sub : List Fd} (h : okF (d + 1) (.mk kind fr to nul tag df of sub) = true) : (-1 ≤ tag ∧ tag ≤ 1000000) ∧ (0 ≤ kind ∧ kind ≤ 11) ∧ (0 ≤ of ∧ of ≤ 10) ∧ sub.length ≤ 1000 ∧ ∀ f, f ∈ sub → okF d f = true := by
  simp only [okF, Bool.and_eq_true, decide_eq_true_eq, Fd.tag, Fd.kind, Fd.of, Fd.sub, List.all_eq_true] at h
  obtain ⟨⟨⟨⟨h1, h2⟩, h3⟩, h4⟩, h5⟩ := h
  exact ⟨⟨of_decide_eq_true h1.1, of_decide_eq_true h1.2⟩, ⟨of_decide_eq_true h2.1, of_decide_eq_true h2.2⟩, ⟨of_decide_eq_true h3.1, of_decide_eq_true h3.2⟩, of_decide_eq_true h4, h5⟩
theorem okF_tag : ∀ {d : Nat} {f : Fd}, okF d f = true → f.tag ≤ 1000000
  | 0, f, h => by simp [okF] at h
  | d + 1, .mk kind fr to nul tag df of sub, h => (okF_parts h).1.2
theorem widthK_le (k : Int) : widthK k ≤ 8 := by
  unfold widthK
  split
  · omega
  · split
    · omega
    · split <;> omega
theorem width_nat (k : Int) (w : World) : Does X.P 84 #[.int .i64 k] w fun v w' => v = .int .i64 (widthK k : Nat) ∧ Ext nob w w' :=
  (width_does k w).mono fun v w' ⟨h1, h2⟩ => ⟨by
    rw [h1]
    unfold widthK
    split
    · rfl
    · split
      · rfl
      · split <;> rfl, h2⟩
theorem usualB_num (d : Nat) (f : Fd) (t : T) (h : ∀ j : Int, j = 0 ∨ j = 7 ∨ j = 8 ∨ j = 9 ∨ j = 11 ∨ j = 10 → f.kind ≠ j) : usualB (d + 1) f t = decide (fixed t.n (widthK f.kind) = fixed f.df (widthK f.kind)) := by
  have h8 := h 8 (by omega)
  have h9 := h 9 (by omega)
  rw [usualB, if_neg (h 0 (by omega)), if_neg (h 7 (by omega)), if_neg (by omega), if_neg (h 11 (by omega)), if_neg (h 10 (by omega))]
theorem len0 {α : Type} (l : List α) : ((l.length : Int) == 0) = l.isEmpty := by
  cases l with
  | nil => rfl
  | cons x r =>
    show _ = false
    rw [Bool.eq_false_iff]
    intro h
    have := eq_of_beq h
    simp only [List.length_cons] at this
    omega
theorem kinds (k : Int) (h : 0 ≤ k ∧ k ≤ 11) : k = 0 ∨ k = 7 ∨ k = 8 ∨ k = 9 ∨ k = 11 ∨ k = 10 ∨ k = 1 ∨ k = 2 ∨ k = 3 ∨ k = 4 ∨ k = 5 ∨ k = 6 := by omega
theorem usual_does (d : Nat) : ∀ {F G : Nat → Prop} {w : World} {c : List Value} {f : Fd} {x : Value} {t : T}, FdC w F c f → Tr w G x t → okF d f = true →
    Does X.P 41 #[.agg c.toArray, x] w fun r w' => r = .bool (usualB d f t) ∧ Ext nob w w' := by
  induction d with
  | zero => intro F G w c f x t hf ht hok; simp [okF] at hok
  | succ d ih =>
  intro F G w c f x t hf ht hok
  cases hf
  rename_i kind fr to nul tag df of sub sv ls hl hlen hr
  obtain ⟨ct, rfl, ht⟩ := ht
  have ht0 := ht
  cases ht
  rename_i n s nl l u sv' lv uv ls' hn hs' hl' hlen' hr' hu
  obtain ⟨ht1, hk, ho1, hsl, hsub⟩ := okF_parts hok
  refine Does.go (X := X) (l := [_, _]) Tryz.func41 rfl (by kernel_rfl) (by kernel_rfl) _ rfl ?_
  ((conv=>whnf);repeat((first|refine mvT ?_|refine mvF ?_|refine yT ?_|refine yF ?_);conv=>whnf))
  intro b w1 hb ho hx
  ((conv=>whnf);repeat((first|refine mvT ?_|refine mvF ?_|refine yT ?_|refine yF ?_);conv=>whnf))
  intro b2 w2 hb2 ho2 hx2
  ((conv=>whnf);repeat((first|refine mvT ?_|refine mvF ?_|refine yT ?_|refine yF ?_);conv=>whnf))
  have ho := ho.e0 hx2
  have hx := hx.e0 hx2
  refine ldS (ho.cell rfl) ?_
  rcases kinds kind hk with rfl | rfl | rfl | rfl | rfl | rfl | hk
  · ((conv=>whnf);repeat((first|refine mvT ?_|refine mvF ?_|refine yT ?_|refine yF ?_);conv=>whnf))
    refine ldS (ho2.cell rfl) ?_;((conv=>whnf);repeat((first|refine mvT ?_|refine mvF ?_|refine yT ?_|refine yF ?_);conv=>whnf))
    refine ldS (ho.cell rfl) ?_;((conv=>whnf);repeat((first|refine mvT ?_|refine mvF ?_|refine yT ?_|refine yF ?_);conv=>whnf))
    refine ⟨?_, hx⟩
    rw [and1]
    rfl
  · ((conv=>whnf);repeat((first|refine mvT ?_|refine mvF ?_|refine yT ?_|refine yF ?_);conv=>whnf))
    refine ldS (ho2.cell rfl) ?_;((conv=>whnf);repeat((first|refine mvT ?_|refine mvF ?_|refine yT ?_|refine yF ?_);conv=>whnf))
    obtain ⟨a, c, rfl, hc, hm, _, _, _, hC⟩ := hs'.view
    ((conv=>whnf);repeat((first|refine mvT ?_|refine mvF ?_|refine yT ?_|refine yF ?_);conv=>whnf))
    refine VL.loop (fun i : Nat => [(2, .pointer (some ⟨b, 0, none⟩)), (3, .pointer (some ⟨b2, 0, none⟩)), (22, .slice a s.length c), (23, .int .i64 s.length), (24, .int .i64 i)])
      (fun i w' => Ext nob w2 w' ∧ i ≤ s.length ∧ ∀ j, j < i → j < 16 → s[j]? = some 0) (fun i => s.length - i) 0 ⟨rfl, rfl, rfl, rfl, rfl, trivial⟩ ⟨Ext.refl _ _, Nat.zero_le _, fun j h => absurd h (Nat.not_lt_zero j)⟩ ?_
    rintro i w3 ⟨hx3, hi, hz⟩
    ((conv=>whnf);repeat((first|refine mvT ?_|refine mvF ?_|refine yT ?_|refine yF ?_);conv=>whnf))
    refine cI (by rfl) (fun h1=>?_) (fun h1=>?_)
    · have hil : i < s.length := by have := of_decide_eq_true h1; omega
      obtain ⟨y, hy⟩ : ∃ y, s[i]? = some y := ⟨s[i], by simp [hil]⟩
      obtain ⟨b4, o4, rfl, hc4⟩ := hC i y hy
      ((conv=>whnf);repeat((first|refine mvT ?_|refine mvF ?_|refine yT ?_|refine yF ?_);conv=>whnf))
      refine ⟨b4, o4, rfl, ⟨by omega, by omega⟩, ?_⟩
      ((conv=>whnf);repeat((first|refine mvT ?_|refine mvF ?_|refine yT ?_|refine yF ?_);conv=>whnf))
      refine ⟨_, ld ((hx.e0 hx3).cell hc4 id) (by simp), ?_⟩
      ((conv=>whnf);repeat((first|refine mvT ?_|refine mvF ?_|refine yT ?_|refine yF ?_);conv=>whnf))
      intro c2 h2
      cases c2
      · have h16 : ¬ i < 16 := by have := of_decide_eq_false h2; omega
        ((conv=>whnf);repeat((first|refine mvT ?_|refine mvF ?_|refine yT ?_|refine yF ?_);conv=>whnf))
        exact ⟨i + 1, ⟨rfl, rfl, rfl, rfl, inc_eq (by rw [maxLen_eq] at hm; omega), trivial⟩, ⟨hx3, by omega, fun j hj hj' => hz j (by omega) hj'⟩, by omega⟩
      · have h16 : i < 16 := by have := of_decide_eq_true h2; omega
        ((conv=>whnf);repeat((first|refine mvT ?_|refine mvF ?_|refine yT ?_|refine yF ?_);conv=>whnf))
        refine cI (by rfl) (fun h3=>?_) (fun h3=>?_)
        · have hne : y ≠ 0 := by
            rintro rfl
            simp at h3
          ((conv=>whnf);repeat((first|refine mvT ?_|refine mvF ?_|refine yT ?_|refine yF ?_);conv=>whnf))
          refine ⟨?_, hx.e0 hx3⟩
          have hall : (s.take 16).all (· == 0) = false := by
            rw [Bool.eq_false_iff]
            intro hall
            rw [List.all_eq_true] at hall
            have := hall y (List.mem_of_getElem? (i := i) (by rw [List.getElem?_take, if_pos h16]; exact hy))
            exact hne (by simpa using this)
          show Value.bool false = Value.bool ((s.take 16).all (· == 0))
          rw [hall]
        · have heq : y = 0 := by
            have : (y.toNat : Int) = 0 := by simpa using h3
            exact UInt8.toNat_inj.1 (by simp; omega)
          ((conv=>whnf);repeat((first|refine mvT ?_|refine mvF ?_|refine yT ?_|refine yF ?_);conv=>whnf))
          refine ⟨i + 1, ⟨rfl, rfl, rfl, rfl, inc_eq (by rw [maxLen_eq] at hm; omega), trivial⟩, ⟨hx3, by omega, fun j hj hj' => ?_⟩, by omega⟩
          rcases Nat.lt_or_ge j i with h | h
          · exact hz j h hj'
          · rw [show j = i by omega, hy, heq]
    · have hil : i = s.length := by have := of_decide_eq_false h1; omega
      ((conv=>whnf);repeat((first|refine mvT ?_|refine mvF ?_|refine yT ?_|refine yF ?_);conv=>whnf))
      refine ⟨?_, hx.e0 hx3⟩
      have hall : (s.take 16).all (· == 0) = true := by
        rw [List.all_eq_true]
        intro y hy
        obtain ⟨j, hj⟩ := List.mem_iff_getElem?.1 hy
        rw [List.getElem?_take] at hj
        split at hj
        · rename_i h16
          have hjl := (List.getElem?_eq_some_iff.1 hj).1
          rw [hz j (by omega) h16, Option.some.injEq] at hj
          rw [← hj]
          rfl
        · simp at hj
      show Value.bool true = Value.bool ((s.take 16).all (· == 0))
      rw [hall]
  · ((conv=>whnf);repeat((first|refine mvT ?_|refine mvF ?_|refine yT ?_|refine yF ?_);conv=>whnf))
    refine ldS (ho.cell rfl) ?_;((conv=>whnf);repeat((first|refine mvT ?_|refine mvF ?_|refine yT ?_|refine yF ?_);conv=>whnf))
    refine cI (by rfl) (fun h1=>?_) (fun h1=>?_)
    · have h0 : 0 ≤ nul := by have := of_decide_eq_true h1; omega
      ((conv=>whnf);repeat((first|refine mvT ?_|refine mvF ?_|refine yT ?_|refine yF ?_);conv=>whnf))
      refine ldS (ho2.cell rfl) ?_;((conv=>whnf);repeat((first|refine mvT ?_|refine mvF ?_|refine yT ?_|refine yF ?_);conv=>whnf))
      refine ⟨?_, hx⟩
      show Value.bool nl = Value.bool (if 0 ≤ nul then nl else s.isEmpty)
      rw [if_pos h0]
    · have h0 : ¬ 0 ≤ nul := by have := of_decide_eq_false h1; omega
      ((conv=>whnf);repeat((first|refine mvT ?_|refine mvF ?_|refine yT ?_|refine yF ?_);conv=>whnf))
      refine ldS (ho2.cell rfl) ?_;((conv=>whnf);repeat((first|refine mvT ?_|refine mvF ?_|refine yT ?_|refine yF ?_);conv=>whnf))
      obtain ⟨a, c, rfl, _⟩ := hs'.view
      ((conv=>whnf);repeat((first|refine mvT ?_|refine mvF ?_|refine yT ?_|refine yF ?_);conv=>whnf))
      refine ⟨?_, hx⟩
      show Value.bool _ = Value.bool (if 0 ≤ nul then nl else s.isEmpty)
      rw [if_neg h0]
      exact congrArg Value.bool (len0 s)
  · ((conv=>whnf);repeat((first|refine mvT ?_|refine mvF ?_|refine yT ?_|refine yF ?_);conv=>whnf))
    refine ldS (ho.cell rfl) ?_;((conv=>whnf);repeat((first|refine mvT ?_|refine mvF ?_|refine yT ?_|refine yF ?_);conv=>whnf))
    refine cI (by rfl) (fun h1=>?_) (fun h1=>?_)
    · have h0 : 0 ≤ nul := by have := of_decide_eq_true h1; omega
      ((conv=>whnf);repeat((first|refine mvT ?_|refine mvF ?_|refine yT ?_|refine yF ?_);conv=>whnf))
      refine ldS (ho2.cell rfl) ?_;((conv=>whnf);repeat((first|refine mvT ?_|refine mvF ?_|refine yT ?_|refine yF ?_);conv=>whnf))
      refine ⟨?_, hx⟩
      show Value.bool nl = Value.bool (if 0 ≤ nul then nl else s.isEmpty)
      rw [if_pos h0]
    · have h0 : ¬ 0 ≤ nul := by have := of_decide_eq_false h1; omega
      ((conv=>whnf);repeat((first|refine mvT ?_|refine mvF ?_|refine yT ?_|refine yF ?_);conv=>whnf))
      refine ldS (ho2.cell rfl) ?_;((conv=>whnf);repeat((first|refine mvT ?_|refine mvF ?_|refine yT ?_|refine yF ?_);conv=>whnf))
      obtain ⟨a, c, rfl, _⟩ := hs'.view
      ((conv=>whnf);repeat((first|refine mvT ?_|refine mvF ?_|refine yT ?_|refine yF ?_);conv=>whnf))
      refine ⟨?_, hx⟩
      show Value.bool _ = Value.bool (if 0 ≤ nul then nl else s.isEmpty)
      rw [if_neg h0]
      exact congrArg Value.bool (len0 s)
  · ((conv=>whnf);repeat((first|refine mvT ?_|refine mvF ?_|refine yT ?_|refine yF ?_);conv=>whnf))
    refine ldS (ho2.cell rfl) ?_;((conv=>whnf);repeat((first|refine mvT ?_|refine mvF ?_|refine yT ?_|refine yF ?_);conv=>whnf))
    obtain ⟨a, c, rfl, _⟩ := hl'.view
    ((conv=>whnf);repeat((first|refine mvT ?_|refine mvF ?_|refine yT ?_|refine yF ?_);conv=>whnf))
    refine ⟨?_, hx⟩
    show Value.bool _ = Value.bool l.isEmpty
    rw [hlen']
    exact congrArg Value.bool (len0 l)
  · have husub : ∀ f, f ∈ sub → f.tag ≤ 1000000 := fun f hf => okF_tag (hsub f hf)
    have hfr : FdsR w F sv sub := ⟨ls, hl, hlen, hr⟩
    have hfr2 := hfr.e0 hx
    have hu2 := hu.e0 hx
    have ht2 := ht0.e0 hx
    obtain ⟨a, c, rfl, hc, hm, hF, hS, hC⟩ := hl.view
    ((conv=>whnf);repeat((first|refine mvT ?_|refine mvF ?_|refine yT ?_|refine yF ?_);conv=>whnf))
    refine ldS (ho.cell rfl) ?_;((conv=>whnf);repeat((first|refine mvT ?_|refine mvF ?_|refine yT ?_|refine yF ?_);conv=>whnf))
    refine VL.loop (fun i : Nat => [(2, .pointer (some ⟨b, 0, none⟩)), (3, .pointer (some ⟨b2, 0, none⟩)), (57, .slice a ls.length c), (58, .int .i64 ls.length), (59, .int .i64 i)])
      (fun i w' => Ext nob w2 w' ∧ i ≤ ls.length ∧ usualAll (usualB d) (.mk n s nl l u) i (sub.drop i) = usualAll (usualB d) (.mk n s nl l u) 0 sub) (fun i => ls.length - i) 0 ⟨rfl, rfl, rfl, rfl, rfl, trivial⟩ ⟨Ext.refl _ _, Nat.zero_le _, rfl⟩ ?_
    rintro i w3 ⟨hx3, hi, hus⟩
    ((conv=>whnf);repeat((first|refine mvT ?_|refine mvF ?_|refine yT ?_|refine yF ?_);conv=>whnf))
    refine cI (by rfl) (fun h1=>?_) (fun h1=>?_)
    · have hil : i < ls.length := by have := of_decide_eq_true h1; omega
      have his : i < sub.length := by omega
      have hfd := hr i ls[i] sub[i] (by simp [hil]) (by simp [his])
      rw [List.drop_eq_getElem_cons his] at hus
      obtain ⟨b4, o4, rfl, hc4⟩ := hC i ls[i] (by simp [hil])
      ((conv=>whnf);repeat((first|refine mvT ?_|refine mvF ?_|refine yT ?_|refine yF ?_);conv=>whnf))
      refine ⟨b4, o4, rfl, ⟨by omega, by omega⟩, ?_⟩
      ((conv=>whnf);repeat((first|refine mvT ?_|refine mvF ?_|refine yT ?_|refine yF ?_);conv=>whnf))
      refine ⟨ls[i], hfd.len, (hc4.e0 hx).e0 hx3, ?_⟩
      ((conv=>whnf);repeat((first|refine mvT ?_|refine mvF ?_|refine yT ?_|refine yF ?_);conv=>whnf))
      intro b5 w5 hb5 ho5 hx5
      ((conv=>whnf);repeat((first|refine mvT ?_|refine mvF ?_|refine yT ?_|refine yF ?_);conv=>whnf))
      refine st_all ls[i] ho5 hfd.len rfl hfd.ok ?_
      intro w6 ho6 hx6
      have hx36 : Ext nob w2 w6.drew := ((hx3.e0 hx5).st hx6 (by have := hx3.size; omega)).e0 (ext_drew _)
      ((conv=>whnf);repeat((first|refine mvT ?_|refine mvF ?_|refine yT ?_|refine yF ?_);conv=>whnf))
      refine VD.draw mixed (.q 0 (.q 1 (.q 2 (.eff 3 [0] (.eff 4 [] (.q 5 (.done))))))) (by kernel_rfl) ?_;((conv=>whnf);repeat((first|refine mvT ?_|refine mvF ?_|refine yT ?_|refine yF ?_);conv=>whnf))
      have ho6 : Own w6.drew b5 _ ls[i] := ho6
      refine ⟨ls[i], hfd.len, ho6.cells, ?_⟩
      ((conv=>whnf);repeat((first|refine mvT ?_|refine mvF ?_|refine yT ?_|refine yF ?_);conv=>whnf))
      refine ⟨_, rfl, (ho2.e0 hx36).cells, ?_⟩
      ((conv=>whnf);repeat((first|refine mvT ?_|refine mvF ?_|refine yT ?_|refine yF ?_);conv=>whnf))
      refine Does.mono (at_does (F := G) ⟨_, rfl, ht2.e0 hx36⟩ i) ?_
      rintro r7 w7 ⟨hr7, hx7⟩
      ((conv=>whnf);repeat((first|refine mvT ?_|refine mvF ?_|refine yT ?_|refine yF ?_);conv=>whnf))
      refine ⟨by (conv => whnf); exact ⟨⟨ls[i], hfd.len, (ho6.e0 hx7).cells, rfl, rfl⟩, trivial⟩, ?_⟩
      ((conv=>whnf);repeat((first|refine mvT ?_|refine mvF ?_|refine yT ?_|refine yF ?_);conv=>whnf))
      refine Does.mono (ih (hfd.e0 (((hx.e0 hx36)).e0 hx7)) hr7 (hsub _ (by simp))) ?_
      rintro r8 w8 ⟨rfl, hx8⟩
      have hx38 : Ext nob w2 w8 := (hx36.e0 hx7).e0 hx8
      ((conv=>whnf);repeat((first|refine mvT ?_|refine mvF ?_|refine yT ?_|refine yF ?_);conv=>whnf))
      refine cI (by rfl) (fun h2=>?_) (fun h2=>?_)
      · ((conv=>whnf);repeat((first|refine mvT ?_|refine mvF ?_|refine yT ?_|refine yF ?_);conv=>whnf))
        refine ⟨?_, hx.e0 hx38⟩
        show Value.bool false = Value.bool (usualAll (usualB d) (.mk n s nl l u) 0 sub && _)
        have h3 : usualB d sub[i] (atT (.mk n s nl l u) i) = false := by simpa using h2
        rw [← hus]
        simp only [usualAll, h3, Bool.false_and]
      · ((conv=>whnf);repeat((first|refine mvT ?_|refine mvF ?_|refine yT ?_|refine yF ?_);conv=>whnf))
        have h3 : usualB d sub[i] (atT (.mk n s nl l u) i) = true := by simpa using h2
        refine ⟨i + 1, ⟨rfl, rfl, rfl, rfl, inc_eq (by rw [maxLen_eq] at hm; omega), trivial⟩, ⟨hx38, by omega, ?_⟩, by omega⟩
        rw [← hus]
        simp only [usualAll, h3, Bool.true_and]
    · have hil : i = sub.length := by have := of_decide_eq_false h1; omega
      rw [hil, List.drop_length] at hus
      have hus : usualAll (usualB d) (.mk n s nl l u) 0 sub = true := hus.symm
      ((conv=>whnf);repeat((first|refine mvT ?_|refine mvF ?_|refine yT ?_|refine yF ?_);conv=>whnf))
      refine ldS ((ho.e0 hx3).cell rfl) ?_;((conv=>whnf);repeat((first|refine mvT ?_|refine mvF ?_|refine yT ?_|refine yF ?_);conv=>whnf))
      refine ldS ((ho2.e0 hx3).cell rfl) ?_;((conv=>whnf);repeat((first|refine mvT ?_|refine mvF ?_|refine yT ?_|refine yF ?_);conv=>whnf))
      refine Does.mono (unknown_does (hfr2.e0 hx3) husub (hu2.e0 hx3)) ?_
      rintro r4 w4 ⟨⟨l4, ho4, hl4, _⟩, hx4⟩
      obtain ⟨a4, c4, rfl, _⟩ := (ho4.sl (F := anyB) fun _ _ => trivial).view
      ((conv=>whnf);repeat((first|refine mvT ?_|refine mvF ?_|refine yT ?_|refine yF ?_);conv=>whnf))
      refine ⟨?_, (hx.e0 hx3).e0 hx4⟩
      show Value.bool _ = Value.bool (usualAll (usualB d) (.mk n s nl l u) 0 sub && (unknownT sub u).isEmpty)
      rw [hus, Bool.true_and, hl4]
      exact congrArg Value.bool (len0 _)
  · have hkb : ∀ j : Int, j = 0 ∨ j = 7 ∨ j = 8 ∨ j = 9 ∨ j = 11 ∨ j = 10 → kind ≠ j := by omega
    have hus : usualB (d + 1) (.mk kind fr to nul tag df of sub) (.mk n s nl l u) = decide (fixed n (widthK kind) = fixed df (widthK kind)) := by
      exact usualB_num d _ _ hkb
    rw [hus]
    clear hus hkb
    rcases hk with rfl | rfl | rfl | rfl | rfl | rfl
    all_goals
      have hx := hx.e0 (ext_drew _)
      have hod := ho.e0 (ext_drew _)
      have hod2 := ho2.e0 (ext_drew _)
      ((conv=>whnf);repeat((first|refine mvT ?_|refine mvF ?_|refine yT ?_|refine yF ?_);conv=>whnf))
      refine VD.draw mixed (.q 0 (.q 1 (.q 2 (.q 3 (.q 6 (.q 7 (.q 8 (.q 9 (.eff 4 [1, 7, 9] (.eff 5 [7, 9] (.eff 10 [7] (.eff 11 [] (.eff 12 [] (.eff 13 [] (.done))))))))))))))) (by kernel_rfl) ?_;((conv=>whnf);repeat((first|refine mvT ?_|refine mvF ?_|refine yT ?_|refine yF ?_);conv=>whnf))
      refine ldS (hod2.cell rfl) ?_;((conv=>whnf);repeat((first|refine mvT ?_|refine mvF ?_|refine yT ?_|refine yF ?_);conv=>whnf))
      refine ldS (hod.cell rfl) ?_;((conv=>whnf);repeat((first|refine mvT ?_|refine mvF ?_|refine yT ?_|refine yF ?_);conv=>whnf))
      refine ldS (hod.cell rfl) ?_;((conv=>whnf);repeat((first|refine mvT ?_|refine mvF ?_|refine yT ?_|refine yF ?_);conv=>whnf))
      refine ldS (hod.cell rfl) ?_;((conv=>whnf);repeat((first|refine mvT ?_|refine mvF ?_|refine yT ?_|refine yF ?_);conv=>whnf))
      refine Does.mono (width_nat _ _) ?_
      rintro r3 w3 ⟨rfl, hx3⟩
      refine ⟨by (conv => whnf); exact ⟨⟨_, (hod2.e0 hx3).cell rfl, rfl, rfl⟩, ⟨_, (hod.e0 hx3).cell rfl, rfl, rfl⟩, ⟨_, (hod.e0 hx3).cell rfl, rfl, rfl⟩, trivial⟩, ?_⟩
      ((conv=>whnf);repeat((first|refine mvT ?_|refine mvF ?_|refine yT ?_|refine yF ?_);conv=>whnf))
      refine Does.mono (Fixed_does _ _ (widthK_le _) _) ?_
      rintro r4 w4 ⟨hr4, hx4⟩
      have hx34 := hx3.e0 hx4
      refine ⟨by (conv => whnf); exact ⟨⟨_, (hod.e0 hx34).cell rfl, rfl, rfl⟩, ⟨_, (hod.e0 hx34).cell rfl, rfl, rfl⟩, trivial⟩, ?_⟩
      ((conv=>whnf);repeat((first|refine mvT ?_|refine mvF ?_|refine yT ?_|refine yF ?_);conv=>whnf))
      refine Does.mono (width_nat _ _) ?_
      rintro r5 w5 ⟨rfl, hx5⟩
      have hx35 := hx34.e0 hx5
      refine ⟨by (conv => whnf); exact ⟨⟨_, (hod.e0 hx35).cell rfl, rfl, rfl⟩, trivial⟩, ?_⟩
      ((conv=>whnf);repeat((first|refine mvT ?_|refine mvF ?_|refine yT ?_|refine yF ?_);conv=>whnf))
      refine Does.mono (Fixed_does _ _ (widthK_le _) _) ?_
      rintro r6 w6 ⟨hr6, hx6⟩
      ((conv=>whnf);repeat((first|refine mvT ?_|refine mvF ?_|refine yT ?_|refine yF ?_);conv=>whnf))
      refine Does.mono (Same_does ((hr4.e0 hx5).e0 hx6).bytesAny hr6.bytesAny) ?_
      rintro r7 w7 ⟨rfl, hx7⟩
      ((conv=>whnf);repeat((first|refine mvT ?_|refine mvF ?_|refine yT ?_|refine yF ?_);conv=>whnf))
      exact ⟨rfl, (hx.e0 hx35).e0 (hx6.e0 hx7)⟩
end Go.Proofs.YtepamajphjgigaaGreatDoor.K
