
/- The reader: its state, spans, numbers. The reader: numbers of two, four and eight octets. The reader: its numbers. The reader: numbers in groups of seven bits. The reader: spans, texts, octets, counts. The reader: unknown tags, uuids. The reader: uuids. -/
import Derived.Test.YtepamajphjgigaaGreatDoorQ2
import Derived.Test.YtepamajphjgigaaGreatDoorB4
import Derived.Test.YtepamajphjgigaaGreatDoorK10
import Derived.Test.YtepamajphjgigaaGreatDoorC3
/-! The reader: its state, spans, numbers. -/
set_option linter.unusedVariables false
set_option linter.unusedSimpArgs false
namespace Go.Proofs.YtepamajphjgigaaGreatDoor.K
open Go
set_option maxHeartbeats 1600000

/-- Block p is a reader: these octets are left (they lie in region F); too few were there, or not. -/
def RdW (w : World) (F : Nat → Prop) (p : Nat) (s : Rd) : Prop := ∃ T v, Own w p T [v, .bool s.2] ∧ Bytes w F v s.1 ∧ (s.2 = true → v = .slice none 0 0)
/-- The same; unless too few were there, the slice is not nil. -/
def RdS (w : World) (F : Nat → Prop) (p : Nat) (s : Rd) : Prop := ∃ T v, Own w p T [v, .bool s.2] ∧ Bytes w F v s.1 ∧ (s.2 = true → v = .slice none 0 0) ∧ (s.2 = false → ∃ a n c, v = .slice (some a) n c)
theorem RdS.w {w : World} {F : Nat → Prop} {p : Nat} {s : Rd} (h : RdS w F p s) : RdW w F p s := by
  obtain ⟨T, v, h1, h2, h3, _⟩ := h
  exact ⟨T, v, h1, h2, h3⟩
theorem RdW.lt {w : World} {F : Nat → Prop} {p : Nat} {s : Rd} (h : RdW w F p s) : p < w.heap.size := by
  obtain ⟨T, v, h1, _⟩ := h
  exact h1.lt
theorem RdW.ext {M F : Nat → Prop} {w w' : World} {p : Nat} {s : Rd} (h : RdW w F p s) (x : Ext M w w') (hp : ¬ M p) (hF : ∀ k, k < w.heap.size → F k → ¬ M k) : RdW w' F p s := by
  obtain ⟨T, v, h1, h2, h3⟩ := h
  exact ⟨T, v, h1.ext x hp, h2.ext x hF, h3⟩
theorem RdW.e0 {F : Nat → Prop} {w w' : World} {p : Nat} {s : Rd} (h : RdW w F p s) (x : Ext nob w w') : RdW w' F p s := h.ext x id fun _ _ _ f => f
theorem RdS.ext {M F : Nat → Prop} {w w' : World} {p : Nat} {s : Rd} (h : RdS w F p s) (x : Ext M w w') (hp : ¬ M p) (hF : ∀ k, k < w.heap.size → F k → ¬ M k) : RdS w' F p s := by
  obtain ⟨T, v, h1, h2, h3, h4⟩ := h
  exact ⟨T, v, h1.ext x hp, h2.ext x hF, h3, h4⟩
theorem RdW.mono {F F' : Nat → Prop} {w : World} {p : Nat} {s : Rd} (h : RdW w F p s) (hF : ∀ k, k < w.heap.size → F k → F' k) : RdW w F' p s := by
  obtain ⟨T, v, h1, h2, h3⟩ := h
  exact ⟨T, v, h1, Sl.mono h2 hF, h3⟩
theorem RdS.mono {F F' : Nat → Prop} {w : World} {p : Nat} {s : Rd} (h : RdS w F p s) (hF : ∀ k, k < w.heap.size → F k → F' k) : RdS w F' p s := by
  obtain ⟨T, v, h1, h2, h3⟩ := h
  exact ⟨T, v, h1, Sl.mono h2 hF, h3⟩
/-- A slice without its front. -/
theorem cut_lo {w : World} {F : Nat → Prop} {sz sz' : Nat} {a : Option Addr} {n c : Nat} {xs : List Value} (h : Sl w F sz (.slice a n c) n xs) (hsz : sz' = sz) {j : Int} {m : Nat} (hj : j = (m : Int)) (hm : m ≤ n) {K : Value → Prop}
    (k : ∀ a', Sl w F sz (.slice a' (n - m) (c - m)) (n - m) (xs.drop (m * sz)) → (a.isSome → a'.isSome) → (a = none → a' = none) → K (.slice a' (n - m) (c - m))) :
    ((((none : Option Int).getD c).toNat = ((some j).getD 0).toNat ∨ ∀ q, a = some q → q.spot = none)) ∧ ((none : Option Int).isSome → (none : Option Int).isSome) ∧ (0 ≤ (some j).getD 0 ∧ (some j).getD 0 ≤ (none : Option Int).getD n ∧ (none : Option Int).getD n ≤ (none : Option Int).getD c ∧ (none : Option Int).getD c ≤ c) ∧
      ∀ r : Value, Value.slice (cutAddr a sz' ((some j).getD 0).toNat ((none : Option Int).getD c).toNat) (((none : Option Int).getD n).toNat - ((some j).getD 0).toNat) (((none : Option Int).getD c).toNat - ((some j).getD 0).toNat) = r → K r := by
  subst hj
  subst hsz
  obtain ⟨a0, c0, heq, ⟨hc, hmx⟩, hl, ha⟩ := h
  injection heq with e1 e2 e3
  subst e1
  subst e3
  refine ⟨?_, fun h => h, ⟨by simp, by simp only [Option.getD_some, Option.getD_none]; omega, by simp only [Option.getD_none]; omega, Int.le_refl _⟩, ?_⟩
  · rcases ha with ⟨h0, rfl | rfl⟩ | ⟨b, o, rfl, _⟩
    · exact .inr (by simp)
    · left
      simp only [Option.getD_some, Option.getD_none]
      omega
    · refine .inr fun q hq => ?_
      simp only [Option.some.injEq] at hq
      rw [← hq]
  · rintro r rfl
    simp only [Option.getD_some, Option.getD_none, Int.toNat_natCast]
    refine k _ ⟨_, c - m, rfl, ⟨by omega, by omega⟩, ?_, ?_⟩ ?_ ?_
    · rw [List.length_drop, hl, ← Nat.sub_mul]
    · rcases ha with ⟨h0, hz⟩ | ⟨b, o, rfl, hF, hlt, hx⟩
      · left
        refine ⟨by omega, ?_⟩
        rcases hz with rfl | rfl
        · left
          unfold cutAddr
          split <;> rfl
        · right; omega
      · by_cases hcm : c = m
        · left
          exact ⟨by omega, .inr (by omega)⟩
        · right
          refine ⟨b, o + m * sz', ?_, hF, hlt, fun i u hi => ?_⟩
          · unfold cutAddr
            rw [if_neg hcm]
            rfl
          · rw [List.getElem?_drop] at hi
            have := hx (m * sz' + i) u hi
            rw [show o + m * sz' + i = o + (m * sz' + i) by omega]
            exact this
    · intro hs
      unfold cutAddr
      split
      · exact hs
      · obtain ⟨q, rfl⟩ := Option.isSome_iff_exists.1 hs
        rfl
    · rintro rfl
      unfold cutAddr
      split <;> rfl
/-- A slice's front, with no room behind it. -/
theorem cut_span {w : World} {F : Nat → Prop} {sz sz' : Nat} {a : Option Addr} {n c : Nat} {xs : List Value} (h : Sl w F sz (.slice a n c) n xs) (hsz : sz' = sz) {j : Int} {m : Nat} (hj : j = (m : Int)) (hm : m ≤ n) {K : Value → Prop}
    (k : ∀ a', Sl w F sz (.slice a' m m) m (xs.take (m * sz)) → (a.isSome → a'.isSome) → (a = none → a' = none) → K (.slice a' m m)) :
    ((((some j).getD c).toNat = ((none : Option Int).getD 0).toNat ∨ ∀ q, a = some q → q.spot = none)) ∧ ((some j).isSome → (some j).isSome) ∧ (0 ≤ (none : Option Int).getD 0 ∧ (none : Option Int).getD 0 ≤ (some j).getD n ∧ (some j).getD n ≤ (some j).getD c ∧ (some j).getD c ≤ c) ∧
      ∀ r : Value, Value.slice (cutAddr a sz' ((none : Option Int).getD 0).toNat ((some j).getD c).toNat) (((some j).getD n).toNat - ((none : Option Int).getD 0).toNat) (((some j).getD c).toNat - ((none : Option Int).getD 0).toNat) = r → K r := by
  subst hj
  subst hsz
  obtain ⟨a0, c0, heq, ⟨hc, hmx⟩, hl, ha⟩ := h
  injection heq with e1 e2 e3
  subst e1
  subst e3
  refine ⟨?_, fun h => h, ⟨Int.le_refl _, by simp, by simp, by simp only [Option.getD_some]; omega⟩, ?_⟩
  · rcases ha with ⟨h0, rfl | rfl⟩ | ⟨b, o, rfl, _⟩
    · exact .inr (by simp)
    · left
      simp only [Option.getD_some, Option.getD_none]
      omega
    · refine .inr fun q hq => ?_
      simp only [Option.some.injEq] at hq
      rw [← hq]
  · rintro r rfl
    simp only [Option.getD_some, Option.getD_none, Int.toNat_natCast, Int.toNat_zero, Nat.sub_zero]
    refine k _ ⟨_, m, rfl, ⟨Nat.le_refl _, by omega⟩, ?_, ?_⟩ ?_ ?_
    · rw [List.length_take, hl]
      exact Nat.min_eq_left (Nat.mul_le_mul_right _ hm)
    · rcases ha with ⟨h0, hz⟩ | ⟨b, o, rfl, hF, hlt, hx⟩
      · left
        exact ⟨by omega, .inr (by omega)⟩
      · right
        refine ⟨b, o, ?_, hF, hlt, fun i u hi => hx i u ?_⟩
        · unfold cutAddr
          split <;> simp
        · rw [List.getElem?_take] at hi
          split at hi
          · exact hi
          · simp at hi
    · intro hs
      unfold cutAddr
      split
      · exact hs
      · obtain ⟨q, rfl⟩ := Option.isSome_iff_exists.1 hs
        rfl
    · rintro rfl
      unfold cutAddr
      split <;> rfl
theorem map_drop_bcell (l : List UInt8) (m : Nat) : (l.map bcell).drop (m * 1) = (l.drop m).map bcell := by rw [Nat.mul_one, List.map_drop]
theorem map_take_bcell (l : List UInt8) (m : Nat) : (l.map bcell).take (m * 1) = (l.take m).map bcell := by rw [Nat.mul_one, List.map_take]
/-! ## Numbers in octets, the highest one first -/
theorem be_step2 (a b : UInt8) : beN [a, b] = a.toNat * 256 + b.toNat := by simp [beN]
theorem be_step4 (a b c d : UInt8) : beN [a, b, c, d] = a.toNat * 16777216 + b.toNat * 65536 + c.toNat * 256 + d.toNat := by simp [beN]; omega
theorem be_step8 (a b c d e f g h : UInt8) : beN [a, b, c, d, e, f, g, h] = a.toNat * 72057594037927936 + b.toNat * 281474976710656 + c.toNat * 1099511627776 + d.toNat * 4294967296 + e.toNat * 16777216 + f.toNat * 65536 + g.toNat * 256 + h.toNat := by simp [beN]; omega
theorem or_shift (k i x y : Nat) (hx : x < 2 ^ i) (hy : y * 2 ^ i < 2 ^ k) (hi : i ≤ k) : (BitVec.ofInt k (x : Int) ||| BitVec.ofInt k ((y * 2 ^ i : Nat) : Int)).toNat = x + y * 2 ^ i := by
  have hxk : x < 2 ^ k := Nat.lt_of_lt_of_le hx (Nat.pow_le_pow_right (by decide) hi)
  rw [BitVec.toNat_or, bv_ofInt_nat, bv_ofInt_nat, Nat.mod_eq_of_lt hxk, Nat.mod_eq_of_lt hy, Nat.or_comm, Nat.mul_comm y]
  rw [← Nat.two_pow_add_eq_or_of_lt hx y]
  omega
end Go.Proofs.YtepamajphjgigaaGreatDoor.K
/-! The reader: numbers of two, four and eight octets. -/
set_option linter.unusedVariables false
set_option linter.unusedSimpArgs false
namespace Go.Proofs.YtepamajphjgigaaGreatDoor.K
open Go
set_option maxHeartbeats 1600000

theorem Bytes.at' {w : World} {F : Nat → Prop} {v : Value} {l : List UInt8} (h : Bytes w F v l) (hl : 0 < l.length) : ∃ b o c, v = .slice (some ⟨b, o, none⟩) l.length c ∧ ∀ i u, l[i]? = some u → w.cell? ⟨b, o + i, none⟩ = some (bcell u) := by
  obtain ⟨a, c, rfl, _, _, _, _, _, hC⟩ := h.view
  obtain ⟨u, hu⟩ : ∃ u, l[0]? = some u := ⟨l[0], by simp [hl]⟩
  obtain ⟨b, o, rfl, _⟩ := hC 0 u hu
  refine ⟨b, o, c, rfl, fun i u hi => ?_⟩
  obtain ⟨b', o', e, h⟩ := hC i u hi
  simp only [Option.some.injEq, Addr.mk.injEq, and_true] at e
  rw [e.1, e.2]
  exact h
theorem orK {ik : IntKind} {K : Nat} (hb : ik.bits = K) (hw : ∀ n : Nat, n < 2 ^ K → ik.wrap (n : Int) = n) {x s : Int} {n i : Nat} (hx : x = (n : Int)) (hs : min s.toNat ik.bits = i) (hi : i + 8 ≤ K) (hn : n < 2 ^ i) (u : UInt8) :
    ik.wrap ((BitVec.ofInt ik.bits x ||| BitVec.ofInt ik.bits (ik.wrap (ik.wrap (u.toNat : Int) * 2 ^ min s.toNat ik.bits))).toNat : Int) = ((n + u.toNat * 2 ^ i : Nat) : Int) ∧ n + u.toNat * 2 ^ i < 2 ^ (i + 8) := by
  subst hx
  have hu : u.toNat < 256 := u.toNat_lt
  have h8 : 2 ^ (i + 8) ≤ 2 ^ K := Nat.pow_le_pow_right (by decide) hi
  have he : 2 ^ (i + 8) = 2 ^ i * 256 := by rw [Nat.pow_add]
  have hp : 0 < 2 ^ i := Nat.pow_pos (by decide)
  have hup : u.toNat * 2 ^ i ≤ 255 * 2 ^ i := Nat.mul_le_mul_right _ (by omega)
  have hsum : n + u.toNat * 2 ^ i < 2 ^ (i + 8) := by omega
  refine ⟨?_, hsum⟩
  have h256 : (256 : Nat) ≤ 2 ^ K := Nat.le_trans (by rw [he] at *; exact Nat.le_mul_of_pos_left 256 hp) h8
  rw [hs, hw u.toNat (by omega)]
  have e : ((u.toNat : Int) * 2 ^ i) = ((u.toNat * 2 ^ i : Nat) : Int) := by push_cast; rfl
  rw [e, hw (u.toNat * 2 ^ i) (by omega), hb, or_shift K i n u.toNat hn (by omega) (by omega), hw (n + u.toNat * 2 ^ i) (by omega)]
theorem w16 : ∀ n : Nat, n < 2 ^ 16 → IntKind.u16.wrap (n : Int) = n := fun n h => by rw [wrap_u16]; omega
theorem w32 : ∀ n : Nat, n < 2 ^ 32 → IntKind.u32.wrap (n : Int) = n := fun n h => by rw [wrap_u32]; omega
theorem w64 : ∀ n : Nat, n < 2 ^ 64 → IntKind.u64.wrap (n : Int) = n := fun n h => by rw [wrap_u64]; omega
theorem BE16_does {w : World} {F : Nat → Prop} {x : Value} {l : List UInt8} (hx : Bytes w F x l) (hl : 2 ≤ l.length) : Does X.P 86 #[.agg #[], x] w fun r w' => r = .int .u16 (beN (l.take 2) : Int) ∧ Ext nob w w' := by
  obtain ⟨b, o, c, rfl, hC⟩ := hx.at' (by omega)
  match l, hl, hC with
  | u0 :: u1 :: r, _, hC =>
  have h0 := hC 0 u0 rfl
  have h1 := hC 1 u1 rfl
  refine Does.go (X := X) (l := [_, _]) Tryz.func86 rfl (by kernel_rfl) (by kernel_rfl) _ rfl ?_
  ((conv=>whnf);repeat((first|refine mvT ?_|refine mvF ?_|refine yT ?_|refine yF ?_);conv=>whnf))
  intro b1 w1 hb1 ho1 hx1
  have hxd := hx1.e0 (ext_drew w1)
  have h1n := hx1.cell h1 fun h => h
  have h0 := hxd.cell h0 fun h => h
  have h1 := hxd.cell h1 fun h => h
  ((conv=>whnf);repeat((first|refine mvT ?_|refine mvF ?_|refine yT ?_|refine yF ?_);conv=>whnf))
  refine ⟨b, o, rfl, ⟨by omega, by simp only [List.length_cons]; omega⟩, ?_⟩
  ((conv=>whnf);repeat((first|refine mvT ?_|refine mvF ?_|refine yT ?_|refine yF ?_);conv=>whnf))
  refine ⟨_, ld h1n (by simp), ?_⟩
  ((conv=>whnf);repeat((first|refine mvT ?_|refine mvF ?_|refine yT ?_|refine yF ?_);conv=>whnf))
  refine VD.draw mixed (.q 0 (.q 1 (.q 2 (.q 3 (.q 4 (.q 5 (.q 6 (.q 7 (.q 8 (.q 9 (.eff 10 [] (.done)))))))))))) (by kernel_rfl) ?_;((conv=>whnf);repeat((first|refine mvT ?_|refine mvF ?_|refine yT ?_|refine yF ?_);conv=>whnf))
  refine ⟨b, o, rfl, ⟨by omega, by simp only [List.length_cons]; omega⟩, ?_⟩
  ((conv=>whnf);repeat((first|refine mvT ?_|refine mvF ?_|refine yT ?_|refine yF ?_);conv=>whnf))
  refine ⟨_, ld h1 (by simp), ?_⟩
  ((conv=>whnf);repeat((first|refine mvT ?_|refine mvF ?_|refine yT ?_|refine yF ?_);conv=>whnf))
  refine ⟨b, o, rfl, ⟨by omega, by simp only [List.length_cons]; omega⟩, ?_⟩
  ((conv=>whnf);repeat((first|refine mvT ?_|refine mvF ?_|refine yT ?_|refine yF ?_);conv=>whnf))
  refine ⟨_, ld h0 (by simp), ?_⟩
  ((conv=>whnf);repeat((first|refine mvT ?_|refine mvF ?_|refine yT ?_|refine yF ?_);conv=>whnf))
  refine ⟨by decide, ?_⟩
  ((conv=>whnf);repeat((first|refine mvT ?_|refine mvF ?_|refine yT ?_|refine yF ?_);conv=>whnf))
  refine ⟨?_, hxd⟩
  show Value.int _ _ = _
  have hu := u1.toNat_lt
  obtain ⟨e1, l1⟩ := orK (ik := .u16) (K := 16) rfl w16 (w16 u1.toNat (by have := u1.toNat_lt; omega)) (s := 8) (i := 8) rfl (by decide) (by omega) u0
  rw [e1]
  simp only [List.take_succ_cons, List.take_zero]
  rw [be_step2]
  congr 1
  omega
theorem BE32_does {w : World} {F : Nat → Prop} {x : Value} {l : List UInt8} (hx : Bytes w F x l) (hl : 4 ≤ l.length) : Does X.P 85 #[.agg #[], x] w fun r w' => r = .int .u32 (beN (l.take 4) : Int) ∧ Ext nob w w' := by
  obtain ⟨b, o, c, rfl, hC⟩ := hx.at' (by omega)
  match l, hl, hC with
  | u0 :: u1 :: u2 :: u3 :: r, _, hC =>
  have h0 := hC 0 u0 rfl
  have h1 := hC 1 u1 rfl
  have h2 := hC 2 u2 rfl
  have h3 := hC 3 u3 rfl
  refine Does.go (X := X) (l := [_, _]) Tryz.func85 rfl (by kernel_rfl) (by kernel_rfl) _ rfl ?_
  ((conv=>whnf);repeat((first|refine mvT ?_|refine mvF ?_|refine yT ?_|refine yF ?_);conv=>whnf))
  intro b1 w1 hb1 ho1 hx1
  have hxd := hx1.e0 (ext_drew w1)
  have h3n := hx1.cell h3 fun h => h
  have h0 := hxd.cell h0 fun h => h
  have h1 := hxd.cell h1 fun h => h
  have h2 := hxd.cell h2 fun h => h
  have h3 := hxd.cell h3 fun h => h
  ((conv=>whnf);repeat((first|refine mvT ?_|refine mvF ?_|refine yT ?_|refine yF ?_);conv=>whnf))
  refine ⟨b, o, rfl, ⟨by omega, by simp only [List.length_cons]; omega⟩, ?_⟩
  ((conv=>whnf);repeat((first|refine mvT ?_|refine mvF ?_|refine yT ?_|refine yF ?_);conv=>whnf))
  refine ⟨_, ld h3n (by simp), ?_⟩
  ((conv=>whnf);repeat((first|refine mvT ?_|refine mvF ?_|refine yT ?_|refine yF ?_);conv=>whnf))
  refine VD.draw mixed (.q 0 (.q 1 (.q 2 (.q 3 (.q 4 (.q 5 (.q 6 (.q 7 (.q 8 (.q 9 (.q 10 (.q 11 (.q 12 (.q 13 (.q 14 (.q 15 (.q 16 (.q 17 (.q 18 (.q 19 (.q 20 (.q 21 (.eff 22 [] (.done)))))))))))))))))))))))) (by kernel_rfl) ?_;((conv=>whnf);repeat((first|refine mvT ?_|refine mvF ?_|refine yT ?_|refine yF ?_);conv=>whnf))
  refine ⟨b, o, rfl, ⟨by omega, by simp only [List.length_cons]; omega⟩, ?_⟩
  ((conv=>whnf);repeat((first|refine mvT ?_|refine mvF ?_|refine yT ?_|refine yF ?_);conv=>whnf))
  refine ⟨_, ld h3 (by simp), ?_⟩
  ((conv=>whnf);repeat((first|refine mvT ?_|refine mvF ?_|refine yT ?_|refine yF ?_);conv=>whnf))
  refine ⟨b, o, rfl, ⟨by omega, by simp only [List.length_cons]; omega⟩, ?_⟩
  ((conv=>whnf);repeat((first|refine mvT ?_|refine mvF ?_|refine yT ?_|refine yF ?_);conv=>whnf))
  refine ⟨_, ld h2 (by simp), ?_⟩
  ((conv=>whnf);repeat((first|refine mvT ?_|refine mvF ?_|refine yT ?_|refine yF ?_);conv=>whnf))
  refine ⟨by decide, ?_⟩
  ((conv=>whnf);repeat((first|refine mvT ?_|refine mvF ?_|refine yT ?_|refine yF ?_);conv=>whnf))
  refine ⟨b, o, rfl, ⟨by omega, by simp only [List.length_cons]; omega⟩, ?_⟩
  ((conv=>whnf);repeat((first|refine mvT ?_|refine mvF ?_|refine yT ?_|refine yF ?_);conv=>whnf))
  refine ⟨_, ld h1 (by simp), ?_⟩
  ((conv=>whnf);repeat((first|refine mvT ?_|refine mvF ?_|refine yT ?_|refine yF ?_);conv=>whnf))
  refine ⟨by decide, ?_⟩
  ((conv=>whnf);repeat((first|refine mvT ?_|refine mvF ?_|refine yT ?_|refine yF ?_);conv=>whnf))
  refine ⟨b, o, rfl, ⟨by omega, by simp only [List.length_cons]; omega⟩, ?_⟩
  ((conv=>whnf);repeat((first|refine mvT ?_|refine mvF ?_|refine yT ?_|refine yF ?_);conv=>whnf))
  refine ⟨_, ld h0 (by simp), ?_⟩
  ((conv=>whnf);repeat((first|refine mvT ?_|refine mvF ?_|refine yT ?_|refine yF ?_);conv=>whnf))
  refine ⟨by decide, ?_⟩
  ((conv=>whnf);repeat((first|refine mvT ?_|refine mvF ?_|refine yT ?_|refine yF ?_);conv=>whnf))
  refine ⟨?_, hxd⟩
  show Value.int _ _ = _
  have hu := u3.toNat_lt
  obtain ⟨e1, l1⟩ := orK (ik := .u32) (K := 32) rfl w32 (w32 u3.toNat (by have := u3.toNat_lt; omega)) (s := 8) (i := 8) rfl (by decide) (by omega) u2
  obtain ⟨e2, l2⟩ := orK (ik := .u32) (K := 32) rfl w32 e1 (s := 16) (i := 16) rfl (by decide) l1 u1
  obtain ⟨e3, l3⟩ := orK (ik := .u32) (K := 32) rfl w32 e2 (s := 24) (i := 24) rfl (by decide) l2 u0
  rw [e3]
  simp only [List.take_succ_cons, List.take_zero]
  rw [be_step4]
  congr 1
  omega
theorem BE64_does {w : World} {F : Nat → Prop} {x : Value} {l : List UInt8} (hx : Bytes w F x l) (hl : 8 ≤ l.length) : Does X.P 101 #[.agg #[], x] w fun r w' => r = .int .u64 (beN (l.take 8) : Int) ∧ Ext nob w w' := by
  obtain ⟨b, o, c, rfl, hC⟩ := hx.at' (by omega)
  match l, hl, hC with
  | u0 :: u1 :: u2 :: u3 :: u4 :: u5 :: u6 :: u7 :: r, _, hC =>
  have h0 := hC 0 u0 rfl
  have h1 := hC 1 u1 rfl
  have h2 := hC 2 u2 rfl
  have h3 := hC 3 u3 rfl
  have h4 := hC 4 u4 rfl
  have h5 := hC 5 u5 rfl
  have h6 := hC 6 u6 rfl
  have h7 := hC 7 u7 rfl
  refine Does.go (X := X) (l := [_, _]) Tryz.func101 rfl (by kernel_rfl) (by kernel_rfl) _ rfl ?_
  ((conv=>whnf);repeat((first|refine mvT ?_|refine mvF ?_|refine yT ?_|refine yF ?_);conv=>whnf))
  intro b1 w1 hb1 ho1 hx1
  have hxd := hx1.e0 (ext_drew w1)
  have h7n := hx1.cell h7 fun h => h
  have h0 := hxd.cell h0 fun h => h
  have h1 := hxd.cell h1 fun h => h
  have h2 := hxd.cell h2 fun h => h
  have h3 := hxd.cell h3 fun h => h
  have h4 := hxd.cell h4 fun h => h
  have h5 := hxd.cell h5 fun h => h
  have h6 := hxd.cell h6 fun h => h
  have h7 := hxd.cell h7 fun h => h
  ((conv=>whnf);repeat((first|refine mvT ?_|refine mvF ?_|refine yT ?_|refine yF ?_);conv=>whnf))
  refine ⟨b, o, rfl, ⟨by omega, by simp only [List.length_cons]; omega⟩, ?_⟩
  ((conv=>whnf);repeat((first|refine mvT ?_|refine mvF ?_|refine yT ?_|refine yF ?_);conv=>whnf))
  refine ⟨_, ld h7n (by simp), ?_⟩
  ((conv=>whnf);repeat((first|refine mvT ?_|refine mvF ?_|refine yT ?_|refine yF ?_);conv=>whnf))
  refine VD.draw mixed (.q 0 (.q 1 (.q 2 (.q 3 (.q 4 (.q 5 (.q 6 (.q 7 (.q 8 (.q 9 (.q 10 (.q 11 (.q 12 (.q 13 (.q 14 (.q 15 (.q 16 (.q 17 (.q 18 (.q 19 (.q 20 (.q 21 (.q 22 (.q 23 (.q 24 (.q 25 (.q 26 (.q 27 (.q 28 (.q 29 (.q 30 (.q 31 (.q 32 (.q 33 (.q 34 (.q 35 (.q 36 (.q 37 (.q 38 (.q 39 (.q 40 (.q 41 (.q 42 (.q 43 (.q 44 (.q 45 (.eff 46 [] (.done)))))))))))))))))))))))))))))))))))))))))))))))) (by kernel_rfl) ?_;((conv=>whnf);repeat((first|refine mvT ?_|refine mvF ?_|refine yT ?_|refine yF ?_);conv=>whnf))
  refine ⟨b, o, rfl, ⟨by omega, by simp only [List.length_cons]; omega⟩, ?_⟩
  ((conv=>whnf);repeat((first|refine mvT ?_|refine mvF ?_|refine yT ?_|refine yF ?_);conv=>whnf))
  refine ⟨_, ld h7 (by simp), ?_⟩
  ((conv=>whnf);repeat((first|refine mvT ?_|refine mvF ?_|refine yT ?_|refine yF ?_);conv=>whnf))
  refine ⟨b, o, rfl, ⟨by omega, by simp only [List.length_cons]; omega⟩, ?_⟩
  ((conv=>whnf);repeat((first|refine mvT ?_|refine mvF ?_|refine yT ?_|refine yF ?_);conv=>whnf))
  refine ⟨_, ld h6 (by simp), ?_⟩
  ((conv=>whnf);repeat((first|refine mvT ?_|refine mvF ?_|refine yT ?_|refine yF ?_);conv=>whnf))
  refine ⟨by decide, ?_⟩
  ((conv=>whnf);repeat((first|refine mvT ?_|refine mvF ?_|refine yT ?_|refine yF ?_);conv=>whnf))
  refine ⟨b, o, rfl, ⟨by omega, by simp only [List.length_cons]; omega⟩, ?_⟩
  ((conv=>whnf);repeat((first|refine mvT ?_|refine mvF ?_|refine yT ?_|refine yF ?_);conv=>whnf))
  refine ⟨_, ld h5 (by simp), ?_⟩
  ((conv=>whnf);repeat((first|refine mvT ?_|refine mvF ?_|refine yT ?_|refine yF ?_);conv=>whnf))
  refine ⟨by decide, ?_⟩
  ((conv=>whnf);repeat((first|refine mvT ?_|refine mvF ?_|refine yT ?_|refine yF ?_);conv=>whnf))
  refine ⟨b, o, rfl, ⟨by omega, by simp only [List.length_cons]; omega⟩, ?_⟩
  ((conv=>whnf);repeat((first|refine mvT ?_|refine mvF ?_|refine yT ?_|refine yF ?_);conv=>whnf))
  refine ⟨_, ld h4 (by simp), ?_⟩
  ((conv=>whnf);repeat((first|refine mvT ?_|refine mvF ?_|refine yT ?_|refine yF ?_);conv=>whnf))
  refine ⟨by decide, ?_⟩
  ((conv=>whnf);repeat((first|refine mvT ?_|refine mvF ?_|refine yT ?_|refine yF ?_);conv=>whnf))
  refine ⟨b, o, rfl, ⟨by omega, by simp only [List.length_cons]; omega⟩, ?_⟩
  ((conv=>whnf);repeat((first|refine mvT ?_|refine mvF ?_|refine yT ?_|refine yF ?_);conv=>whnf))
  refine ⟨_, ld h3 (by simp), ?_⟩
  ((conv=>whnf);repeat((first|refine mvT ?_|refine mvF ?_|refine yT ?_|refine yF ?_);conv=>whnf))
  refine ⟨by decide, ?_⟩
  ((conv=>whnf);repeat((first|refine mvT ?_|refine mvF ?_|refine yT ?_|refine yF ?_);conv=>whnf))
  refine ⟨b, o, rfl, ⟨by omega, by simp only [List.length_cons]; omega⟩, ?_⟩
  ((conv=>whnf);repeat((first|refine mvT ?_|refine mvF ?_|refine yT ?_|refine yF ?_);conv=>whnf))
  refine ⟨_, ld h2 (by simp), ?_⟩
  ((conv=>whnf);repeat((first|refine mvT ?_|refine mvF ?_|refine yT ?_|refine yF ?_);conv=>whnf))
  refine ⟨by decide, ?_⟩
  ((conv=>whnf);repeat((first|refine mvT ?_|refine mvF ?_|refine yT ?_|refine yF ?_);conv=>whnf))
  refine ⟨b, o, rfl, ⟨by omega, by simp only [List.length_cons]; omega⟩, ?_⟩
  ((conv=>whnf);repeat((first|refine mvT ?_|refine mvF ?_|refine yT ?_|refine yF ?_);conv=>whnf))
  refine ⟨_, ld h1 (by simp), ?_⟩
  ((conv=>whnf);repeat((first|refine mvT ?_|refine mvF ?_|refine yT ?_|refine yF ?_);conv=>whnf))
  refine ⟨by decide, ?_⟩
  ((conv=>whnf);repeat((first|refine mvT ?_|refine mvF ?_|refine yT ?_|refine yF ?_);conv=>whnf))
  refine ⟨b, o, rfl, ⟨by omega, by simp only [List.length_cons]; omega⟩, ?_⟩
  ((conv=>whnf);repeat((first|refine mvT ?_|refine mvF ?_|refine yT ?_|refine yF ?_);conv=>whnf))
  refine ⟨_, ld h0 (by simp), ?_⟩
  ((conv=>whnf);repeat((first|refine mvT ?_|refine mvF ?_|refine yT ?_|refine yF ?_);conv=>whnf))
  refine ⟨by decide, ?_⟩
  ((conv=>whnf);repeat((first|refine mvT ?_|refine mvF ?_|refine yT ?_|refine yF ?_);conv=>whnf))
  refine ⟨?_, hxd⟩
  show Value.int _ _ = _
  have hu := u7.toNat_lt
  obtain ⟨e1, l1⟩ := orK (ik := .u64) (K := 64) rfl w64 (w64 u7.toNat (by have := u7.toNat_lt; omega)) (s := 8) (i := 8) rfl (by decide) (by omega) u6
  obtain ⟨e2, l2⟩ := orK (ik := .u64) (K := 64) rfl w64 e1 (s := 16) (i := 16) rfl (by decide) l1 u5
  obtain ⟨e3, l3⟩ := orK (ik := .u64) (K := 64) rfl w64 e2 (s := 24) (i := 24) rfl (by decide) l2 u4
  obtain ⟨e4, l4⟩ := orK (ik := .u64) (K := 64) rfl w64 e3 (s := 32) (i := 32) rfl (by decide) l3 u3
  obtain ⟨e5, l5⟩ := orK (ik := .u64) (K := 64) rfl w64 e4 (s := 40) (i := 40) rfl (by decide) l4 u2
  obtain ⟨e6, l6⟩ := orK (ik := .u64) (K := 64) rfl w64 e5 (s := 48) (i := 48) rfl (by decide) l5 u1
  obtain ⟨e7, l7⟩ := orK (ik := .u64) (K := 64) rfl w64 e6 (s := 56) (i := 56) rfl (by decide) l6 u0
  rw [e7]
  simp only [List.take_succ_cons, List.take_zero]
  rw [be_step8]
  congr 1
  omega
end Go.Proofs.YtepamajphjgigaaGreatDoor.K
/-! The reader: its numbers. -/
set_option linter.unusedVariables false
set_option linter.unusedSimpArgs false
namespace Go.Proofs.YtepamajphjgigaaGreatDoor.K
open Go
set_option maxHeartbeats 1600000

/-- A number's reading: r, and the reader behind it. -/
def RdD (w : World) (F : Nat → Prop) (p : Nat) (s : Rd) (w' : World) : Prop := RdS w' F p s ∧ Ext (fun k => k = p) w w'
theorem rdK_short {k : Nat} {s : Rd} (h : s.1.length < k) : rdK k s = (0, ([], true)) := by rw [rdK, if_pos h]
theorem rdK_long {k : Nat} {s : Rd} (h : ¬ s.1.length < k) : rdK k s = (beN (s.1.take k), (s.1.drop k, s.2)) := by rw [rdK, if_neg h]
/-- The slice behind the octets that were read. -/
theorem RdS.of_cut {w : World} {F : Nat → Prop} {p : Nat} {T : TypeId} {l : List UInt8} {bad : Bool} {a' : Option Addr} {n c m : Nat} (ho : Own w p T [.slice a' n c, .bool bad]) (hs : Sl w F 1 (.slice a' n c) n ((l.map bcell).drop (m * 1))) (hn : n = (l.drop m).length) (ha : a'.isSome) (hb : bad = false) : RdS w F p (l.drop m, bad) := by
  subst hb
  refine ⟨T, _, ho, ?_, fun h => (by cases h), fun _ => ?_⟩
  · show Sl w F 1 _ _ _
    rw [map_drop_bcell] at hs
    rw [← hn]
    exact hs
  · obtain ⟨q, rfl⟩ := Option.isSome_iff_exists.1 ha
    exact ⟨q, n, c, rfl⟩
theorem RdS.nil {w : World} {F : Nat → Prop} {p : Nat} {T : TypeId} (ho : Own w p T [.slice none 0 0, .bool true]) : RdS w F p ([], true) :=
  ⟨T, _, ho, Bytes.nil _ _, fun _ => rfl, fun h => (by cases h)⟩
theorem Int16_does {w : World} {F : Nat → Prop} {p : Nat} {s : Rd} (h : RdW w F p s) (hF : ∀ k, F k → k ≠ p) : Does X.P 46 #[.pointer (some ⟨p, 0, none⟩)] w fun r w' => r = .int .i16 (IntKind.i16.wrap ((rdK 2 s).1 : Int)) ∧ RdD w F p (rdK 2 s).2 w' := by
  obtain ⟨T, v, ho, hb, hbad⟩ := h
  obtain ⟨a, c, rfl, hc, hm, hFb, _, hnil, hC⟩ := hb.view
  have hpl := ho.lt
  refine Does.go (X := X) (l := [_]) Tryz.func46 rfl (by kernel_rfl) (by kernel_rfl) _ rfl ?_
  ((conv=>whnf);repeat((first|refine mvT ?_|refine mvF ?_|refine yT ?_|refine yF ?_);conv=>whnf))
  refine ldS (ho.cell rfl) ?_;((conv=>whnf);repeat((first|refine mvT ?_|refine mvF ?_|refine yT ?_|refine yF ?_);conv=>whnf))
  refine cI (by rfl) (fun h1=>?_) (fun h1=>?_)
  · have hs : s.1.length < 2 := by have := of_decide_eq_true h1; omega
    rw [rdK_short hs]
    ((conv=>whnf);repeat((first|refine mvT ?_|refine mvF ?_|refine yT ?_|refine yF ?_);conv=>whnf))
    refine st_cell (o := 1) (v := .bool true) ho rfl (by omega) rfl (by simp) rfl ?_
    intro w1 ho1 hx1
    have ho1 : Own w1 p T [.slice a s.1.length c, .bool true] := ho1
    ((conv=>whnf);repeat((first|refine mvT ?_|refine mvF ?_|refine yT ?_|refine yF ?_);conv=>whnf))
    refine st_cell (o := 0) (v := .slice none 0 0) ho1 rfl (by omega) rfl (by simp) rfl ?_
    intro w2 ho2 hx2
    have ho2 : Own w2 p T [.slice none 0 0, .bool true] := ho2
    ((conv=>whnf);repeat((first|refine mvT ?_|refine mvF ?_|refine yT ?_|refine yF ?_);conv=>whnf))
    exact ⟨rfl, RdS.nil ho2, hx1.trans hx2 fun _ _ h => h⟩
  · have hs : ¬ s.1.length < 2 := by have := of_decide_eq_false h1; omega
    rw [rdK_long hs]
    have hsb : s.2 = false := by
      cases hq : s.2 with
      | false => rfl
      | true => exfalso; have e := hbad hq; injection e with _ e2 _; omega
    have hsome : a.isSome := by
      cases a with
      | none => have := hnil rfl; rw [this] at hs; simp at hs
      | some q => rfl
    ((conv=>whnf);repeat((first|refine mvT ?_|refine mvF ?_|refine yT ?_|refine yF ?_);conv=>whnf))
    have hxd : Ext nob w w.drew := ext_drew w
    have hod := ho.e0 hxd
    have hbd := hb.e0 hxd
    refine VD.draw mixed (.q 0 (.q 1 (.q 2 (.q 3 (.q 4 (.eff 5 [] (.q 6 (.eff 7 [] (.done))))))))) (by kernel_rfl) ?_;((conv=>whnf);repeat((first|refine mvT ?_|refine mvF ?_|refine yT ?_|refine yF ?_);conv=>whnf))
    refine ⟨[], rfl, Cells.nil _ _ _, ?_⟩
    ((conv=>whnf);repeat((first|refine mvT ?_|refine mvF ?_|refine yT ?_|refine yF ?_);conv=>whnf))
    refine ldS (hod.cell rfl) ?_;((conv=>whnf);repeat((first|refine mvT ?_|refine mvF ?_|refine yT ?_|refine yF ?_);conv=>whnf))
    refine Does.mono (BE16_does hbd (by omega)) ?_
    rintro r1 w1 ⟨rfl, hx1⟩
    ((conv=>whnf);repeat((first|refine mvT ?_|refine mvF ?_|refine yT ?_|refine yF ?_);conv=>whnf))
    have hx1 := hxd.e0 hx1
    have ho1 := ho.e0 hx1
    have hb1 := hb.e0 hx1
    refine ldS (ho1.cell rfl) ?_;((conv=>whnf);repeat((first|refine mvT ?_|refine mvF ?_|refine yT ?_|refine yF ?_);conv=>whnf))
    refine cut_lo hb1 rfl (j := 2) (m := 2) rfl (by omega) ?_
    intro a2 hs2 ha2 _
    ((conv=>whnf);repeat((first|refine mvT ?_|refine mvF ?_|refine yT ?_|refine yF ?_);conv=>whnf))
    refine st_cell (o := 0) (v := .slice a2 (s.1.length - 2) (c - 2)) ho1 rfl (by omega) rfl (by simp) rfl ?_
    intro w3 ho3 hx3
    have ho3 : Own w3 p T [.slice a2 (s.1.length - 2) (c - 2), .bool s.2] := ho3
    ((conv=>whnf);repeat((first|refine mvT ?_|refine mvF ?_|refine yT ?_|refine yF ?_);conv=>whnf))
    have hx03 : Ext (fun k => k = p) w w3 := (hx1.mono fun _ _ f => f.elim).trans hx3 fun _ _ h => h
    refine ⟨rfl, RdS.of_cut ho3 (hs2.ext hx3 fun k _ hk => hF k hk) (by rw [List.length_drop]) (ha2 hsome) hsb, hx03⟩
theorem Uint16_does {w : World} {F : Nat → Prop} {p : Nat} {s : Rd} (h : RdW w F p s) (hF : ∀ k, F k → k ≠ p) : Does X.P 67 #[.pointer (some ⟨p, 0, none⟩)] w fun r w' => r = .int .u16 (((rdK 2 s).1 : Int)) ∧ RdD w F p (rdK 2 s).2 w' := by
  obtain ⟨T, v, ho, hb, hbad⟩ := h
  obtain ⟨a, c, rfl, hc, hm, hFb, _, hnil, hC⟩ := hb.view
  have hpl := ho.lt
  refine Does.go (X := X) (l := [_]) Tryz.func67 rfl (by kernel_rfl) (by kernel_rfl) _ rfl ?_
  ((conv=>whnf);repeat((first|refine mvT ?_|refine mvF ?_|refine yT ?_|refine yF ?_);conv=>whnf))
  refine ldS (ho.cell rfl) ?_;((conv=>whnf);repeat((first|refine mvT ?_|refine mvF ?_|refine yT ?_|refine yF ?_);conv=>whnf))
  refine cI (by rfl) (fun h1=>?_) (fun h1=>?_)
  · have hs : s.1.length < 2 := by have := of_decide_eq_true h1; omega
    rw [rdK_short hs]
    ((conv=>whnf);repeat((first|refine mvT ?_|refine mvF ?_|refine yT ?_|refine yF ?_);conv=>whnf))
    refine st_cell (o := 1) (v := .bool true) ho rfl (by omega) rfl (by simp) rfl ?_
    intro w1 ho1 hx1
    have ho1 : Own w1 p T [.slice a s.1.length c, .bool true] := ho1
    ((conv=>whnf);repeat((first|refine mvT ?_|refine mvF ?_|refine yT ?_|refine yF ?_);conv=>whnf))
    refine st_cell (o := 0) (v := .slice none 0 0) ho1 rfl (by omega) rfl (by simp) rfl ?_
    intro w2 ho2 hx2
    have ho2 : Own w2 p T [.slice none 0 0, .bool true] := ho2
    ((conv=>whnf);repeat((first|refine mvT ?_|refine mvF ?_|refine yT ?_|refine yF ?_);conv=>whnf))
    exact ⟨rfl, RdS.nil ho2, hx1.trans hx2 fun _ _ h => h⟩
  · have hs : ¬ s.1.length < 2 := by have := of_decide_eq_false h1; omega
    rw [rdK_long hs]
    have hsb : s.2 = false := by
      cases hq : s.2 with
      | false => rfl
      | true => exfalso; have e := hbad hq; injection e with _ e2 _; omega
    have hsome : a.isSome := by
      cases a with
      | none => have := hnil rfl; rw [this] at hs; simp at hs
      | some q => rfl
    ((conv=>whnf);repeat((first|refine mvT ?_|refine mvF ?_|refine yT ?_|refine yF ?_);conv=>whnf))
    have hxd : Ext nob w w.drew := ext_drew w
    have hod := ho.e0 hxd
    have hbd := hb.e0 hxd
    refine VD.draw mixed (.q 0 (.q 1 (.q 2 (.q 3 (.q 4 (.eff 5 [] (.eff 6 [] (.done)))))))) (by kernel_rfl) ?_;((conv=>whnf);repeat((first|refine mvT ?_|refine mvF ?_|refine yT ?_|refine yF ?_);conv=>whnf))
    refine ⟨[], rfl, Cells.nil _ _ _, ?_⟩
    ((conv=>whnf);repeat((first|refine mvT ?_|refine mvF ?_|refine yT ?_|refine yF ?_);conv=>whnf))
    refine ldS (hod.cell rfl) ?_;((conv=>whnf);repeat((first|refine mvT ?_|refine mvF ?_|refine yT ?_|refine yF ?_);conv=>whnf))
    refine Does.mono (BE16_does hbd (by omega)) ?_
    rintro r1 w1 ⟨rfl, hx1⟩
    ((conv=>whnf);repeat((first|refine mvT ?_|refine mvF ?_|refine yT ?_|refine yF ?_);conv=>whnf))
    have hx1 := hxd.e0 hx1
    have ho1 := ho.e0 hx1
    have hb1 := hb.e0 hx1
    refine ldS (ho1.cell rfl) ?_;((conv=>whnf);repeat((first|refine mvT ?_|refine mvF ?_|refine yT ?_|refine yF ?_);conv=>whnf))
    refine cut_lo hb1 rfl (j := 2) (m := 2) rfl (by omega) ?_
    intro a2 hs2 ha2 _
    ((conv=>whnf);repeat((first|refine mvT ?_|refine mvF ?_|refine yT ?_|refine yF ?_);conv=>whnf))
    refine st_cell (o := 0) (v := .slice a2 (s.1.length - 2) (c - 2)) ho1 rfl (by omega) rfl (by simp) rfl ?_
    intro w3 ho3 hx3
    have ho3 : Own w3 p T [.slice a2 (s.1.length - 2) (c - 2), .bool s.2] := ho3
    ((conv=>whnf);repeat((first|refine mvT ?_|refine mvF ?_|refine yT ?_|refine yF ?_);conv=>whnf))
    have hx03 : Ext (fun k => k = p) w w3 := (hx1.mono fun _ _ f => f.elim).trans hx3 fun _ _ h => h
    refine ⟨rfl, RdS.of_cut ho3 (hs2.ext hx3 fun k _ hk => hF k hk) (by rw [List.length_drop]) (ha2 hsome) hsb, hx03⟩
theorem Int32_does {w : World} {F : Nat → Prop} {p : Nat} {s : Rd} (h : RdW w F p s) (hF : ∀ k, F k → k ≠ p) : Does X.P 45 #[.pointer (some ⟨p, 0, none⟩)] w fun r w' => r = .int .i32 (IntKind.i32.wrap ((rdK 4 s).1 : Int)) ∧ RdD w F p (rdK 4 s).2 w' := by
  obtain ⟨T, v, ho, hb, hbad⟩ := h
  obtain ⟨a, c, rfl, hc, hm, hFb, _, hnil, hC⟩ := hb.view
  have hpl := ho.lt
  refine Does.go (X := X) (l := [_]) Tryz.func45 rfl (by kernel_rfl) (by kernel_rfl) _ rfl ?_
  ((conv=>whnf);repeat((first|refine mvT ?_|refine mvF ?_|refine yT ?_|refine yF ?_);conv=>whnf))
  refine ldS (ho.cell rfl) ?_;((conv=>whnf);repeat((first|refine mvT ?_|refine mvF ?_|refine yT ?_|refine yF ?_);conv=>whnf))
  refine cI (by rfl) (fun h1=>?_) (fun h1=>?_)
  · have hs : s.1.length < 4 := by have := of_decide_eq_true h1; omega
    rw [rdK_short hs]
    ((conv=>whnf);repeat((first|refine mvT ?_|refine mvF ?_|refine yT ?_|refine yF ?_);conv=>whnf))
    refine st_cell (o := 1) (v := .bool true) ho rfl (by omega) rfl (by simp) rfl ?_
    intro w1 ho1 hx1
    have ho1 : Own w1 p T [.slice a s.1.length c, .bool true] := ho1
    ((conv=>whnf);repeat((first|refine mvT ?_|refine mvF ?_|refine yT ?_|refine yF ?_);conv=>whnf))
    refine st_cell (o := 0) (v := .slice none 0 0) ho1 rfl (by omega) rfl (by simp) rfl ?_
    intro w2 ho2 hx2
    have ho2 : Own w2 p T [.slice none 0 0, .bool true] := ho2
    ((conv=>whnf);repeat((first|refine mvT ?_|refine mvF ?_|refine yT ?_|refine yF ?_);conv=>whnf))
    exact ⟨rfl, RdS.nil ho2, hx1.trans hx2 fun _ _ h => h⟩
  · have hs : ¬ s.1.length < 4 := by have := of_decide_eq_false h1; omega
    rw [rdK_long hs]
    have hsb : s.2 = false := by
      cases hq : s.2 with
      | false => rfl
      | true => exfalso; have e := hbad hq; injection e with _ e2 _; omega
    have hsome : a.isSome := by
      cases a with
      | none => have := hnil rfl; rw [this] at hs; simp at hs
      | some q => rfl
    ((conv=>whnf);repeat((first|refine mvT ?_|refine mvF ?_|refine yT ?_|refine yF ?_);conv=>whnf))
    have hxd : Ext nob w w.drew := ext_drew w
    have hod := ho.e0 hxd
    have hbd := hb.e0 hxd
    refine VD.draw mixed (.q 0 (.q 1 (.q 2 (.q 3 (.q 4 (.eff 5 [] (.q 6 (.eff 7 [] (.done))))))))) (by kernel_rfl) ?_;((conv=>whnf);repeat((first|refine mvT ?_|refine mvF ?_|refine yT ?_|refine yF ?_);conv=>whnf))
    refine ⟨[], rfl, Cells.nil _ _ _, ?_⟩
    ((conv=>whnf);repeat((first|refine mvT ?_|refine mvF ?_|refine yT ?_|refine yF ?_);conv=>whnf))
    refine ldS (hod.cell rfl) ?_;((conv=>whnf);repeat((first|refine mvT ?_|refine mvF ?_|refine yT ?_|refine yF ?_);conv=>whnf))
    refine Does.mono (BE32_does hbd (by omega)) ?_
    rintro r1 w1 ⟨rfl, hx1⟩
    ((conv=>whnf);repeat((first|refine mvT ?_|refine mvF ?_|refine yT ?_|refine yF ?_);conv=>whnf))
    have hx1 := hxd.e0 hx1
    have ho1 := ho.e0 hx1
    have hb1 := hb.e0 hx1
    refine ldS (ho1.cell rfl) ?_;((conv=>whnf);repeat((first|refine mvT ?_|refine mvF ?_|refine yT ?_|refine yF ?_);conv=>whnf))
    refine cut_lo hb1 rfl (j := 4) (m := 4) rfl (by omega) ?_
    intro a2 hs2 ha2 _
    ((conv=>whnf);repeat((first|refine mvT ?_|refine mvF ?_|refine yT ?_|refine yF ?_);conv=>whnf))
    refine st_cell (o := 0) (v := .slice a2 (s.1.length - 4) (c - 4)) ho1 rfl (by omega) rfl (by simp) rfl ?_
    intro w3 ho3 hx3
    have ho3 : Own w3 p T [.slice a2 (s.1.length - 4) (c - 4), .bool s.2] := ho3
    ((conv=>whnf);repeat((first|refine mvT ?_|refine mvF ?_|refine yT ?_|refine yF ?_);conv=>whnf))
    have hx03 : Ext (fun k => k = p) w w3 := (hx1.mono fun _ _ f => f.elim).trans hx3 fun _ _ h => h
    refine ⟨rfl, RdS.of_cut ho3 (hs2.ext hx3 fun k _ hk => hF k hk) (by rw [List.length_drop]) (ha2 hsome) hsb, hx03⟩
theorem readUint64_does {w : World} {F : Nat → Prop} {p : Nat} {s : Rd} (h : RdW w F p s) (hF : ∀ k, F k → k ≠ p) : Does X.P 90 #[.pointer (some ⟨p, 0, none⟩)] w fun r w' => r = .int .u64 (((rdK 8 s).1 : Int)) ∧ RdD w F p (rdK 8 s).2 w' := by
  obtain ⟨T, v, ho, hb, hbad⟩ := h
  obtain ⟨a, c, rfl, hc, hm, hFb, _, hnil, hC⟩ := hb.view
  have hpl := ho.lt
  refine Does.go (X := X) (l := [_]) Tryz.func90 rfl (by kernel_rfl) (by kernel_rfl) _ rfl ?_
  ((conv=>whnf);repeat((first|refine mvT ?_|refine mvF ?_|refine yT ?_|refine yF ?_);conv=>whnf))
  refine ldS (ho.cell rfl) ?_;((conv=>whnf);repeat((first|refine mvT ?_|refine mvF ?_|refine yT ?_|refine yF ?_);conv=>whnf))
  refine cI (by rfl) (fun h1=>?_) (fun h1=>?_)
  · have hs : s.1.length < 8 := by have := of_decide_eq_true h1; omega
    rw [rdK_short hs]
    ((conv=>whnf);repeat((first|refine mvT ?_|refine mvF ?_|refine yT ?_|refine yF ?_);conv=>whnf))
    refine st_cell (o := 1) (v := .bool true) ho rfl (by omega) rfl (by simp) rfl ?_
    intro w1 ho1 hx1
    have ho1 : Own w1 p T [.slice a s.1.length c, .bool true] := ho1
    ((conv=>whnf);repeat((first|refine mvT ?_|refine mvF ?_|refine yT ?_|refine yF ?_);conv=>whnf))
    refine st_cell (o := 0) (v := .slice none 0 0) ho1 rfl (by omega) rfl (by simp) rfl ?_
    intro w2 ho2 hx2
    have ho2 : Own w2 p T [.slice none 0 0, .bool true] := ho2
    ((conv=>whnf);repeat((first|refine mvT ?_|refine mvF ?_|refine yT ?_|refine yF ?_);conv=>whnf))
    exact ⟨rfl, RdS.nil ho2, hx1.trans hx2 fun _ _ h => h⟩
  · have hs : ¬ s.1.length < 8 := by have := of_decide_eq_false h1; omega
    rw [rdK_long hs]
    have hsb : s.2 = false := by
      cases hq : s.2 with
      | false => rfl
      | true => exfalso; have e := hbad hq; injection e with _ e2 _; omega
    have hsome : a.isSome := by
      cases a with
      | none => have := hnil rfl; rw [this] at hs; simp at hs
      | some q => rfl
    ((conv=>whnf);repeat((first|refine mvT ?_|refine mvF ?_|refine yT ?_|refine yF ?_);conv=>whnf))
    have hxd : Ext nob w w.drew := ext_drew w
    have hod := ho.e0 hxd
    have hbd := hb.e0 hxd
    refine VD.draw mixed (.q 0 (.q 1 (.q 2 (.q 3 (.q 4 (.eff 5 [] (.eff 6 [] (.done)))))))) (by kernel_rfl) ?_;((conv=>whnf);repeat((first|refine mvT ?_|refine mvF ?_|refine yT ?_|refine yF ?_);conv=>whnf))
    refine ⟨[], rfl, Cells.nil _ _ _, ?_⟩
    ((conv=>whnf);repeat((first|refine mvT ?_|refine mvF ?_|refine yT ?_|refine yF ?_);conv=>whnf))
    refine ldS (hod.cell rfl) ?_;((conv=>whnf);repeat((first|refine mvT ?_|refine mvF ?_|refine yT ?_|refine yF ?_);conv=>whnf))
    refine Does.mono (BE64_does hbd (by omega)) ?_
    rintro r1 w1 ⟨rfl, hx1⟩
    ((conv=>whnf);repeat((first|refine mvT ?_|refine mvF ?_|refine yT ?_|refine yF ?_);conv=>whnf))
    have hx1 := hxd.e0 hx1
    have ho1 := ho.e0 hx1
    have hb1 := hb.e0 hx1
    refine ldS (ho1.cell rfl) ?_;((conv=>whnf);repeat((first|refine mvT ?_|refine mvF ?_|refine yT ?_|refine yF ?_);conv=>whnf))
    refine cut_lo hb1 rfl (j := 8) (m := 8) rfl (by omega) ?_
    intro a2 hs2 ha2 _
    ((conv=>whnf);repeat((first|refine mvT ?_|refine mvF ?_|refine yT ?_|refine yF ?_);conv=>whnf))
    refine st_cell (o := 0) (v := .slice a2 (s.1.length - 8) (c - 8)) ho1 rfl (by omega) rfl (by simp) rfl ?_
    intro w3 ho3 hx3
    have ho3 : Own w3 p T [.slice a2 (s.1.length - 8) (c - 8), .bool s.2] := ho3
    ((conv=>whnf);repeat((first|refine mvT ?_|refine mvF ?_|refine yT ?_|refine yF ?_);conv=>whnf))
    have hx03 : Ext (fun k => k = p) w w3 := (hx1.mono fun _ _ f => f.elim).trans hx3 fun _ _ h => h
    refine ⟨rfl, RdS.of_cut ho3 (hs2.ext hx3 fun k _ hk => hF k hk) (by rw [List.length_drop]) (ha2 hsome) hsb, hx03⟩
theorem Int8_does {w : World} {F : Nat → Prop} {p : Nat} {s : Rd} (h : RdW w F p s) (hF : ∀ k, F k → k ≠ p) : Does X.P 61 #[.pointer (some ⟨p, 0, none⟩)] w fun r w' => r = .int .i8 (IntKind.i8.wrap ((rdK 1 s).1 : Int)) ∧ RdD w F p (rdK 1 s).2 w' := by
  obtain ⟨T, v, ho, hb, hbad⟩ := h
  obtain ⟨a, c, rfl, hc, hm, hFb, _, hnil, hC⟩ := hb.view
  have hpl := ho.lt
  refine Does.go (X := X) (l := [_]) Tryz.func61 rfl (by kernel_rfl) (by kernel_rfl) _ rfl ?_
  ((conv=>whnf);repeat((first|refine mvT ?_|refine mvF ?_|refine yT ?_|refine yF ?_);conv=>whnf))
  refine ldS (ho.cell rfl) ?_;((conv=>whnf);repeat((first|refine mvT ?_|refine mvF ?_|refine yT ?_|refine yF ?_);conv=>whnf))
  refine cI (by rfl) (fun h1=>?_) (fun h1=>?_)
  · have hs : s.1.length < 1 := by have := of_decide_eq_true h1; omega
    rw [rdK_short hs]
    ((conv=>whnf);repeat((first|refine mvT ?_|refine mvF ?_|refine yT ?_|refine yF ?_);conv=>whnf))
    refine st_cell (o := 1) (v := .bool true) ho rfl (by omega) rfl (by simp) rfl ?_
    intro w1 ho1 hx1
    have ho1 : Own w1 p T [.slice a s.1.length c, .bool true] := ho1
    ((conv=>whnf);repeat((first|refine mvT ?_|refine mvF ?_|refine yT ?_|refine yF ?_);conv=>whnf))
    refine st_cell (o := 0) (v := .slice none 0 0) ho1 rfl (by omega) rfl (by simp) rfl ?_
    intro w2 ho2 hx2
    have ho2 : Own w2 p T [.slice none 0 0, .bool true] := ho2
    ((conv=>whnf);repeat((first|refine mvT ?_|refine mvF ?_|refine yT ?_|refine yF ?_);conv=>whnf))
    exact ⟨rfl, RdS.nil ho2, hx1.trans hx2 fun _ _ h => h⟩
  · have hs : ¬ s.1.length < 1 := by have := of_decide_eq_false h1; omega
    rw [rdK_long hs]
    have hsb : s.2 = false := by
      cases hq : s.2 with
      | false => rfl
      | true => exfalso; have e := hbad hq; injection e with _ e2 _; omega
    have hsome : a.isSome := by
      cases a with
      | none => have := hnil rfl; rw [this] at hs; simp at hs
      | some q => rfl
    ((conv=>whnf);repeat((first|refine mvT ?_|refine mvF ?_|refine yT ?_|refine yF ?_);conv=>whnf))
    refine ldS (ho.cell rfl) ?_;((conv=>whnf);repeat((first|refine mvT ?_|refine mvF ?_|refine yT ?_|refine yF ?_);conv=>whnf))
    obtain ⟨b0, o0, c0, e0, hC0⟩ := hb.at' (by omega)
    injection e0 with e0 _ _
    subst e0
    refine ⟨b0, o0, rfl, ⟨by omega, by omega⟩, ?_⟩
    ((conv=>whnf);repeat((first|refine mvT ?_|refine mvF ?_|refine yT ?_|refine yF ?_);conv=>whnf))
    obtain ⟨u0, hu0⟩ : ∃ u, s.1[0]? = some u := ⟨s.1[0]'(by omega), by simp⟩
    refine ⟨_, ld (hC0 0 u0 hu0) (by simp), ?_⟩
    ((conv=>whnf);repeat((first|refine mvT ?_|refine mvF ?_|refine yT ?_|refine yF ?_);conv=>whnf))
    have hbe : s.1.take 1 = [u0] := by
      cases hl : s.1 with
      | nil => rw [hl] at hu0; simp at hu0
      | cons x r => rw [hl] at hu0; simp only [List.getElem?_cons_zero, Option.some.injEq] at hu0; rw [hu0]; rfl
    rw [hbe]
    have hx1 : Ext nob w w := Ext.refl _ _
    have ho1 := ho
    have hb1 := hb
    refine ldS (ho1.cell rfl) ?_;((conv=>whnf);repeat((first|refine mvT ?_|refine mvF ?_|refine yT ?_|refine yF ?_);conv=>whnf))
    refine cut_lo hb1 rfl (j := 1) (m := 1) rfl (by omega) ?_
    intro a2 hs2 ha2 _
    ((conv=>whnf);repeat((first|refine mvT ?_|refine mvF ?_|refine yT ?_|refine yF ?_);conv=>whnf))
    refine st_cell (o := 0) (v := .slice a2 (s.1.length - 1) (c - 1)) ho1 rfl (by omega) rfl (by simp) rfl ?_
    intro w3 ho3 hx3
    have ho3 : Own w3 p T [.slice a2 (s.1.length - 1) (c - 1), .bool s.2] := ho3
    ((conv=>whnf);repeat((first|refine mvT ?_|refine mvF ?_|refine yT ?_|refine yF ?_);conv=>whnf))
    have hx03 : Ext (fun k => k = p) w w3 := (hx1.mono fun _ _ f => f.elim).trans hx3 fun _ _ h => h
    refine ⟨by simp [beN, oneOr], RdS.of_cut ho3 (hs2.ext hx3 fun k _ hk => hF k hk) (by rw [List.length_drop]) (ha2 hsome) hsb, hx03⟩
theorem Bool_does {w : World} {F : Nat → Prop} {p : Nat} {s : Rd} (h : RdW w F p s) (hF : ∀ k, F k → k ≠ p) : Does X.P 64 #[.pointer (some ⟨p, 0, none⟩)] w fun r w' => r = .bool (decide ((rdK 1 s).1 ≠ 0)) ∧ RdD w F p (rdK 1 s).2 w' := by
  obtain ⟨T, v, ho, hb, hbad⟩ := h
  obtain ⟨a, c, rfl, hc, hm, hFb, _, hnil, hC⟩ := hb.view
  have hpl := ho.lt
  refine Does.go (X := X) (l := [_]) Tryz.func64 rfl (by kernel_rfl) (by kernel_rfl) _ rfl ?_
  ((conv=>whnf);repeat((first|refine mvT ?_|refine mvF ?_|refine yT ?_|refine yF ?_);conv=>whnf))
  refine ldS (ho.cell rfl) ?_;((conv=>whnf);repeat((first|refine mvT ?_|refine mvF ?_|refine yT ?_|refine yF ?_);conv=>whnf))
  refine cI (by rfl) (fun h1=>?_) (fun h1=>?_)
  · have hs : s.1.length < 1 := by have := of_decide_eq_true h1; omega
    rw [rdK_short hs]
    ((conv=>whnf);repeat((first|refine mvT ?_|refine mvF ?_|refine yT ?_|refine yF ?_);conv=>whnf))
    refine st_cell (o := 1) (v := .bool true) ho rfl (by omega) rfl (by simp) rfl ?_
    intro w1 ho1 hx1
    have ho1 : Own w1 p T [.slice a s.1.length c, .bool true] := ho1
    ((conv=>whnf);repeat((first|refine mvT ?_|refine mvF ?_|refine yT ?_|refine yF ?_);conv=>whnf))
    refine st_cell (o := 0) (v := .slice none 0 0) ho1 rfl (by omega) rfl (by simp) rfl ?_
    intro w2 ho2 hx2
    have ho2 : Own w2 p T [.slice none 0 0, .bool true] := ho2
    ((conv=>whnf);repeat((first|refine mvT ?_|refine mvF ?_|refine yT ?_|refine yF ?_);conv=>whnf))
    exact ⟨rfl, RdS.nil ho2, hx1.trans hx2 fun _ _ h => h⟩
  · have hs : ¬ s.1.length < 1 := by have := of_decide_eq_false h1; omega
    rw [rdK_long hs]
    have hsb : s.2 = false := by
      cases hq : s.2 with
      | false => rfl
      | true => exfalso; have e := hbad hq; injection e with _ e2 _; omega
    have hsome : a.isSome := by
      cases a with
      | none => have := hnil rfl; rw [this] at hs; simp at hs
      | some q => rfl
    ((conv=>whnf);repeat((first|refine mvT ?_|refine mvF ?_|refine yT ?_|refine yF ?_);conv=>whnf))
    refine ldS (ho.cell rfl) ?_;((conv=>whnf);repeat((first|refine mvT ?_|refine mvF ?_|refine yT ?_|refine yF ?_);conv=>whnf))
    obtain ⟨b0, o0, c0, e0, hC0⟩ := hb.at' (by omega)
    injection e0 with e0 _ _
    subst e0
    refine ⟨b0, o0, rfl, ⟨by omega, by omega⟩, ?_⟩
    ((conv=>whnf);repeat((first|refine mvT ?_|refine mvF ?_|refine yT ?_|refine yF ?_);conv=>whnf))
    obtain ⟨u0, hu0⟩ : ∃ u, s.1[0]? = some u := ⟨s.1[0]'(by omega), by simp⟩
    refine ⟨_, ld (hC0 0 u0 hu0) (by simp), ?_⟩
    ((conv=>whnf);repeat((first|refine mvT ?_|refine mvF ?_|refine yT ?_|refine yF ?_);conv=>whnf))
    have hbe : s.1.take 1 = [u0] := by
      cases hl : s.1 with
      | nil => rw [hl] at hu0; simp at hu0
      | cons x r => rw [hl] at hu0; simp only [List.getElem?_cons_zero, Option.some.injEq] at hu0; rw [hu0]; rfl
    rw [hbe]
    have hx1 : Ext nob w w := Ext.refl _ _
    have ho1 := ho
    have hb1 := hb
    refine ldS (ho1.cell rfl) ?_;((conv=>whnf);repeat((first|refine mvT ?_|refine mvF ?_|refine yT ?_|refine yF ?_);conv=>whnf))
    refine cut_lo hb1 rfl (j := 1) (m := 1) rfl (by omega) ?_
    intro a2 hs2 ha2 _
    ((conv=>whnf);repeat((first|refine mvT ?_|refine mvF ?_|refine yT ?_|refine yF ?_);conv=>whnf))
    refine st_cell (o := 0) (v := .slice a2 (s.1.length - 1) (c - 1)) ho1 rfl (by omega) rfl (by simp) rfl ?_
    intro w3 ho3 hx3
    have ho3 : Own w3 p T [.slice a2 (s.1.length - 1) (c - 1), .bool s.2] := ho3
    ((conv=>whnf);repeat((first|refine mvT ?_|refine mvF ?_|refine yT ?_|refine yF ?_);conv=>whnf))
    (refine mvB ?_;((conv=>whnf);repeat((first|refine mvT ?_|refine mvF ?_|refine yT ?_|refine yF ?_);conv=>whnf)))
    have hx03 : Ext (fun k => k = p) w w3 := (hx1.mono fun _ _ f => f.elim).trans hx3 fun _ _ h => h
    refine ⟨by simp [beN, oneOr, bne]; rw [Bool.eq_iff_iff]; simp, RdS.of_cut ho3 (hs2.ext hx3 fun k _ hk => hF k hk) (by rw [List.length_drop]) (ha2 hsome) hsb, hx03⟩
theorem Int64_does {w : World} {F : Nat → Prop} {p : Nat} {s : Rd} (h : RdW w F p s) (hF : ∀ k, F k → k ≠ p) : Does X.P 55 #[.pointer (some ⟨p, 0, none⟩)] w fun r w' => r = .int .i64 (IntKind.i64.wrap ((rdK 8 s).1 : Int)) ∧ RdD w F p (rdK 8 s).2 w' := by
  refine Does.go (X := X) (l := [_]) Tryz.func55 rfl (by kernel_rfl) (by kernel_rfl) _ rfl ?_
  ((conv=>whnf);repeat((first|refine mvT ?_|refine mvF ?_|refine yT ?_|refine yF ?_);conv=>whnf))
  refine Does.mono (readUint64_does h hF) ?_;rintro r w1 ⟨rfl, h1⟩;((conv=>whnf);repeat((first|refine mvT ?_|refine mvF ?_|refine yT ?_|refine yF ?_);conv=>whnf))
  exact ⟨rfl, h1⟩
end Go.Proofs.YtepamajphjgigaaGreatDoor.K
/-! The reader: numbers in groups of seven bits. -/
set_option linter.unusedVariables false
set_option linter.unusedSimpArgs false
namespace Go.Proofs.YtepamajphjgigaaGreatDoor.K
open Go
set_option maxHeartbeats 1600000

/-- The number, and how many octets it has (0: it is none). -/
def uvP : List UInt8 → Nat × Nat
  | [] => (0, 0)
  | a :: r1 => if a.toNat < 128 then (a.toNat % 128, 1) else
    match r1 with
    | [] => (0, 0)
    | b :: r2 => if b.toNat < 128 then (a.toNat % 128 + b.toNat % 128 * 128, 2) else
      match r2 with
      | [] => (0, 0)
      | c :: r3 => if c.toNat < 128 then (a.toNat % 128 + b.toNat % 128 * 128 + c.toNat % 128 * 16384, 3) else
        match r3 with
        | [] => (0, 0)
        | d :: r4 => if d.toNat < 128 then (a.toNat % 128 + b.toNat % 128 * 128 + c.toNat % 128 * 16384 + d.toNat % 128 * 2097152, 4) else
          match r4 with
          | [] => (0, 0)
          | e :: r5 => if e.toNat < 16 then (a.toNat % 128 + b.toNat % 128 * 128 + c.toNat % 128 * 16384 + d.toNat % 128 * 2097152 + e.toNat * 268435456, 5) else (0, 0)
theorem rdUv_eq (l : List UInt8) (bad : Bool) : rdUv (l, bad) = if (uvP l).2 = 0 then (0, ([], true)) else ((uvP l).1, (l.drop (uvP l).2, bad)) := by
  unfold rdUv uvP
  match l with
  | [] => rfl
  | a :: r1 =>
    dsimp only
    split
    · rfl
    match r1 with
    | [] => rfl
    | b :: r2 =>
      dsimp only
      split
      · rfl
      match r2 with
      | [] => rfl
      | c :: r3 =>
        dsimp only
        split
        · rfl
        match r3 with
        | [] => rfl
        | d :: r4 =>
          dsimp only
          split
          · rfl
          match r4 with
          | [] => rfl
          | e :: r5 =>
            dsimp only
            split
            · rfl
            · rfl
theorem uvP_len (l : List UInt8) : (uvP l).2 ≤ l.length := by
  unfold uvP
  match l with
  | [] => simp
  | a :: r1 =>
    dsimp only
    split
    · simp
    match r1 with
    | [] => simp
    | b :: r2 =>
      dsimp only
      split
      · simp
      match r2 with
      | [] => simp
      | c :: r3 =>
        dsimp only
        split
        · simp
        match r3 with
        | [] => simp
        | d :: r4 =>
          dsimp only
          split
          · simp
          match r4 with
          | [] => simp
          | e :: r5 =>
            dsimp only
            split
            · simp
            · simp
theorem uvP_lt (l : List UInt8) : (uvP l).1 < 4294967296 := by
  unfold uvP
  match l with
  | [] => simp
  | a :: r1 =>
    have := a.toNat_lt
    dsimp only
    split
    · omega
    match r1 with
    | [] => simp
    | b :: r2 =>
      have := b.toNat_lt
      dsimp only
      split
      · omega
      match r2 with
      | [] => simp
      | c :: r3 =>
        have := c.toNat_lt
        dsimp only
        split
        · omega
        match r3 with
        | [] => simp
        | d :: r4 =>
          have := d.toNat_lt
          dsimp only
          split
          · omega
          match r4 with
          | [] => simp
          | e :: r5 =>
            have := e.toNat_lt
            dsimp only
            split
            · omega
            · simp
theorem rdUv_lt (s : Rd) : (rdUv s).1 < 4294967296 := by
  obtain ⟨l, b⟩ := s
  rw [rdUv_eq]
  split
  · simp
  · exact uvP_lt l
theorem and128 : ∀ m : Nat, m < 256 → IntKind.u8.wrap ((BitVec.ofInt 8 (m : Int) &&& BitVec.ofInt 8 128).toNat : Int) = (if m < 128 then 0 else 128) := by decide +kernel
theorem lo7 (u : UInt8) : IntKind.u32.wrap (IntKind.u8.wrap ((BitVec.ofInt IntKind.u8.bits (u.toNat : Int) &&& BitVec.ofInt IntKind.u8.bits 127).toNat : Int)) = ((u.toNat % 128 : Nat) : Int) := by
  have hu := u.toNat_lt
  rw [show IntKind.u8.bits = 8 from rfl, and127 u.toNat 8 (by decide) (by omega), show IntKind.u8.wrap ((u.toNat % 128 : Nat) : Int) = ((u.toNat % 128 : Nat) : Int) by rw [IntKind.wrap_u8]; omega, wrap_u32]
  omega
theorem or7 {x s : Int} {n i y : Nat} (hx : x = (n : Int)) (hs : min s.toNat IntKind.u32.bits = i) (hi : i + 4 ≤ 32) (hn : n < 2 ^ i) (hy : y * 2 ^ i < 2 ^ 32) :
    IntKind.u32.wrap ((BitVec.ofInt IntKind.u32.bits x ||| BitVec.ofInt IntKind.u32.bits (IntKind.u32.wrap ((y : Int) * 2 ^ min s.toNat IntKind.u32.bits))).toNat : Int) = ((n + y * 2 ^ i : Nat) : Int) := by
  subst hx
  rw [hs]
  have e : ((y : Int) * 2 ^ i) = ((y * 2 ^ i : Nat) : Int) := by push_cast; rfl
  have h1 := or_shift 32 i n y hn hy (by omega)
  rw [e, w32 (y * 2 ^ i) hy, show IntKind.u32.bits = 32 from rfl, h1, wrap_u32]
  have hb : n + y * 2 ^ i < 2 ^ 32 := by
    rw [← h1]
    exact BitVec.isLt _
  omega
theorem bit7 (u : UInt8) : ((IntKind.u8.wrap ((BitVec.ofInt IntKind.u8.bits (u.toNat : Int) &&& BitVec.ofInt IntKind.u8.bits 128).toNat : Int)) == 0) = decide (u.toNat < 128) := by
  have := and128 u.toNat u.toNat_lt
  rw [show IntKind.u8.bits = 8 from rfl, this]
  by_cases h : u.toNat < 128
  · simp [h]
  · simp [h]
theorem kUvarint_does {w : World} {F : Nat → Prop} {x : Value} {l : List UInt8} (hx : Bytes w F x l) : Does X.P 100 #[x] w fun r w' => (∃ n : Int, r = .tuple #[.int .u32 ((uvP l).1 : Int), .int .i64 n] ∧ ((uvP l).2 = 0 → n ≤ 0 ∧ (uvP l).1 = 0) ∧ (0 < (uvP l).2 → n = ((uvP l).2 : Int))) ∧ w' = w := by
  obtain ⟨a, c, rfl, hc, hm, _, _, hnil, hC⟩ := hx.view
  refine Does.go (X := X) (l := [_]) Tryz.func100 rfl (by kernel_rfl) (by kernel_rfl) _ rfl ?_
  ((conv=>whnf);repeat((first|refine mvT ?_|refine mvF ?_|refine yT ?_|refine yF ?_);conv=>whnf))
  refine VO.scope (l := 0) (fun m : Int => [(5, .int .i64 m)]) (fun m w' => m ≤ 0 ∧ uvP l = (0, 0) ∧ w' = w) rfl ?_ ?_
  · ((conv=>whnf);repeat((first|refine mvT ?_|refine mvF ?_|refine yT ?_|refine yF ?_);conv=>whnf))
    refine cI (by rfl) (fun hl0=>?_) (fun hl0=>?_)
    · have hr : l = [] := List.eq_nil_of_length_eq_zero (by have := of_decide_eq_true hl0; omega)
      subst hr
      ((conv=>whnf);repeat((first|refine mvT ?_|refine mvF ?_|refine yT ?_|refine yF ?_);conv=>whnf))
      refine VO.goto ?_
      exact ⟨0, ⟨rfl, trivial⟩, Int.le_refl _, by simp [uvP], rfl⟩
    obtain ⟨u0, r0, rfl⟩ : ∃ u r, l = u :: r := by
      cases hq : l with
      | nil => exfalso; have := of_decide_eq_false hl0; rw [hq] at this; simp at this
      | cons u r => exact ⟨u, r, rfl⟩
    obtain ⟨b0, o0, rfl, _⟩ := hC 0 u0 rfl
    obtain ⟨b1, o1, e1, hc0⟩ := hC 0 u0 rfl
    simp only [Option.some.injEq, Addr.mk.injEq, and_true] at e1
    rw [← e1.1, ← e1.2] at hc0
    have hu0 := u0.toNat_lt
    ((conv=>whnf);repeat((first|refine mvT ?_|refine mvF ?_|refine yT ?_|refine yF ?_);conv=>whnf))
    refine ⟨b0, o0, rfl, ⟨by omega, by simp only [List.length_cons]; omega⟩, ?_⟩
    ((conv=>whnf);repeat((first|refine mvT ?_|refine mvF ?_|refine yT ?_|refine yF ?_);conv=>whnf))
    refine ⟨_, ld hc0 (by simp), ?_⟩
    ((conv=>whnf);repeat((first|refine mvT ?_|refine mvF ?_|refine yT ?_|refine yF ?_);conv=>whnf))
    rw [lo7 u0]
    refine ⟨b0, o0, rfl, ⟨by omega, by simp only [List.length_cons]; omega⟩, ?_⟩
    ((conv=>whnf);repeat((first|refine mvT ?_|refine mvF ?_|refine yT ?_|refine yF ?_);conv=>whnf))
    refine ⟨_, ld hc0 (by simp), ?_⟩
    ((conv=>whnf);repeat((first|refine mvT ?_|refine mvF ?_|refine yT ?_|refine yF ?_);conv=>whnf))
    rw [bit7 u0]
    refine cI (by rfl) (fun hb0=>?_) (fun hb0=>?_)
    · have hb0 := of_decide_eq_true hb0
      ((conv=>whnf);repeat((first|refine mvT ?_|refine mvF ?_|refine yT ?_|refine yF ?_);conv=>whnf))
      refine ⟨⟨1, ?_, ?_, ?_⟩, rfl⟩
      · simp [uvP, hb0, oneOr]
      · simp [uvP, hb0]
      · simp [uvP, hb0]
    have hb0 := of_decide_eq_false hb0
    ((conv=>whnf);repeat((first|refine mvT ?_|refine mvF ?_|refine yT ?_|refine yF ?_);conv=>whnf))
    refine cI (by rfl) (fun hl1=>?_) (fun hl1=>?_)
    · have hr : r0 = [] := List.eq_nil_of_length_eq_zero (by have := of_decide_eq_true hl1; simp only [List.length_cons] at this; omega)
      subst hr
      ((conv=>whnf);repeat((first|refine mvT ?_|refine mvF ?_|refine yT ?_|refine yF ?_);conv=>whnf))
      refine VO.goto ?_
      exact ⟨0, ⟨rfl, trivial⟩, Int.le_refl _, by simp [uvP, hb0], rfl⟩
    obtain ⟨u1, r1, rfl⟩ : ∃ u r, r0 = u :: r := by
      cases hq : r0 with
      | nil => exfalso; have := of_decide_eq_false hl1; rw [hq] at this; simp at this
      | cons u r => exact ⟨u, r, rfl⟩
    skip
    obtain ⟨b2, o2, e2, hc1⟩ := hC 1 u1 rfl
    simp only [Option.some.injEq, Addr.mk.injEq, and_true] at e2
    rw [← e2.1, ← e2.2] at hc1
    have hu1 := u1.toNat_lt
    ((conv=>whnf);repeat((first|refine mvT ?_|refine mvF ?_|refine yT ?_|refine yF ?_);conv=>whnf))
    refine ⟨b0, o0, rfl, ⟨by omega, by simp only [List.length_cons]; omega⟩, ?_⟩
    ((conv=>whnf);repeat((first|refine mvT ?_|refine mvF ?_|refine yT ?_|refine yF ?_);conv=>whnf))
    refine ⟨_, ld hc1 (by simp), ?_⟩
    ((conv=>whnf);repeat((first|refine mvT ?_|refine mvF ?_|refine yT ?_|refine yF ?_);conv=>whnf))
    refine ⟨by decide, ?_⟩
    ((conv=>whnf);repeat((first|refine mvT ?_|refine mvF ?_|refine yT ?_|refine yF ?_);conv=>whnf))
    rw [lo7 u1, or7 (s := 7) (i := 7) (n := u0.toNat % 128) (y := u1.toNat % 128) rfl rfl (by decide) (by omega) (by omega)]
    refine ⟨b0, o0, rfl, ⟨by omega, by simp only [List.length_cons]; omega⟩, ?_⟩
    ((conv=>whnf);repeat((first|refine mvT ?_|refine mvF ?_|refine yT ?_|refine yF ?_);conv=>whnf))
    refine ⟨_, ld hc1 (by simp), ?_⟩
    ((conv=>whnf);repeat((first|refine mvT ?_|refine mvF ?_|refine yT ?_|refine yF ?_);conv=>whnf))
    rw [bit7 u1]
    refine cI (by rfl) (fun hb1=>?_) (fun hb1=>?_)
    · have hb1 := of_decide_eq_true hb1
      ((conv=>whnf);repeat((first|refine mvT ?_|refine mvF ?_|refine yT ?_|refine yF ?_);conv=>whnf))
      refine ⟨⟨2, ?_, ?_, ?_⟩, rfl⟩
      · simp [uvP, hb0, hb1, oneOr]
      · simp [uvP, hb0, hb1]
      · simp [uvP, hb0, hb1]
    have hb1 := of_decide_eq_false hb1
    ((conv=>whnf);repeat((first|refine mvT ?_|refine mvF ?_|refine yT ?_|refine yF ?_);conv=>whnf))
    refine cI (by rfl) (fun hl2=>?_) (fun hl2=>?_)
    · have hr : r1 = [] := List.eq_nil_of_length_eq_zero (by have := of_decide_eq_true hl2; simp only [List.length_cons] at this; omega)
      subst hr
      ((conv=>whnf);repeat((first|refine mvT ?_|refine mvF ?_|refine yT ?_|refine yF ?_);conv=>whnf))
      refine VO.goto ?_
      exact ⟨0, ⟨rfl, trivial⟩, Int.le_refl _, by simp [uvP, hb0, hb1], rfl⟩
    obtain ⟨u2, r2, rfl⟩ : ∃ u r, r1 = u :: r := by
      cases hq : r1 with
      | nil => exfalso; have := of_decide_eq_false hl2; rw [hq] at this; simp at this
      | cons u r => exact ⟨u, r, rfl⟩
    skip
    obtain ⟨b3, o3, e3, hc2⟩ := hC 2 u2 rfl
    simp only [Option.some.injEq, Addr.mk.injEq, and_true] at e3
    rw [← e3.1, ← e3.2] at hc2
    have hu2 := u2.toNat_lt
    ((conv=>whnf);repeat((first|refine mvT ?_|refine mvF ?_|refine yT ?_|refine yF ?_);conv=>whnf))
    refine ⟨b0, o0, rfl, ⟨by omega, by simp only [List.length_cons]; omega⟩, ?_⟩
    ((conv=>whnf);repeat((first|refine mvT ?_|refine mvF ?_|refine yT ?_|refine yF ?_);conv=>whnf))
    refine ⟨_, ld hc2 (by simp), ?_⟩
    ((conv=>whnf);repeat((first|refine mvT ?_|refine mvF ?_|refine yT ?_|refine yF ?_);conv=>whnf))
    refine ⟨by decide, ?_⟩
    ((conv=>whnf);repeat((first|refine mvT ?_|refine mvF ?_|refine yT ?_|refine yF ?_);conv=>whnf))
    rw [lo7 u2, or7 (s := 14) (i := 14) (n := u0.toNat % 128 + u1.toNat % 128 * 2 ^ 7) (y := u2.toNat % 128) rfl rfl (by decide) (by omega) (by omega)]
    refine ⟨b0, o0, rfl, ⟨by omega, by simp only [List.length_cons]; omega⟩, ?_⟩
    ((conv=>whnf);repeat((first|refine mvT ?_|refine mvF ?_|refine yT ?_|refine yF ?_);conv=>whnf))
    refine ⟨_, ld hc2 (by simp), ?_⟩
    ((conv=>whnf);repeat((first|refine mvT ?_|refine mvF ?_|refine yT ?_|refine yF ?_);conv=>whnf))
    rw [bit7 u2]
    refine cI (by rfl) (fun hb2=>?_) (fun hb2=>?_)
    · have hb2 := of_decide_eq_true hb2
      ((conv=>whnf);repeat((first|refine mvT ?_|refine mvF ?_|refine yT ?_|refine yF ?_);conv=>whnf))
      refine ⟨⟨3, ?_, ?_, ?_⟩, rfl⟩
      · simp [uvP, hb0, hb1, hb2, oneOr]
      · simp [uvP, hb0, hb1, hb2]
      · simp [uvP, hb0, hb1, hb2]
    have hb2 := of_decide_eq_false hb2
    ((conv=>whnf);repeat((first|refine mvT ?_|refine mvF ?_|refine yT ?_|refine yF ?_);conv=>whnf))
    refine cI (by rfl) (fun hl3=>?_) (fun hl3=>?_)
    · have hr : r2 = [] := List.eq_nil_of_length_eq_zero (by have := of_decide_eq_true hl3; simp only [List.length_cons] at this; omega)
      subst hr
      ((conv=>whnf);repeat((first|refine mvT ?_|refine mvF ?_|refine yT ?_|refine yF ?_);conv=>whnf))
      refine VO.goto ?_
      exact ⟨0, ⟨rfl, trivial⟩, Int.le_refl _, by simp [uvP, hb0, hb1, hb2], rfl⟩
    obtain ⟨u3, r3, rfl⟩ : ∃ u r, r2 = u :: r := by
      cases hq : r2 with
      | nil => exfalso; have := of_decide_eq_false hl3; rw [hq] at this; simp at this
      | cons u r => exact ⟨u, r, rfl⟩
    skip
    obtain ⟨b4, o4, e4, hc3⟩ := hC 3 u3 rfl
    simp only [Option.some.injEq, Addr.mk.injEq, and_true] at e4
    rw [← e4.1, ← e4.2] at hc3
    have hu3 := u3.toNat_lt
    ((conv=>whnf);repeat((first|refine mvT ?_|refine mvF ?_|refine yT ?_|refine yF ?_);conv=>whnf))
    refine ⟨b0, o0, rfl, ⟨by omega, by simp only [List.length_cons]; omega⟩, ?_⟩
    ((conv=>whnf);repeat((first|refine mvT ?_|refine mvF ?_|refine yT ?_|refine yF ?_);conv=>whnf))
    refine ⟨_, ld hc3 (by simp), ?_⟩
    ((conv=>whnf);repeat((first|refine mvT ?_|refine mvF ?_|refine yT ?_|refine yF ?_);conv=>whnf))
    refine ⟨by decide, ?_⟩
    ((conv=>whnf);repeat((first|refine mvT ?_|refine mvF ?_|refine yT ?_|refine yF ?_);conv=>whnf))
    rw [lo7 u3, or7 (s := 21) (i := 21) (n := u0.toNat % 128 + u1.toNat % 128 * 2 ^ 7 + u2.toNat % 128 * 2 ^ 14) (y := u3.toNat % 128) rfl rfl (by decide) (by omega) (by omega)]
    refine ⟨b0, o0, rfl, ⟨by omega, by simp only [List.length_cons]; omega⟩, ?_⟩
    ((conv=>whnf);repeat((first|refine mvT ?_|refine mvF ?_|refine yT ?_|refine yF ?_);conv=>whnf))
    refine ⟨_, ld hc3 (by simp), ?_⟩
    ((conv=>whnf);repeat((first|refine mvT ?_|refine mvF ?_|refine yT ?_|refine yF ?_);conv=>whnf))
    rw [bit7 u3]
    refine cI (by rfl) (fun hb3=>?_) (fun hb3=>?_)
    · have hb3 := of_decide_eq_true hb3
      ((conv=>whnf);repeat((first|refine mvT ?_|refine mvF ?_|refine yT ?_|refine yF ?_);conv=>whnf))
      refine ⟨⟨4, ?_, ?_, ?_⟩, rfl⟩
      · simp [uvP, hb0, hb1, hb2, hb3, oneOr]
      · simp [uvP, hb0, hb1, hb2, hb3]
      · simp [uvP, hb0, hb1, hb2, hb3]
    have hb3 := of_decide_eq_false hb3
    ((conv=>whnf);repeat((first|refine mvT ?_|refine mvF ?_|refine yT ?_|refine yF ?_);conv=>whnf))
    refine cI (by rfl) (fun hl4=>?_) (fun hl4=>?_)
    · have hr : r3 = [] := List.eq_nil_of_length_eq_zero (by have := of_decide_eq_true hl4; simp only [List.length_cons] at this; omega)
      subst hr
      ((conv=>whnf);repeat((first|refine mvT ?_|refine mvF ?_|refine yT ?_|refine yF ?_);conv=>whnf))
      refine VO.goto ?_
      exact ⟨0, ⟨rfl, trivial⟩, Int.le_refl _, by simp [uvP, hb0, hb1, hb2, hb3], rfl⟩
    obtain ⟨u4, r4, rfl⟩ : ∃ u r, r3 = u :: r := by
      cases hq : r3 with
      | nil => exfalso; have := of_decide_eq_false hl4; rw [hq] at this; simp at this
      | cons u r => exact ⟨u, r, rfl⟩
    skip
    obtain ⟨b5, o5, e5, hc4⟩ := hC 4 u4 rfl
    simp only [Option.some.injEq, Addr.mk.injEq, and_true] at e5
    rw [← e5.1, ← e5.2] at hc4
    have hu4 := u4.toNat_lt
    ((conv=>whnf);repeat((first|refine mvT ?_|refine mvF ?_|refine yT ?_|refine yF ?_);conv=>whnf))
    refine ⟨b0, o0, rfl, ⟨by omega, by simp only [List.length_cons]; omega⟩, ?_⟩
    ((conv=>whnf);repeat((first|refine mvT ?_|refine mvF ?_|refine yT ?_|refine yF ?_);conv=>whnf))
    refine ⟨_, ld hc4 (by simp), ?_⟩
    ((conv=>whnf);repeat((first|refine mvT ?_|refine mvF ?_|refine yT ?_|refine yF ?_);conv=>whnf))
    refine ⟨by decide, ?_⟩
    ((conv=>whnf);repeat((first|refine mvT ?_|refine mvF ?_|refine yT ?_|refine yF ?_);conv=>whnf))
    skip
    refine ⟨b0, o0, rfl, ⟨by omega, by simp only [List.length_cons]; omega⟩, ?_⟩
    ((conv=>whnf);repeat((first|refine mvT ?_|refine mvF ?_|refine yT ?_|refine yF ?_);conv=>whnf))
    refine ⟨_, ld hc4 (by simp), ?_⟩
    ((conv=>whnf);repeat((first|refine mvT ?_|refine mvF ?_|refine yT ?_|refine yF ?_);conv=>whnf))
    refine cI (by rfl) (fun hb4=>?_) (fun hb4=>?_)
    · have hb4 : u4.toNat < 16 := by have := of_decide_eq_true hb4; omega
      ((conv=>whnf);repeat((first|refine mvT ?_|refine mvF ?_|refine yT ?_|refine yF ?_);conv=>whnf))
      rw [w32 u4.toNat (by omega), or7 (s := 28) (i := 28) (n := u0.toNat % 128 + u1.toNat % 128 * 2 ^ 7 + u2.toNat % 128 * 2 ^ 14 + u3.toNat % 128 * 2 ^ 21) (y := u4.toNat) rfl rfl (by decide) (by omega) (by omega)]
      refine ⟨⟨5, ?_, ?_, ?_⟩, rfl⟩
      · simp [uvP, hb0, hb1, hb2, hb3, hb4, oneOr]
      · simp [uvP, hb0, hb1, hb2, hb3, hb4]
      · simp [uvP, hb0, hb1, hb2, hb3, hb4]
    have hb4 : ¬ u4.toNat < 16 := by have := of_decide_eq_false hb4; omega
    ((conv=>whnf);repeat((first|refine mvT ?_|refine mvF ?_|refine yT ?_|refine yF ?_);conv=>whnf))
    refine VO.label ?_
    ((conv=>whnf);repeat((first|refine mvT ?_|refine mvF ?_|refine yT ?_|refine yF ?_);conv=>whnf))
    refine ⟨⟨-5, ?_, ?_, ?_⟩, rfl⟩
    · simp [uvP, oneOr, hb0, hb1, hb2, hb3, hb4]
    · simp [uvP, hb0, hb1, hb2, hb3, hb4]
    · simp [uvP, hb0, hb1, hb2, hb3, hb4]
  · rintro m w1 ⟨hm0, hl, rfl⟩
    ((conv=>whnf);repeat((first|refine mvT ?_|refine mvF ?_|refine yT ?_|refine yF ?_);conv=>whnf))
    refine ⟨⟨m, ?_, ?_, ?_⟩, rfl⟩
    · simp [hl, oneOr]
    · simp [hl, hm0]
    · simp [hl]
end Go.Proofs.YtepamajphjgigaaGreatDoor.K
/-! The reader: spans, texts, octets, counts. -/
set_option linter.unusedVariables false
set_option linter.unusedSimpArgs false
namespace Go.Proofs.YtepamajphjgigaaGreatDoor.K
open Go
set_option maxHeartbeats 1600000

theorem Own.inj {w : World} {p : Nat} {T T' : TypeId} {l l' : List Value} (h : Own w p T l) (h' : Own w p T' l') : l = l' := by
  have e := h.symm.trans h'
  simp only [Option.some.injEq, Obj.cells.injEq] at e
  have := e.1
  simpa using this
theorem RdS.nn {w : World} {F : Nat → Prop} {p : Nat} {s : Rd} {T : TypeId} {v : Value} (h : RdS w F p s) (ho : Own w p T [v, .bool s.2]) (hb : s.2 = false) : ∃ a n c, v = .slice (some a) n c := by
  obtain ⟨T', v', ho', _, _, h4⟩ := h
  have e := ho.inj ho'
  simp only [List.cons.injEq, and_true] at e
  rw [e]
  exact h4 hb
theorem RdD.tr {w w1 w2 : World} {F : Nat → Prop} {p : Nat} {s s' : Rd} (h1 : RdD w F p s w1) (h2 : RdD w1 F p s' w2) : RdD w F p s' w2 := ⟨h2.1, h1.2.trans h2.2 fun _ _ h => h⟩
theorem rdUvarint_does {w : World} {F : Nat → Prop} {p : Nat} {s : Rd} (h : RdW w F p s) (hF : ∀ k, F k → k ≠ p) : Does X.P 87 #[.pointer (some ⟨p, 0, none⟩)] w fun r w' => r = .int .u32 ((rdUv s).1 : Int) ∧ RdD w F p (rdUv s).2 w' := by
  obtain ⟨T, v, ho, hb, hbad⟩ := h
  obtain ⟨l, bad⟩ := s
  obtain ⟨a, c, rfl, hc, hm, hFb, _, hnil, hC⟩ := hb.view
  dsimp only at ho hb hbad hc hFb hnil hC
  have hpl := ho.lt
  have hul := uvP_len l
  rw [rdUv_eq]
  refine Does.go (X := X) (l := [_]) Tryz.func87 rfl (by kernel_rfl) (by kernel_rfl) _ rfl ?_
  ((conv=>whnf);repeat((first|refine mvT ?_|refine mvF ?_|refine yT ?_|refine yF ?_);conv=>whnf))
  refine ldS (ho.cell rfl) ?_;((conv=>whnf);repeat((first|refine mvT ?_|refine mvF ?_|refine yT ?_|refine yF ?_);conv=>whnf))
  refine Does.mono (kUvarint_does hb) ?_;rintro r1 w1 ⟨⟨n, rfl, hn0, hn1⟩, rfl⟩;((conv=>whnf);repeat((first|refine mvT ?_|refine mvF ?_|refine yT ?_|refine yF ?_);conv=>whnf))
  refine cI (by rfl) (fun h1=>?_) (fun h1=>?_)
  · have hz : (uvP l).2 = 0 := by
      have := of_decide_eq_true h1
      rcases Nat.eq_zero_or_pos (uvP l).2 with h | h
      · exact h
      · have := hn1 h; omega
    rw [if_pos hz]
    ((conv=>whnf);repeat((first|refine mvT ?_|refine mvF ?_|refine yT ?_|refine yF ?_);conv=>whnf))
    refine st_cell (o := 1) (v := .bool true) ho rfl (by omega) rfl (by simp) rfl ?_
    intro w2 ho2 hx2
    have ho2 : Own w2 p T [.slice a l.length c, .bool true] := ho2
    ((conv=>whnf);repeat((first|refine mvT ?_|refine mvF ?_|refine yT ?_|refine yF ?_);conv=>whnf))
    refine st_cell (o := 0) (v := .slice none 0 0) ho2 rfl (by omega) rfl (by simp) rfl ?_
    intro w3 ho3 hx3
    have ho3 : Own w3 p T [.slice none 0 0, .bool true] := ho3
    ((conv=>whnf);repeat((first|refine mvT ?_|refine mvF ?_|refine yT ?_|refine yF ?_);conv=>whnf))
    exact ⟨rfl, RdS.nil ho3, hx2.trans hx3 fun _ _ h => h⟩
  · have hz : ¬ (uvP l).2 = 0 := by
      intro hz
      have := of_decide_eq_false h1
      have := (hn0 hz).1
      omega
    rw [if_neg hz]
    have hnv := hn1 (by omega)
    subst hnv
    have hsb : bad = false := by
      cases hq : bad with
      | false => rfl
      | true => exfalso; have e := hbad hq; injection e with _ e2 _; omega
    have hsome : a.isSome := by
      cases a with
      | none => exfalso; have hl := hnil rfl; rw [hl] at hz; exact hz rfl
      | some q => rfl
    ((conv=>whnf);repeat((first|refine mvT ?_|refine mvF ?_|refine yT ?_|refine yF ?_);conv=>whnf))
    refine ldS (ho.cell rfl) ?_;((conv=>whnf);repeat((first|refine mvT ?_|refine mvF ?_|refine yT ?_|refine yF ?_);conv=>whnf))
    refine cut_lo hb rfl (j := ((uvP l).2 : Int)) (m := (uvP l).2) rfl hul ?_
    intro a2 hs2 ha2 _
    ((conv=>whnf);repeat((first|refine mvT ?_|refine mvF ?_|refine yT ?_|refine yF ?_);conv=>whnf))
    refine st_cell (o := 0) (v := .slice a2 (l.length - (uvP l).2) (c - (uvP l).2)) ho rfl (by omega) rfl (by simp) rfl ?_
    intro w3 ho3 hx3
    have ho3 : Own w3 p T [.slice a2 (l.length - (uvP l).2) (c - (uvP l).2), .bool bad] := ho3
    ((conv=>whnf);repeat((first|refine mvT ?_|refine mvF ?_|refine yT ?_|refine yF ?_);conv=>whnf))
    refine ⟨rfl, RdS.of_cut ho3 (hs2.ext hx3 fun k _ hk => hF k hk) (by rw [List.length_drop]) (ha2 hsome) hsb, hx3⟩
/-- So many octets; unless too few are there, they are no nil slice. -/
theorem Span_does {w : World} {F : Nat → Prop} {p : Nat} {s : Rd} (h : RdW w F p s) (n : Int) (hst : RdS w F p s ∨ 0 < n) (hF : ∀ k, F k → k ≠ p) : Does X.P 89 #[.pointer (some ⟨p, 0, none⟩), .int .i64 n] w fun r w' =>
    (Bytes w' F r (rdSpan n s).1 ∧ ((rdSpan n s).2.2 = true → r = .slice none 0 0) ∧ ((rdSpan n s).2.2 = false → ∃ a n c, r = .slice (some a) n c)) ∧ RdD w F p (rdSpan n s).2 w' := by
  obtain ⟨T, v, ho, hb, hbad⟩ := h
  obtain ⟨l, bad⟩ := s
  obtain ⟨a, c, rfl, hc, hm, hFb, _, hnil, hC⟩ := hb.view
  dsimp only at ho hb hbad hc hFb hnil hC
  have hpl := ho.lt
  have hfail : (l.length : Int) < n ∨ n < 0 → rdSpan n (l, bad) = ([], ([], true)) := fun h => by rw [rdSpan, if_pos h]
  have hgood : ¬ ((l.length : Int) < n ∨ n < 0) → rdSpan n (l, bad) = (l.take n.toNat, (l.drop n.toNat, bad)) := fun h => by rw [rdSpan, if_neg h]
  refine Does.go (X := X) (l := [_, _]) Tryz.func89 rfl (by kernel_rfl) (by kernel_rfl) _ rfl ?_
  ((conv=>whnf);repeat((first|refine mvT ?_|refine mvF ?_|refine yT ?_|refine yF ?_);conv=>whnf))
  refine ldS (ho.cell rfl) ?_;((conv=>whnf);repeat((first|refine mvT ?_|refine mvF ?_|refine yT ?_|refine yF ?_);conv=>whnf))
  intro c1 h1
  cases c1 with
  | true =>
    have hs := hfail (.inl (of_decide_eq_true h1))
    rw [hs]
    ((conv=>whnf);repeat((first|refine mvT ?_|refine mvF ?_|refine yT ?_|refine yF ?_);conv=>whnf))
    refine st_cell (o := 1) (v := .bool true) ho rfl (by omega) rfl (by simp) rfl ?_
    intro w2 ho2 hx2
    have ho2 : Own w2 p T [.slice a l.length c, .bool true] := ho2
    ((conv=>whnf);repeat((first|refine mvT ?_|refine mvF ?_|refine yT ?_|refine yF ?_);conv=>whnf))
    refine st_cell (o := 0) (v := .slice none 0 0) ho2 rfl (by omega) rfl (by simp) rfl ?_
    intro w3 ho3 hx3
    have ho3 : Own w3 p T [.slice none 0 0, .bool true] := ho3
    ((conv=>whnf);repeat((first|refine mvT ?_|refine mvF ?_|refine yT ?_|refine yF ?_);conv=>whnf))
    exact ⟨⟨Bytes.nil _ _, fun _ => rfl, fun h => (by cases h)⟩, RdS.nil ho3, hx2.trans hx3 fun _ _ h => h⟩
  | false =>
    ((conv=>whnf);repeat((first|refine mvT ?_|refine mvF ?_|refine yT ?_|refine yF ?_);conv=>whnf))
    refine cI (by rfl) (fun h2=>?_) (fun h2=>?_)
    · have hs := hfail (.inr (of_decide_eq_true h2))
      rw [hs]
      ((conv=>whnf);repeat((first|refine mvT ?_|refine mvF ?_|refine yT ?_|refine yF ?_);conv=>whnf))
      refine st_cell (o := 1) (v := .bool true) ho rfl (by omega) rfl (by simp) rfl ?_
      intro w2 ho2 hx2
      have ho2 : Own w2 p T [.slice a l.length c, .bool true] := ho2
      ((conv=>whnf);repeat((first|refine mvT ?_|refine mvF ?_|refine yT ?_|refine yF ?_);conv=>whnf))
      refine st_cell (o := 0) (v := .slice none 0 0) ho2 rfl (by omega) rfl (by simp) rfl ?_
      intro w3 ho3 hx3
      have ho3 : Own w3 p T [.slice none 0 0, .bool true] := ho3
      ((conv=>whnf);repeat((first|refine mvT ?_|refine mvF ?_|refine yT ?_|refine yF ?_);conv=>whnf))
      exact ⟨⟨Bytes.nil _ _, fun _ => rfl, fun h => (by cases h)⟩, RdS.nil ho3, hx2.trans hx3 fun _ _ h => h⟩
    · have hle : ¬ ((l.length : Int) < n ∨ n < 0) := by
        have h3 := of_decide_eq_false h1
        have h4 := of_decide_eq_false h2
        omega
      have hs := hgood hle
      rw [hs]
      have hnn : n = (n.toNat : Int) := by omega
      have hnl : n.toNat ≤ l.length := by omega
      generalize hm : n.toNat = m at *
      have hsome : bad = false → a.isSome := by
        intro hbd
        rcases hst with hst | hst
        · obtain ⟨a', n', c', e⟩ := hst.nn ho hbd
          injection e with e1 _ _
          rw [e1]
          rfl
        · cases a with
          | none => have := hnil rfl; rw [this] at hnl; simp at hnl; omega
          | some q => rfl
      ((conv=>whnf);repeat((first|refine mvT ?_|refine mvF ?_|refine yT ?_|refine yF ?_);conv=>whnf))
      refine ldS (ho.cell rfl) ?_;((conv=>whnf);repeat((first|refine mvT ?_|refine mvF ?_|refine yT ?_|refine yF ?_);conv=>whnf))
      refine cut_span hb rfl (j := n) (m := m) hnn hnl ?_
      intro a1 hs1 ha1 hn1
      ((conv=>whnf);repeat((first|refine mvT ?_|refine mvF ?_|refine yT ?_|refine yF ?_);conv=>whnf))
      refine ldS (ho.cell rfl) ?_;((conv=>whnf);repeat((first|refine mvT ?_|refine mvF ?_|refine yT ?_|refine yF ?_);conv=>whnf))
      refine cut_lo hb rfl (j := n) (m := m) hnn hnl ?_
      intro a2 hs2 ha2 hn2
      ((conv=>whnf);repeat((first|refine mvT ?_|refine mvF ?_|refine yT ?_|refine yF ?_);conv=>whnf))
      refine st_cell (o := 0) (v := .slice a2 (l.length - m) (c - m)) ho rfl (by omega) rfl (by simp) rfl ?_
      intro w3 ho3 hx3
      have ho3 : Own w3 p T [.slice a2 (l.length - m) (c - m), .bool bad] := ho3
      ((conv=>whnf);repeat((first|refine mvT ?_|refine mvF ?_|refine yT ?_|refine yF ?_);conv=>whnf))
      have hb1 : Bytes w F (.slice a1 m m) (l.take m) := by
        rw [map_take_bcell] at hs1
        show Sl w F 1 _ _ _
        rw [List.length_take, Nat.min_eq_left hnl]
        exact hs1
      have hb2 : Bytes w F (.slice a2 (l.length - m) (c - m)) (l.drop m) := by
        rw [map_drop_bcell] at hs2
        show Sl w F 1 _ _ _
        rw [List.length_drop]
        exact hs2
      refine ⟨⟨hb1.ext hx3 fun k _ hk => hF k hk, fun hbd => ?_, fun hbd => ?_⟩, ⟨T, _, ho3, hb2.ext hx3 fun k _ hk => hF k hk, fun hbd => ?_, fun hbd => ?_⟩, hx3⟩
      · have e := hbad hbd
        injection e with e1 e2 e3
        rw [hn1 e1, show m = 0 by omega]
        rfl
      · obtain ⟨q, rfl⟩ := Option.isSome_iff_exists.1 (ha1 (hsome hbd))
        exact ⟨q, m, m, rfl⟩
      · have e := hbad hbd
        injection e with e1 e2 e3
        rw [hn2 e1, e2, e3, show m = 0 by omega]
      · obtain ⟨q, rfl⟩ := Option.isSome_iff_exists.1 (ha2 (hsome hbd))
        exact ⟨q, _, _, rfl⟩
theorem i64_uv (s : Rd) : IntKind.i64.wrap (IntKind.i64.wrap ((rdUv s).1 : Int) - 1) = ((rdUv s).1 : Int) - 1 := by
  have := rdUv_lt s
  rw [i64_of (n := ((rdUv s).1 : Int)) (by omega) (by omega), i64_of (by omega) (by omega)]
theorem i64_i16 (n : Int) : IntKind.i64.wrap (IntKind.i16.wrap n) = IntKind.i16.wrap n := by
  have : -32768 ≤ IntKind.i16.wrap n ∧ IntKind.i16.wrap n ≤ 32767 := by
    simp only [IntKind.wrap, IntKind.bits, IntKind.signed]
    simp
    constructor <;> split <;> omega
  exact i64_of (by omega) (by omega)
theorem i64_i32 (n : Int) : IntKind.i64.wrap (IntKind.i32.wrap n) = IntKind.i32.wrap n := by
  have : -2147483648 ≤ IntKind.i32.wrap n ∧ IntKind.i32.wrap n ≤ 2147483647 := by rw [IntKind.wrap_i32]; omega
  exact i64_of (by omega) (by omega)
theorem CompactString_does {w : World} {F : Nat → Prop} {p : Nat} {s : Rd} (h : RdW w F p s) (hF : ∀ k, F k → k ≠ p) : Does X.P 53 #[.pointer (some ⟨p, 0, none⟩)] w fun r w' => r = str (rdTx true s).1 ∧ RdD w F p (rdTx true s).2 w' := by
  refine Does.go (X := X) (l := [_]) Tryz.func53 rfl (by kernel_rfl) (by kernel_rfl) _ rfl ?_
  ((conv=>whnf);repeat((first|refine mvT ?_|refine mvF ?_|refine yT ?_|refine yF ?_);conv=>whnf))
  refine Does.mono (rdUvarint_does h hF) ?_;rintro r1 w1 ⟨rfl, h1⟩;((conv=>whnf);repeat((first|refine mvT ?_|refine mvF ?_|refine yT ?_|refine yF ?_);conv=>whnf))
  rw [i64_uv s]
  refine Does.mono (Span_does h1.1.w (((rdUv s).1 : Int) - 1) (.inl h1.1) hF) ?_
  rintro r2 w2 ⟨⟨hb2, _, _⟩, h2⟩
  obtain ⟨a2, c2, rfl, _⟩ := hb2.view
  ((conv=>whnf);repeat((first|refine mvT ?_|refine mvF ?_|refine yT ?_|refine yF ?_);conv=>whnf))
  refine ⟨F, _, hb2, ?_⟩
  ((conv=>whnf);repeat((first|refine mvT ?_|refine mvF ?_|refine yT ?_|refine yF ?_);conv=>whnf))
  exact ⟨rfl, h1.tr h2⟩
theorem String_does {w : World} {F : Nat → Prop} {p : Nat} {s : Rd} (h : RdW w F p s) (hF : ∀ k, F k → k ≠ p) : Does X.P 54 #[.pointer (some ⟨p, 0, none⟩)] w fun r w' => r = str (rdTx false s).1 ∧ RdD w F p (rdTx false s).2 w' := by
  refine Does.go (X := X) (l := [_]) Tryz.func54 rfl (by kernel_rfl) (by kernel_rfl) _ rfl ?_
  ((conv=>whnf);repeat((first|refine mvT ?_|refine mvF ?_|refine yT ?_|refine yF ?_);conv=>whnf))
  refine Does.mono (Int16_does h hF) ?_;rintro r1 w1 ⟨rfl, h1⟩;((conv=>whnf);repeat((first|refine mvT ?_|refine mvF ?_|refine yT ?_|refine yF ?_);conv=>whnf))
  rw [i64_i16]
  refine Does.mono (Span_does h1.1.w (IntKind.i16.wrap ((rdK 2 s).1 : Int)) (.inl h1.1) hF) ?_
  rintro r2 w2 ⟨⟨hb2, _, _⟩, h2⟩
  obtain ⟨a2, c2, rfl, _⟩ := hb2.view
  ((conv=>whnf);repeat((first|refine mvT ?_|refine mvF ?_|refine yT ?_|refine yF ?_);conv=>whnf))
  refine ⟨F, _, hb2, ?_⟩
  ((conv=>whnf);repeat((first|refine mvT ?_|refine mvF ?_|refine yT ?_|refine yF ?_);conv=>whnf))
  exact ⟨rfl, h1.tr h2⟩
theorem CompactNullableString_does {w : World} {F : Nat → Prop} {p : Nat} {s : Rd} (h : RdW w F p s) (hF : ∀ k, F k → k ≠ p) : Does X.P 48 #[.pointer (some ⟨p, 0, none⟩)] w fun r w' => NTextR w' (fun k => w.heap.size ≤ k) r (rdNt true s).1 ∧ r.oneCell' = true ∧ RdD w F p (rdNt true s).2 w' := by
  refine Does.go (X := X) (l := [_]) Tryz.func48 rfl (by kernel_rfl) (by kernel_rfl) _ rfl ?_
  ((conv=>whnf);repeat((first|refine mvT ?_|refine mvF ?_|refine yT ?_|refine yF ?_);conv=>whnf))
  refine Does.mono (rdUvarint_does h hF) ?_;rintro r1 w1 ⟨rfl, h1⟩;((conv=>whnf);repeat((first|refine mvT ?_|refine mvF ?_|refine yT ?_|refine yF ?_);conv=>whnf))
  rw [i64_uv s]
  have e : rdSz true 2 .i16 s = (((rdUv s).1 : Int) - 1, (rdUv s).2) := rfl
  unfold rdNt rdTx
  rw [e]
  simp only
  refine cI (by rfl) (fun h9=>?_) (fun h9=>?_)
  · have h9 : ((rdUv s).1 : Int) - 1 < 0 := of_decide_eq_true h9
    rw [if_pos h9]
    ((conv=>whnf);repeat((first|refine mvT ?_|refine mvF ?_|refine yT ?_|refine yF ?_);conv=>whnf))
    exact ⟨.inl ⟨rfl, rfl⟩, rfl, h1⟩
  · have h9 : ¬ ((rdUv s).1 : Int) - 1 < 0 := of_decide_eq_false h9
    rw [if_neg h9]
    ((conv=>whnf);repeat((first|refine mvT ?_|refine mvF ?_|refine yT ?_|refine yF ?_);conv=>whnf))
    refine Does.mono (Span_does h1.1.w (((rdUv s).1 : Int) - 1) (.inl h1.1) hF) ?_
    rintro r2 w2 ⟨⟨hb2, _, _⟩, h2⟩
    obtain ⟨a2, c2, rfl, _⟩ := hb2.view
    ((conv=>whnf);repeat((first|refine mvT ?_|refine mvF ?_|refine yT ?_|refine yF ?_);conv=>whnf))
    refine ⟨F, _, hb2, ?_⟩
    ((conv=>whnf);repeat((first|refine mvT ?_|refine mvF ?_|refine yT ?_|refine yF ?_);conv=>whnf))
    intro b4 w4 hb4 ho4 hx4
    ((conv=>whnf);repeat((first|refine mvT ?_|refine mvF ?_|refine yT ?_|refine yF ?_);conv=>whnf))
    refine st_cell (o := 0) ho4 rfl (by omega) rfl (by simp) rfl ?_
    intro w5 ho5 hx5
    ((conv=>whnf);repeat((first|refine mvT ?_|refine mvF ?_|refine yT ?_|refine yF ?_);conv=>whnf))
    have hp1 := h1.2.size
    have hp2 := h2.2.size
    have hpl := h.lt
    have hx45 : Ext nob w2 w5 := (hx4.mono fun _ _ f => f).trans hx5 fun k hk e => by omega
    have h12 := h1.tr h2
    refine ⟨.inr ⟨rfl, b4, 0, rfl, by omega, ho5.lt, ho5.cell rfl⟩, rfl, h12.1.ext hx45 (fun h => h) (fun _ _ _ h => h), h12.2.tr0 hx45⟩
theorem NullableString_does {w : World} {F : Nat → Prop} {p : Nat} {s : Rd} (h : RdW w F p s) (hF : ∀ k, F k → k ≠ p) : Does X.P 50 #[.pointer (some ⟨p, 0, none⟩)] w fun r w' => NTextR w' (fun k => w.heap.size ≤ k) r (rdNt false s).1 ∧ r.oneCell' = true ∧ RdD w F p (rdNt false s).2 w' := by
  refine Does.go (X := X) (l := [_]) Tryz.func50 rfl (by kernel_rfl) (by kernel_rfl) _ rfl ?_
  ((conv=>whnf);repeat((first|refine mvT ?_|refine mvF ?_|refine yT ?_|refine yF ?_);conv=>whnf))
  refine Does.mono (Int16_does h hF) ?_;rintro r1 w1 ⟨rfl, h1⟩;((conv=>whnf);repeat((first|refine mvT ?_|refine mvF ?_|refine yT ?_|refine yF ?_);conv=>whnf))
  have e : rdSz false 2 .i16 s = (IntKind.i16.wrap ((rdK 2 s).1 : Int), (rdK 2 s).2) := rfl
  unfold rdNt rdTx
  rw [e]
  simp only
  refine cI (by rfl) (fun h9=>?_) (fun h9=>?_)
  · have h9 : IntKind.i16.wrap ((rdK 2 s).1 : Int) < 0 := of_decide_eq_true h9
    rw [if_pos h9]
    ((conv=>whnf);repeat((first|refine mvT ?_|refine mvF ?_|refine yT ?_|refine yF ?_);conv=>whnf))
    exact ⟨.inl ⟨rfl, rfl⟩, rfl, h1⟩
  · have h9 : ¬ IntKind.i16.wrap ((rdK 2 s).1 : Int) < 0 := of_decide_eq_false h9
    rw [if_neg h9]
    ((conv=>whnf);repeat((first|refine mvT ?_|refine mvF ?_|refine yT ?_|refine yF ?_);conv=>whnf))
    rw [i64_i16]
    refine Does.mono (Span_does h1.1.w (IntKind.i16.wrap ((rdK 2 s).1 : Int)) (.inl h1.1) hF) ?_
    rintro r2 w2 ⟨⟨hb2, _, _⟩, h2⟩
    obtain ⟨a2, c2, rfl, _⟩ := hb2.view
    ((conv=>whnf);repeat((first|refine mvT ?_|refine mvF ?_|refine yT ?_|refine yF ?_);conv=>whnf))
    refine ⟨F, _, hb2, ?_⟩
    ((conv=>whnf);repeat((first|refine mvT ?_|refine mvF ?_|refine yT ?_|refine yF ?_);conv=>whnf))
    intro b4 w4 hb4 ho4 hx4
    ((conv=>whnf);repeat((first|refine mvT ?_|refine mvF ?_|refine yT ?_|refine yF ?_);conv=>whnf))
    refine st_cell (o := 0) ho4 rfl (by omega) rfl (by simp) rfl ?_
    intro w5 ho5 hx5
    ((conv=>whnf);repeat((first|refine mvT ?_|refine mvF ?_|refine yT ?_|refine yF ?_);conv=>whnf))
    have hp1 := h1.2.size
    have hp2 := h2.2.size
    have hpl := h.lt
    have hx45 : Ext nob w2 w5 := (hx4.mono fun _ _ f => f).trans hx5 fun k hk e => by omega
    have h12 := h1.tr h2
    refine ⟨.inr ⟨rfl, b4, 0, rfl, by omega, ho5.lt, ho5.cell rfl⟩, rfl, h12.1.ext hx45 (fun h => h) (fun _ _ _ h => h), h12.2.tr0 hx45⟩
theorem CompactArrayLen_does {w : World} {F : Nat → Prop} {p : Nat} {s : Rd} (h : RdW w F p s) (hF : ∀ k, F k → k ≠ p) : Does X.P 56 #[.pointer (some ⟨p, 0, none⟩)] w fun r w' => r = .int .i32 (rdLn true s).1 ∧ RdD w F p (rdLn true s).2 w' := by
  refine Does.go (X := X) (l := [_]) Tryz.func56 rfl (by kernel_rfl) (by kernel_rfl) _ rfl ?_
  ((conv=>whnf);repeat((first|refine mvT ?_|refine mvF ?_|refine yT ?_|refine yF ?_);conv=>whnf))
  refine Does.mono (rdUvarint_does h hF) ?_;rintro r1 w1 ⟨rfl, h1⟩;((conv=>whnf);repeat((first|refine mvT ?_|refine mvF ?_|refine yT ?_|refine yF ?_);conv=>whnf))
  have e : rdLz true s = (IntKind.i32.wrap (IntKind.i32.wrap ((rdUv s).1 : Int) - 1), (rdUv s).2) := rfl
  unfold rdLn
  rw [e]
  simp only
  have h1' := h1.1
  obtain ⟨T, v, ho, hb, hbad, hnn⟩ := h1'
  have hpl := ho.lt
  obtain ⟨a, c, rfl, _⟩ := hb.view
  refine ldS (ho.cell rfl) ?_;((conv=>whnf);repeat((first|refine mvT ?_|refine mvF ?_|refine yT ?_|refine yF ?_);conv=>whnf))
  rw [i64_i32]
  refine cI (by rfl) (fun h9=>?_) (fun h9=>?_)
  · have h9 : ((rdUv s).2.1.length : Int) < IntKind.i32.wrap (IntKind.i32.wrap ((rdUv s).1 : Int) - 1) := of_decide_eq_true h9
    rw [if_pos h9]
    ((conv=>whnf);repeat((first|refine mvT ?_|refine mvF ?_|refine yT ?_|refine yF ?_);conv=>whnf))
    refine st_cell (o := 1) (v := .bool true) ho rfl (by omega) rfl (by simp) rfl ?_
    intro w2 ho2 hx2
    have ho2 : Own w2 p T [.slice a (rdUv s).2.1.length c, .bool true] := ho2
    ((conv=>whnf);repeat((first|refine mvT ?_|refine mvF ?_|refine yT ?_|refine yF ?_);conv=>whnf))
    refine st_cell (o := 0) (v := .slice none 0 0) ho2 rfl (by omega) rfl (by simp) rfl ?_
    intro w3 ho3 hx3
    have ho3 : Own w3 p T [.slice none 0 0, .bool true] := ho3
    ((conv=>whnf);repeat((first|refine mvT ?_|refine mvF ?_|refine yT ?_|refine yF ?_);conv=>whnf))
    exact ⟨rfl, RdS.nil ho3, (h1.2.trans hx2 fun _ _ h => h).trans hx3 fun _ _ h => h⟩
  · have h9 : ¬ ((rdUv s).2.1.length : Int) < IntKind.i32.wrap (IntKind.i32.wrap ((rdUv s).1 : Int) - 1) := of_decide_eq_false h9
    rw [if_neg h9]
    ((conv=>whnf);repeat((first|refine mvT ?_|refine mvF ?_|refine yT ?_|refine yF ?_);conv=>whnf))
    exact ⟨rfl, h1⟩
theorem ArrayLen_does {w : World} {F : Nat → Prop} {p : Nat} {s : Rd} (h : RdW w F p s) (hF : ∀ k, F k → k ≠ p) : Does X.P 57 #[.pointer (some ⟨p, 0, none⟩)] w fun r w' => r = .int .i32 (rdLn false s).1 ∧ RdD w F p (rdLn false s).2 w' := by
  refine Does.go (X := X) (l := [_]) Tryz.func57 rfl (by kernel_rfl) (by kernel_rfl) _ rfl ?_
  ((conv=>whnf);repeat((first|refine mvT ?_|refine mvF ?_|refine yT ?_|refine yF ?_);conv=>whnf))
  refine Does.mono (Int32_does h hF) ?_;rintro r1 w1 ⟨rfl, h1⟩;((conv=>whnf);repeat((first|refine mvT ?_|refine mvF ?_|refine yT ?_|refine yF ?_);conv=>whnf))
  have e : rdLz false s = (IntKind.i32.wrap ((rdK 4 s).1 : Int), (rdK 4 s).2) := rfl
  unfold rdLn
  rw [e]
  simp only
  have h1' := h1.1
  obtain ⟨T, v, ho, hb, hbad, hnn⟩ := h1'
  have hpl := ho.lt
  obtain ⟨a, c, rfl, _⟩ := hb.view
  refine ldS (ho.cell rfl) ?_;((conv=>whnf);repeat((first|refine mvT ?_|refine mvF ?_|refine yT ?_|refine yF ?_);conv=>whnf))
  rw [i64_i32]
  refine cI (by rfl) (fun h9=>?_) (fun h9=>?_)
  · have h9 : ((rdK 4 s).2.1.length : Int) < IntKind.i32.wrap ((rdK 4 s).1 : Int) := of_decide_eq_true h9
    rw [if_pos h9]
    ((conv=>whnf);repeat((first|refine mvT ?_|refine mvF ?_|refine yT ?_|refine yF ?_);conv=>whnf))
    refine st_cell (o := 1) (v := .bool true) ho rfl (by omega) rfl (by simp) rfl ?_
    intro w2 ho2 hx2
    have ho2 : Own w2 p T [.slice a (rdK 4 s).2.1.length c, .bool true] := ho2
    ((conv=>whnf);repeat((first|refine mvT ?_|refine mvF ?_|refine yT ?_|refine yF ?_);conv=>whnf))
    refine st_cell (o := 0) (v := .slice none 0 0) ho2 rfl (by omega) rfl (by simp) rfl ?_
    intro w3 ho3 hx3
    have ho3 : Own w3 p T [.slice none 0 0, .bool true] := ho3
    ((conv=>whnf);repeat((first|refine mvT ?_|refine mvF ?_|refine yT ?_|refine yF ?_);conv=>whnf))
    exact ⟨rfl, RdS.nil ho3, (h1.2.trans hx2 fun _ _ h => h).trans hx3 fun _ _ h => h⟩
  · have h9 : ¬ ((rdK 4 s).2.1.length : Int) < IntKind.i32.wrap ((rdK 4 s).1 : Int) := of_decide_eq_false h9
    rw [if_neg h9]
    ((conv=>whnf);repeat((first|refine mvT ?_|refine mvF ?_|refine yT ?_|refine yF ?_);conv=>whnf))
    exact ⟨rfl, h1⟩
theorem rdOk_does {w : World} {F : Nat → Prop} {p : Nat} {s : Rd} (h : RdW w F p s) : Does X.P 58 #[.pointer (some ⟨p, 0, none⟩)] w fun r w' => r = .bool (!s.2) ∧ w' = w := by
  obtain ⟨T, v, ho, _⟩ := h
  refine Does.go (X := X) (l := [_]) Tryz.func58 rfl (by kernel_rfl) (by kernel_rfl) _ rfl ?_
  ((conv=>whnf);repeat((first|refine mvT ?_|refine mvF ?_|refine yT ?_|refine yF ?_);conv=>whnf))
  refine ldS (ho.cell rfl) ?_;((conv=>whnf);repeat((first|refine mvT ?_|refine mvF ?_|refine yT ?_|refine yF ?_);conv=>whnf))
  exact ⟨rfl, rfl⟩
/-- The variable that holds the error. -/
abbrev errG : Nat := 1
/-- The error that is told where too few octets were there. -/
structure Laid (w : World) (ev : Value) : Prop where
  cell : w.cell? ⟨errG, 0, none⟩ = some ev
  iface : ∃ t x, ev = .iface t x
theorem Laid.ext {M : Nat → Prop} {w w' : World} {ev : Value} (h : Laid w ev) (x : Ext M w w') (h1 : ¬ M errG) : Laid w' ev := ⟨x.cell h.cell h1, h.iface⟩
theorem Laid.lt {w : World} {ev : Value} (h : Laid w ev) : errG < w.heap.size := World.block_lt_of_cell? w _ h.cell
theorem Complete_does {w : World} {F : Nat → Prop} {p : Nat} {s : Rd} {ev : Value} (hL : Laid w ev) (h : RdW w F p s) : Does X.P 59 #[.pointer (some ⟨p, 0, none⟩)] w fun r w' => r = (if s.2 = true then ev else .nilIface) ∧ w' = w := by
  obtain ⟨T, v, ho, _⟩ := h
  obtain ⟨t, x, rfl⟩ := hL.iface
  refine Does.go (X := X) (l := [_]) Tryz.func59 rfl (by kernel_rfl) (by kernel_rfl) _ rfl ?_
  ((conv=>whnf);repeat((first|refine mvT ?_|refine mvF ?_|refine yT ?_|refine yF ?_);conv=>whnf))
  refine ldS (ho.cell rfl) ?_;((conv=>whnf);repeat((first|refine mvT ?_|refine mvF ?_|refine yT ?_|refine yF ?_);conv=>whnf))
  refine cI (by rfl) (fun h9=>?_) (fun h9=>?_)
  · rw [if_pos h9]
    ((conv=>whnf);repeat((first|refine mvT ?_|refine mvF ?_|refine yT ?_|refine yF ?_);conv=>whnf))
    refine ldS (hL.cell) ?_;((conv=>whnf);repeat((first|refine mvT ?_|refine mvF ?_|refine yT ?_|refine yF ?_);conv=>whnf))
    exact ⟨rfl, rfl⟩
  · rw [if_neg (by rw [h9]; decide)]
    ((conv=>whnf);repeat((first|refine mvT ?_|refine mvF ?_|refine yT ?_|refine yF ?_);conv=>whnf))
    exact ⟨rfl, rfl⟩
end Go.Proofs.YtepamajphjgigaaGreatDoor.K
/-! The reader: unknown tags, uuids. -/
set_option linter.unusedVariables false
set_option linter.unusedSimpArgs false
namespace Go.Proofs.YtepamajphjgigaaGreatDoor.K
open Go
set_option maxHeartbeats 1600000

def setV (key : Nat) (v : Value) : List (Nat × Value) → List (Nat × Value)
  | [] => [(key, v)]
  | x :: r => if x.1 = key then (key, v) :: r else x :: setV key v r
theorem findNow_idx {kd : IntKind} (key : Nat) (v : Value) : ∀ (kvs : List (Nat × Value)) (i j : Nat),
    (∃ n x, Instr.findNow (.int kd) (.int .u32 (key : Int)) ((kvs.zipIdx i).map ent) j = some (some (j + n, x)) ∧ n < kvs.length ∧ (kvs.map Prod.fst)[n]? = some key ∧ setV key v kvs = kvs.set n (key, v)) ∨
    (Instr.findNow (.int kd) (.int .u32 (key : Int)) ((kvs.zipIdx i).map ent) j = some none ∧ setV key v kvs = kvs ++ [(key, v)])
  | [], i, j => .inr ⟨rfl, rfl⟩
  | y :: r, i, j => by
    rw [List.zipIdx_cons, List.map_cons, Instr.findNow]
    simp only [ent, Instr.sameNow, if_true]
    by_cases h : y.1 = key
    · left
      refine ⟨0, y.2, ?_, by simp, by simp [h], by simp [setV, h]⟩
      have : ((key : Int) == (y.1 : Int)) = true := by simp [h]
      rw [this]
      rfl
    · have : ((key : Int) == (y.1 : Int)) = false := by
        rw [Bool.eq_false_iff]
        intro h2
        have := eq_of_beq h2
        omega
      rw [this]
      simp only
      rcases findNow_idx (kd := kd) key v r (i + 1) (j + 1) with ⟨n, x, h1, h2, h3, h4⟩ | ⟨h1, h2⟩
      · left
        refine ⟨n + 1, x, ?_, by simp; omega, by simpa using h3, by simp [setV, h, h4]⟩
        rw [show j + (n + 1) = j + 1 + n by omega]
        exact h1
      · right
        exact ⟨h1, by simp [setV, h, h2]⟩
theorem ent_set (kvs : List (Nat × Value)) (n key : Nat) (v : Value) (hn : n < kvs.length) : ((kvs.zipIdx.map ent).toArray.modify n fun e => { e with key := .int .u32 (key : Int), val := v }) = ((kvs.set n (key, v)).zipIdx.map ent).toArray := by
  apply Array.ext'
  rw [Array.toList_modify]
  apply List.ext_getElem?
  intro i
  rw [List.getElem?_modify]
  simp only [List.getElem?_map, List.getElem?_zipIdx, List.getElem?_set, Nat.zero_add]
  by_cases h : n = i
  · subst h
    simp [hn, ent]
  · rw [if_neg h]
    simp [h]
/-- A key is set, be it there or not. -/
theorem put_map {o : Oper} {e : Env} {w : World} {K : Value → World → Prop} {t kt et : TypeId} {m x y : Operand} {b key : Nat} {val : Value} {kvs : List (Nat × Value)} {s1 b1 s2 b2 : Nat} {z1 z2 : List Value} (ho : o.op = .mapUpdate t m x y) (hm : ev e m = some (.map (some b))) (hx : ev e x = some (.int .u32 (key : Int))) (hy : ev e y = some val)
    (ht : tlook X.tab t = some ⟨.map kt et, s1, b1, z1⟩) (hkt : tlook X.tab kt = some ⟨.int .u32, s2, b2, z2⟩) (hb : MapO w b kvs) (hk : ∀ w', MapO w' b (setV key val kvs) → Ext (fun k => k = b) w w' → K undef w') : semVC X o e w K := by
  rcases findNow_idx (kd := .u32) key val kvs 0 0 with ⟨n, x0, hf, hn, hkey, hs⟩ | ⟨hf, hs⟩
  · obtain ⟨d, inf, zv, hr⟩ := X.row ht
    have hd := hr.desc
    cases d <;> simp [descOf] at hd
    obtain ⟨hd1, hd2⟩ := hd
    have hd1 := hd1.symm
    have hd2 := hd2.symm
    subst hd1
    subst hd2
    obtain ⟨dk, infk, zk, hrk⟩ := X.row hkt
    have hdk := hrk.desc
    cases dk <;> simp [descOf] at hdk
    subst hdk
    rw [Nat.zero_add] at hf
    refine .inl ⟨undef, { w with heap := w.heap.setIfInBounds b (.map ((kvs.set n (key, val)).zipIdx.map ent).toArray kvs.length) }, fun ρ hρ => .inr ⟨?_, rfl⟩, hk _ ?_ ⟨rfl, rfl, rfl, by simp, fun k hk hn => ?_⟩⟩
    · have h1 := hρ m _ hm
      have h2 := hρ x _ hx
      have h3 := hρ y _ hy
      have hb' : w.heap[b]? = some (.map (kvs.zipIdx.map ent).toArray kvs.length) := hb
      have hck : (Instr.checkKey false 10000 kt (.int .u32 (key : Int))).run X.P w = .ok () w := by
        show (Instr.checkKey false (9999 + 1) kt (.int .u32 (key : Int))).run X.P w = .ok () w
        unfold Instr.checkKey
        simp [hrk.run_und]
      have hfk : (Instr.findKey kt (.int .u32 (key : Int)) (kvs.zipIdx.map ent)).run X.P w = .ok (some (n, x0)) w := by
        simp [Instr.findKey, hrk.run_und, hf]
      have hold : ((((kvs.zipIdx.map ent).toArray[n]?).map (·.key)).getD (.int .u32 (key : Int))) = .int .u32 (key : Int) := by
        have hk1 : kvs[n].1 = key := by
          rw [List.getElem?_map, List.getElem?_eq_getElem hn] at hkey
          simpa using hkey
        simp [hn, ent, hk1]
      have hstay : (Instr.keyThatStays (.int .u32 (key : Int)) (.int .u32 (key : Int))).run X.P w = .ok (.int .u32 (key : Int)) w := by
        unfold Instr.keyThatStays
        simp [Instr.sameBits]
      have hrun : (Instr.mapUpdate t (.map (some b)) (.int .u32 (key : Int)) val).run X.P w = .ok () { w with heap := w.heap.setIfInBounds b (.map ((kvs.zipIdx.map ent).toArray.modify n fun e => { e with key := .int .u32 (key : Int), val := val }) kvs.length) } := by
        have hg : (getObj b).run X.P w = .ok (.map (kvs.zipIdx.map ent).toArray kvs.length) w := by simp [getObj, Sem.run, hb']
        unfold Instr.mapUpdate
        simp only [Sem.run_bind, hr.run_und, Result.andThen_ok, hg, hck, hfk, hold, hstay]
        simp [setObj, Sem.run, hb']
      unfold execOp
      rw [ho]
      dsimp only
      rw [h1, h2, h3]
      rw [ent_set kvs n key val hn] at hrun
      rw [Sem.run_bind, hrun]
      rfl
    · have hlt := hb.lt
      show (w.heap.setIfInBounds b _)[b]? = _
      rw [Array.getElem?_setIfInBounds_self_of_lt hlt, hs]
      simp
    · show (w.heap.setIfInBounds b _)[k]? = _
      rw [Array.getElem?_setIfInBounds_ne (fun h => hn h.symm)]
  · rw [hs] at hk
    refine set_map ho hm hx hy ht hkt hb ?_ hk
    intro y hy e
    have key2 : ∀ (l : List (Nat × Value)), y ∈ l → setV key val l = l ++ [(key, val)] → False := by
      intro l
      induction l with
      | nil => intro h _; simp at h
      | cons z r ih =>
        intro h1 h2
        rw [setV] at h2
        by_cases hz : z.1 = key
        · rw [if_pos hz] at h2
          have := congrArg List.length h2
          simp at this
        · rw [if_neg hz] at h2
          rcases List.mem_cons.1 h1 with rfl | h1
          · exact hz e
          · exact ih h1 (by simpa using h2)
    exact key2 kvs hy hs
theorem Tags_Put_some {w : World} {p o b : Nat} {ty : TypeId} {cs : List Value} {key : Nat} {a : Option Addr} {n c : Nat} {kvs : List (Nat × Value)} (hp : Own w p ty cs) (ho : cs[o]? = some (.map (some b))) (hm : MapO w b kvs) :
    Does X.P 91 #[.pointer (some ⟨p, o, none⟩), .int .u32 (key : Int), .slice a n c] w fun r w' => MapO w' b (setV key (.slice a n c) kvs) ∧ Ext (fun k => k = b) w w' := by
  refine Does.go (X := X) (l := [_, _, _]) Tryz.func91 rfl (by kernel_rfl) (by kernel_rfl) _ rfl ?_
  ((conv=>whnf);repeat((first|refine mvT ?_|refine mvF ?_|refine yT ?_|refine yF ?_);conv=>whnf))
  refine ⟨_, ld (hp.cell ho) (by omega), ?_⟩
  ((conv=>whnf);repeat((first|refine mvT ?_|refine mvF ?_|refine yT ?_|refine yF ?_);conv=>whnf))
  refine ⟨_, ld (hp.cell ho) (by omega), ?_⟩
  ((conv=>whnf);repeat((first|refine mvT ?_|refine mvF ?_|refine yT ?_|refine yF ?_);conv=>whnf))
  refine put_map rfl rfl rfl rfl rfl rfl hm fun w3 hm3 hx3 => ?_
  ((conv=>whnf);repeat((first|refine mvT ?_|refine mvF ?_|refine yT ?_|refine yF ?_);conv=>whnf))
  exact ⟨hm3, hx3⟩
theorem put_rel {w : World} {F : Nat → Prop} {key : Nat} {v : Value} {m : List UInt8} (hv : Bytes w F v m) : ∀ {kvs : List (Nat × Value)} {u : List Tg}, kvs.length = u.length → (∀ (i : Nat) (y : Nat × Value) (x : Tg), kvs[i]? = some y → u[i]? = some x → y.1 = x.1 ∧ Bytes w F y.2 x.2) →
    (setV key v kvs).length = (setT u (key, m)).length ∧ ∀ (i : Nat) (y : Nat × Value) (x : Tg), (setV key v kvs)[i]? = some y → (setT u (key, m))[i]? = some x → y.1 = x.1 ∧ Bytes w F y.2 x.2
  | [], [], _, _ => by
    refine ⟨rfl, fun i y x hy hx => ?_⟩
    match i, hy, hx with
    | 0, hy, hx =>
      simp only [setV, setT, List.getElem?_cons_zero, Option.some.injEq] at hy hx
      subst hy
      subst hx
      exact ⟨rfl, hv⟩
    | i + 1, hy, _ => simp [setV] at hy
  | [], _ :: _, h, _ => by simp at h
  | _ :: _, [], h, _ => by simp at h
  | z :: r, x0 :: q, hl, h => by
    have h0 := h 0 z x0 rfl rfl
    unfold setV setT
    by_cases hz : z.1 = key
    · rw [if_pos hz, if_pos (by rw [← h0.1]; exact hz)]
      refine ⟨by simpa using hl, fun i y x hy hx => ?_⟩
      match i, hy, hx with
      | 0, hy, hx =>
        simp only [List.getElem?_cons_zero, Option.some.injEq] at hy hx
        subst hy
        subst hx
        exact ⟨rfl, hv⟩
      | i + 1, hy, hx => exact h (i + 1) y x (by simpa using hy) (by simpa using hx)
    · rw [if_neg hz, if_neg (by rw [← h0.1]; exact hz)]
      obtain ⟨h1, h2⟩ := put_rel (key := key) hv (kvs := r) (u := q) (by simpa using hl) fun i y x hy hx => h (i + 1) y x (by simpa using hy) (by simpa using hx)
      refine ⟨by simp [h1], fun i y x hy hx => ?_⟩
      match i, hy, hx with
      | 0, hy, hx =>
        simp only [List.getElem?_cons_zero, Option.some.injEq] at hy hx
        subst hy
        subst hx
        exact h0
      | i + 1, hy, hx => exact h2 i y x (by simpa using hy) (by simpa using hx)
theorem setT_ne {u : List Tg} {x : Tg} : setT u x ≠ [] := by
  cases u with
  | nil => simp [setT]
  | cons y r =>
    unfold setT
    split <;> simp
/-- A tag is set, be its number there or not. -/
theorem Tags_Put_does {w : World} {F : Nat → Prop} {N p o : Nat} {ty : TypeId} {cs : List Value} {c : Value} {u : List Tg} {key : Nat} {a : Option Addr} {n cap : Nat} {m : List UInt8} (hp : Own w p ty cs) (ho : cs[o]? = some c) (hc : TagsO w N F c u) (hN : N ≤ w.heap.size) (hpb : ∀ b, c = .map (some b) → b ≠ p) (hF : ∀ k, F k → k < N ∧ k ≠ p)
    (hv : Bytes w F (.slice a n cap) m) :
    Does X.P 91 #[.pointer (some ⟨p, o, none⟩), .int .u32 (key : Int), .slice a n cap] w fun r w' => ∃ c', c'.oneCell' = true ∧ Own w' p ty (cs.set o c') ∧ TagsO w' N F c' (setT u (key, m)) ∧ Ext (fun k => k = p ∨ c = .map (some k)) w w' ∧ (c' = c ∨ ∃ b, c' = .map (some b) ∧ w.heap.size ≤ b) := by
  obtain ⟨kvs, hm, hlen, hkv⟩ := hc
  have hpl := hp.lt
  cases hm with
  | none =>
    have hu0 : u = [] := List.eq_nil_of_length_eq_zero (by simpa using hlen.symm)
    subst hu0
    refine Does.mono (Tags_Set_nil hp ho) ?_
    rintro r w' ⟨b, hb, hp', hm', hx⟩
    have hv' := hv.ext hx fun k _ hk e => (hF k hk).2 e
    obtain ⟨h1, h2⟩ := put_rel (key := key) hv' (kvs := []) (u := []) rfl (by simp)
    refine ⟨_, rfl, hp', ⟨_, .some b _ hm' (by omega) (by simp), h1, h2⟩, hx.mono fun _ _ h => .inl h, .inr ⟨b, rfl, hb⟩⟩
  | some b kvs hb hf hne0 =>
    refine Does.mono (Tags_Put_some (key := key) hp ho hb) ?_
    rintro r w' ⟨hm', hx⟩
    have hbp := hpb b rfl
    have hol := (List.getElem?_eq_some_iff.1 ho).1
    have hset : cs.set o (.map (some b)) = cs := by
      apply List.ext_getElem?
      intro i
      by_cases hi : i = o
      · subst hi
        rw [List.getElem?_set_self hol, ho]
      · rw [List.getElem?_set_ne (Ne.symm hi)]
    have hFb : ∀ k, k < w.heap.size → F k → ¬ k = b := fun k _ hk e => by have := (hF k hk).1; omega
    obtain ⟨h1, h2⟩ := put_rel (key := key) (hv.ext hx hFb) hlen fun i y x hy hx' => ⟨(hkv i y x hy hx').1, (hkv i y x hy hx').2.ext hx hFb⟩
    exact ⟨.map (some b), rfl, by rw [hset]; exact hp.ext hx (fun e => hbp e.symm), ⟨_, .some b _ hm' hf (fun e => setT_ne (List.eq_nil_of_length_eq_zero (by rw [← h1, e]; rfl))), h1, h2⟩, hx.mono fun k _ h => .inr (by rw [h]), .inl rfl⟩
theorem TagsO.sharp {F : Nat → Prop} {w : World} {N : Nat} {c : Value} {u : List Tg} (h : TagsO w N F c u) : TagsR w (fun k => F k ∨ c = .map (some k)) c u := by
  obtain ⟨kvs, h1, h2, h3⟩ := h
  refine ⟨kvs, ?_, h2, fun i y z hy hz => ⟨(h3 i y z hy hz).1, Sl.mono (h3 i y z hy hz).2 fun _ _ h => .inl h⟩⟩
  cases h1 with
  | none => exact .none
  | some b kvs hb hf hne => exact .some b kvs hb (.inr rfl) hne
theorem internalReadTags_does {w : World} {F : Nat → Prop} {p : Nat} {s : Rd} (h : RdW w F p s) (hF : ∀ k, F k → k ≠ p) : Does X.P 62 #[.pointer (some ⟨p, 0, none⟩)] w fun r w' =>
    (∃ m, r = .agg #[m] ∧ m.oneCell' = true ∧ TagsR w' (fun k => F k ∨ w.heap.size ≤ k) m (rdTags s).1) ∧ RdD w F p (rdTags s).2 w' := by
  have hpl := h.lt
  obtain ⟨F0, hF0, hFF, h0⟩ : ∃ F0 : Nat → Prop, (∀ k, F0 k → k < w.heap.size ∧ k ≠ p) ∧ (∀ k, F0 k → F k) ∧ RdW w F0 p s := ⟨fun k => F k ∧ k < w.heap.size, fun k h => ⟨h.2, hF k h.1⟩, fun k h => h.1, h.mono fun k h1 h2 => ⟨h2, h1⟩⟩
  clear h
  have hF' : ∀ k, F0 k → k ≠ p := fun k h => (hF0 k h).2
  refine Does.go (X := X) (l := [_]) Tryz.func62 rfl (by kernel_rfl) (by kernel_rfl) _ rfl ?_
  ((conv=>whnf);repeat((first|refine mvT ?_|refine mvF ?_|refine yT ?_|refine yF ?_);conv=>whnf))
  intro q w1 hq hoq hx1
  ((conv=>whnf);repeat((first|refine mvT ?_|refine mvF ?_|refine yT ?_|refine yF ?_);conv=>whnf))
  have hq1 := hoq.lt
  intro b w2 hb hob hx2
  have hx02 := hx1.e0 hx2
  have hoq := hoq.e0 hx2
  have hbl := hob.lt
  have hql := hoq.lt
  have hs1 := hx1.size
  have hqb : q ≠ b := by omega
  ((conv=>whnf);repeat((first|refine mvT ?_|refine mvF ?_|refine yT ?_|refine yF ?_);conv=>whnf))
  refine Does.mono (rdUvarint_does (h0.e0 hx02) hF') ?_;rintro r3 w3 ⟨rfl, h3⟩;((conv=>whnf);repeat((first|refine mvT ?_|refine mvF ?_|refine yT ?_|refine yF ?_);conv=>whnf))
  have hrs : rdTags s = rdTgN (rdUv s).1 [] (rdUv s).2 := rfl
  have hnl := rdUv_lt s
  have hq3 := hoq.ext h3.2 (by omega)
  have hb3 := hob.ext h3.2 (by omega)
  have hx03 : Ext (fun k => k = p) w w3 := (hx02.mono fun _ _ f => f.elim).trans h3.2 fun _ _ h => h
  have hs3 := hx03.size
  refine VL.loop (fun i : Nat => [(0, .pointer (some ⟨p, 0, none⟩)), (2, .pointer (some ⟨q, 0, none⟩)), (3, .pointer (some ⟨b, 0, none⟩)), (4, .int .u32 (i : Int))])
    (fun i w' => ∃ (u : List Tg) (st : Rd) (c : Value), rdTgN i u st = rdTags s ∧ i < 4294967296 ∧ RdS w' F0 p st ∧ Own w' q _ _ ∧ Own w' b _ [c] ∧ TagsO w' w.heap.size F0 c u ∧ c.oneCell' = true ∧ (∀ b', c = .map (some b') → b' ≠ b ∧ b' ≠ q ∧ w.heap.size ≤ b' ∧ b' < w'.heap.size) ∧ Ext (fun k => k = p) w w') (fun i => i) (rdUv s).1
    ⟨rfl, rfl, rfl, rfl, trivial⟩ ⟨[], (rdUv s).2, .map none, hrs.symm, hnl, h3.1, hq3, hb3, TagsO.nil _ _ _, rfl, (fun _ e => by simp at e), hx03⟩ ?_
  rintro i w4 ⟨u, st, c, hrd, hi, hr4, hq4, hb4, hu4, hone, hcb, hx04⟩
  ((conv=>whnf);repeat((first|refine mvT ?_|refine mvF ?_|refine yT ?_|refine yF ?_);conv=>whnf))
  refine cI (by rfl) (fun h9=>?_) (fun h9=>?_)
  · have hi0 : 0 < i := by have := of_decide_eq_true h9; omega
    obtain ⟨j, rfl⟩ : ∃ j, i = j + 1 := ⟨i - 1, by omega⟩
    ((conv=>whnf);repeat((first|refine mvT ?_|refine mvF ?_|refine yT ?_|refine yF ?_);conv=>whnf))
    refine Does.mono (rdUvarint_does hr4.w hF') ?_;rintro r5 w5 ⟨rfl, h5⟩;((conv=>whnf);repeat((first|refine mvT ?_|refine mvF ?_|refine yT ?_|refine yF ?_);conv=>whnf))
    refine Does.mono (rdUvarint_does h5.1.w hF') ?_;rintro r6 w6 ⟨rfl, h6⟩;((conv=>whnf);repeat((first|refine mvT ?_|refine mvF ?_|refine yT ?_|refine yF ?_);conv=>whnf))
    have hk1 := rdUv_lt st
    have hk2 := rdUv_lt (rdUv st).2
    rw [i64_of (n := ((rdUv (rdUv st).2).1 : Int)) (by omega) (by omega)]
    refine Does.mono (Span_does h6.1.w ((rdUv (rdUv st).2).1 : Int) (.inl h6.1) hF') ?_
    rintro r7 w7 ⟨⟨hb7, _, _⟩, h7⟩
    obtain ⟨a7, c7, rfl, _⟩ := hb7.view
    have hx47 := (h5.tr (h6.tr h7)).2
    have hs4 := hx04.size
    have hs47 := hx47.size
    have hu7 := hu4.ext hx47 (fun k _ hk e => (hF0 k hk).2 e) (fun k _ hk e => by omega)
    ((conv=>whnf);repeat((first|refine mvT ?_|refine mvF ?_|refine yT ?_|refine yF ?_);conv=>whnf))
    refine Does.mono (Tags_Put_does (o := 0) (N := w.heap.size) (key := (rdUv st).1) (hb4.ext hx47 (by omega)) rfl hu7 (by omega) (fun b' e => (hcb b' e).1) (fun k h => ⟨(hF0 k h).1, by have := (hF0 k h).1; omega⟩) hb7) ?_
    rintro r8 w8 ⟨c8, hone8, hb8, hu8, hx8, hc8⟩
    have hb8 : Own w8 b _ [c8] := hb8
    have hcp : ∀ k, c = .map (some k) → w.heap.size ≤ k := fun k e => (hcb k e).2.2.1
    have hs8 := hx8.size
    have hx48 : Ext (fun k => k = p) w w8 := (hx04.trans hx47 fun _ _ h => h).trans hx8 fun k hk h => by
      rcases h with h | h
      · omega
      · have := hcp k h; omega
    ((conv=>whnf);repeat((first|refine mvT ?_|refine mvF ?_|refine yT ?_|refine yF ?_);conv=>whnf))
    refine ⟨j, ⟨rfl, rfl, rfl, ?_, trivial⟩, ⟨_, _, c8, ?_, by omega, h7.1.ext hx8 ?_ ?_, ?_, hb8, hu8, hone8, ?_, hx48⟩, by omega⟩
    · show some (Value.int .u32 _) = _
      rw [wrap_u32]
      simp only [Option.some.injEq, Value.int.injEq, true_and]
      omega
    · rw [← hrd]
      rfl
    · rintro (h | h)
      · omega
      · have := hcp p h; omega
    · rintro k _ hk (h | h)
      · have := (hF0 k hk).1; omega
      · have := hcp k h; have := (hF0 k hk).1; omega
    · refine (hq4.ext hx47 (by omega)).ext hx8 ?_
      rintro (h | h)
      · omega
      · exact (hcb q h).2.1 rfl
    · intro b' e
      rcases hc8 with rfl | ⟨b2, rfl, hle⟩
      · obtain ⟨g1, g2, g3, g4⟩ := hcb b' e
        exact ⟨g1, g2, g3, by omega⟩
      · simp only [Value.map.injEq, Option.some.injEq] at e
        subst e
        have h8 := hu8
        obtain ⟨kvs, hm8, _⟩ := h8
        cases hm8 with
        | some _ _ hb _ _ =>
          have := hb.lt
          exact ⟨by have := hb4.lt; omega, by have := hq4.lt; omega, by omega, this⟩
  · have hi0 : i = 0 := by have := of_decide_eq_false h9; omega
    subst hi0
    have hrd : (u, st) = rdTags s := hrd
    ((conv=>whnf);repeat((first|refine mvT ?_|refine mvF ?_|refine yT ?_|refine yF ?_);conv=>whnf))
    refine ⟨_, rfl, hb4.cells, ?_⟩
    ((conv=>whnf);repeat((first|refine mvT ?_|refine mvF ?_|refine yT ?_|refine yF ?_);conv=>whnf))
    refine st_all [c] hq4 rfl rfl (by simp [okCells, hone]) ?_
    intro w5 ho5 hx5
    ((conv=>whnf);repeat((first|refine mvT ?_|refine mvF ?_|refine yT ?_|refine yF ?_);conv=>whnf))
    refine ⟨_, rfl, ho5.cells, ?_⟩
    rw [← hrd]
    have hx05 : Ext (fun k => k = p) w w5 := hx04.trans hx5 fun k hk e => by omega
    have hu5 := (hu4.sharp).ext hx5 fun k hk h e => by
      rcases h with h | h
      · have := (hF0 k h).1; omega
      · exact (hcb k h).2.1 e
    refine ⟨⟨c, rfl, hone, hu5.mono fun k _ h => ?_⟩, (hr4.ext hx5 (by omega) fun k _ h e => by have := (hF0 k h).1; omega).mono fun k _ h => hFF k h, hx05⟩
    rcases h with h | h
    · exact .inl (hFF k h)
    · exact .inr (hcb k h).2.2.1
end Go.Proofs.YtepamajphjgigaaGreatDoor.K
/-! The reader: uuids. -/
set_option linter.unusedVariables false
set_option linter.unusedSimpArgs false
namespace Go.Proofs.YtepamajphjgigaaGreatDoor.K
open Go
set_option maxHeartbeats 1600000

end Go.Proofs.YtepamajphjgigaaGreatDoor.K
