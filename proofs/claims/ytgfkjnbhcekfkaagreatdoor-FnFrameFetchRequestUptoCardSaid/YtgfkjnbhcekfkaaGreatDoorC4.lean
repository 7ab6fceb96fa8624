/- Appending tagged fields: which are written, in order; a slice of octets is cut back. -/
import Derived.Test.YtgfkjnbhcekfkaaGreatDoorC3
set_option linter.unusedVariables false
set_option linter.unusedSimpArgs false
namespace Go.Proofs.YtgfkjnbhcekfkaaGreatDoor.K
open Go
set_option maxHeartbeats 800000

theorem plainW_tag {fw : Fd → T → List UInt8} {v : Int} {t : T} {i : Nat} {f : Fd} {r : List Fd} (h : 0 ≤ f.tag) : plainW fw v t i (f :: r) = plainW fw v t (i + 1) r := by
  rw [plainW, if_neg fun e => by omega]
  rfl
theorem tagL_skip {fw : Fd → T → List UInt8} {us : Fd → T → Bool} {t : T} {i : Nat} {f : Fd} {r : List Fd} (h : f.tag < 0) : tagL fw us t i (f :: r) = tagL fw us t (i + 1) r := by
  rw [tagL, if_neg fun e => by omega]
  rfl
theorem tagL_one {fw : Fd → T → List UInt8} {us : Fd → T → Bool} {t : T} {i : Nat} {f : Fd} {r : List Fd} {k : Nat} {pc : List UInt8} (h : f.tag = (k : Int)) (hp : us f (atT t i) = false → fw f (atT t i) = pc) : tagL fw us t i (f :: r) = (if us f (atT t i) = false then [(k, pc)] else []) ++ tagL fw us t (i + 1) r := by
  rw [tagL]
  congr 1
  have e : f.tag.toNat = k := by omega
  by_cases hu : us f (atT t i) = false
  · rw [if_pos ⟨by omega, hu⟩, if_pos hu, hp hu, e]
  · rw [if_neg fun h => hu h.2, if_neg hu]
theorem nc_list {fr to tag df of : Int} {sub : List Fd} {x : T} : ncB (.mk 11 fr to (-1) tag df of sub) x = x.l.isEmpty := rfl
theorem nc_list2 {fr to tag df of : Int} {sub : List Fd} {x : T} : ncB (.mk 11 fr to (-2) tag df of sub) x = x.nl := rfl
theorem u32_sum {a b : Nat} (h : a + b < 2 ^ 32) : IntKind.u32.wrap (IntKind.i64.wrap ((a : Int) + (b : Int))) = ((a + b : Nat) : Int) := by
  rw [wrap_u32, IntKind.wrap_i64]
  omega
theorem own_any {a : Option Addr} {n n' c c' : Nat} : (Value.slice a n c).ownBlock = (Value.slice a n' c').ownBlock := by cases a <;> rfl
theorem OB.cut {w : World} {B : Nat} {a : Option Addr} {n c : Nat} {l1 l2 : List UInt8} (h : OB w B (.slice a n c) (l1 ++ l2)) : OB w B (.slice a l1.length c) l1 := by
  obtain ⟨⟨hlen, h2⟩, hb⟩ := h
  refine ⟨⟨by simp, ?_⟩, fun k hk => hb k (own_any.trans hk)⟩
  rcases h2 with ⟨e, hn⟩ | ⟨g, cap, cur, e, h3, h4, h5, h6, h7, h8⟩
  · simp only [Value.slice.injEq] at e
    rw [List.length_append] at hn
    exact .inl ⟨by rw [e.1, e.2.2, show l1.length = 0 by omega], by omega⟩
  · simp only [Value.slice.injEq] at e
    obtain ⟨rfl, rfl, rfl⟩ := e
    refine .inr ⟨g, c, cur, rfl, h3, h4, by rw [List.length_append] at h5; omega, h6, h7, ?_⟩
    have := congrArg (List.take (l1.length * 1)) h8
    rw [List.take_take, Nat.min_eq_left (by rw [List.length_append]; omega), List.map_append, List.take_append_of_le_length (by simp)] at this
    rw [this, List.take_of_length_le (by simp)]
theorem OB.spot {w : World} {B : Nat} {a : Option Addr} {n c : Nat} {l : List UInt8} (h : OB w B (.slice a n c) l) : (∀ q, a = some q → q.spot = none) ∧ n = l.length ∧ n ≤ c := by
  obtain ⟨⟨hlen, h2⟩, hb⟩ := h
  rcases h2 with ⟨e, hn⟩ | ⟨g, cap, cur, e, h3, h4, h5, h6, h7, h8⟩
  · simp only [Value.slice.injEq] at e
    obtain ⟨rfl, rfl, rfl⟩ := e
    exact ⟨fun q h => (by cases h), hn.symm, Nat.le_refl _⟩
  · simp only [Value.slice.injEq] at e
    obtain ⟨rfl, rfl, rfl⟩ := e
    refine ⟨fun q h => ?_, rfl, h5⟩
    cases h
    rfl
theorem Apd.cut {w w' : World} {B : Nat} {v : Value} {l m1 m2 : List UInt8} {a : Option Addr} {n c : Nat} (h : Apd w B v l (m1 ++ m2) (.slice a n c) w') : Apd w B v l m1 (.slice a (l ++ m1).length c) w' := by
  obtain ⟨h1, h2, h3⟩ := h
  rw [← List.append_assoc] at h1
  exact ⟨h1.cut, h2, by rw [own_any (n' := n) (c' := c)]; exact h3⟩
/-- What is appended is cut back. -/
theorem cut_back {w w' : World} {B : Nat} {v : Value} {l m1 m2 : List UInt8} {a : Option Addr} {n c sz : Nat} {j : Int} {K : Value → Prop} (h : Apd w B v l (m1 ++ m2) (.slice a n c) w') (hj : j = ((l ++ m1).length : Int)) (k : K (.slice a (l ++ m1).length c)) :
    ((((none : Option Int).getD ((c : Nat) : Int)).toNat = ((none : Option Int).getD 0).toNat ∨ ∀ q, a = some q → q.spot = none)) ∧ ((none : Option Int).isSome → (some j).isSome) ∧ (0 ≤ (none : Option Int).getD 0 ∧ (none : Option Int).getD 0 ≤ (some j).getD ((n : Nat) : Int) ∧ (some j).getD ((n : Nat) : Int) ≤ (none : Option Int).getD ((c : Nat) : Int) ∧ (none : Option Int).getD ((c : Nat) : Int) ≤ ((c : Nat) : Int)) ∧
      ∀ r : Value, Value.slice (cutAddr a sz ((none : Option Int).getD 0).toNat ((none : Option Int).getD ((c : Nat) : Int)).toNat) (((some j).getD ((n : Nat) : Int)).toNat - ((none : Option Int).getD 0).toNat) (((none : Option Int).getD ((c : Nat) : Int)).toNat - ((none : Option Int).getD 0).toNat) = r → K r := by
  subst hj
  obtain ⟨h1, h2, h3⟩ := h.ob.spot
  have hle : (l ++ m1).length ≤ n := by rw [h2]; simp only [List.length_append]; omega
  refine ⟨.inr h1, fun h => (by cases h), ⟨by simp, by simp only [Option.getD_none, Option.getD_some]; omega, by simp only [Option.getD_none, Option.getD_some]; omega, by simp⟩, ?_⟩
  rintro r rfl
  have e : cutAddr a sz ((none : Option Int).getD 0).toNat ((none : Option Int).getD ((c : Nat) : Int)).toNat = a := by
    unfold cutAddr
    split
    · rfl
    · cases a with
      | none => rfl
      | some q =>
        have h4 := h1 q rfl
        obtain ⟨b, o, s⟩ := q
        simp only at h4
        subst h4
        simp
  have e2 : ((some ((l ++ m1).length : Int)).getD ((n : Nat) : Int)).toNat - ((none : Option Int).getD 0).toNat = (l ++ m1).length := by
    simp only [Option.getD_none, Option.getD_some, Int.toNat_natCast]
    omega
  have e3 : ((none : Option Int).getD ((c : Nat) : Int)).toNat - ((none : Option Int).getD 0).toNat = c := by
    simp only [Option.getD_none, Int.toNat_natCast]
    omega
  rw [e, e2, e3]
  exact k
/-- What lies behind: its length alone. -/
theorem cut_rest {w w' : World} {B : Nat} {v : Value} {l m1 m2 : List UInt8} {a : Option Addr} {n c sz : Nat} {j : Int} {K : Value → Prop} (h : Apd w B v l (m1 ++ m2) (.slice a n c) w') (hj : j = ((l ++ m1).length : Int)) (k : ∀ a' c', K (.slice a' m2.length c')) :
    ((((none : Option Int).getD ((c : Nat) : Int)).toNat = ((some j).getD 0).toNat ∨ ∀ q, a = some q → q.spot = none)) ∧ ((none : Option Int).isSome → (none : Option Int).isSome) ∧ (0 ≤ (some j).getD 0 ∧ (some j).getD 0 ≤ (none : Option Int).getD ((n : Nat) : Int) ∧ (none : Option Int).getD ((n : Nat) : Int) ≤ (none : Option Int).getD ((c : Nat) : Int) ∧ (none : Option Int).getD ((c : Nat) : Int) ≤ ((c : Nat) : Int)) ∧
      ∀ r : Value, Value.slice (cutAddr a sz ((some j).getD 0).toNat ((none : Option Int).getD ((c : Nat) : Int)).toNat) (((none : Option Int).getD ((n : Nat) : Int)).toNat - ((some j).getD 0).toNat) (((none : Option Int).getD ((c : Nat) : Int)).toNat - ((some j).getD 0).toNat) = r → K r := by
  subst hj
  obtain ⟨h1, h2, h3⟩ := h.ob.spot
  have hle : n = (l ++ m1).length + m2.length := by rw [h2]; simp only [List.length_append]; omega
  refine ⟨.inr h1, fun h => h, ⟨by simp only [Option.getD_some]; omega, by simp only [Option.getD_none, Option.getD_some]; omega, by simp only [Option.getD_none]; omega, by simp⟩, ?_⟩
  rintro r rfl
  have e : ((none : Option Int).getD ((n : Nat) : Int)).toNat - ((some ((l ++ m1).length : Int)).getD 0).toNat = m2.length := by
    simp only [Option.getD_none, Option.getD_some, Int.toNat_natCast]
    omega
  rw [e]
  exact k _ _
theorem OSl.some {w : World} {B : Nat} {e : TypeId} {sz : Nat} {a : Option Addr} {n c : Nat} {ls : List (List Value)} (h : OSl w B e sz (.slice a n c) ls) {i : Nat} (hi : i < ls.length) : ∃ g, a = some ⟨g, 0, none⟩ := by
  obtain ⟨⟨hlen, h2⟩, hb, _⟩ := h
  rcases h2 with ⟨e, hn⟩ | ⟨g, cap, cur, e, _⟩
  · omega
  · simp only [Value.slice.injEq] at e
    exact ⟨g, e.1⟩
theorem zeros_eq : ∀ (u : List UInt8) (n : Nat), ((u.map fun x => (x.toNat : Int)) == List.replicate n 0) = decide (u = List.replicate n 0)
  | [], 0 => by simp
  | [], n + 1 => by simp [List.replicate_succ]
  | _ :: _, 0 => by simp
  | x :: r, n + 1 => by
    have ih := zeros_eq r n
    rw [List.map_cons, List.replicate_succ, List.replicate_succ]
    simp only [List.cons_beq_cons, ih]
    have hx : ((x.toNat : Int) == 0) = decide (x = 0) := by
      rw [Bool.eq_iff_iff]
      simp [← UInt8.toNat_inj]
    rw [hx, Bool.eq_iff_iff]
    simp
theorem u16_eq (u : List UInt8) : ((u.map fun x => (x.toNat : Int)) == List.replicate 16 0) = decide (u = List.replicate 16 0) := zeros_eq u 16
theorem NTextR.ptr {w : World} {F : Nat → Prop} {c : Value} {t : T} (h : NTextR w F c t) : ∃ q, c = .pointer q ∧ q.isNone = t.nl := by
  rcases h with ⟨e, rfl⟩ | ⟨e, b, o, rfl, _⟩
  · exact ⟨none, rfl, by rw [e]; rfl⟩
  · exact ⟨_, rfl, by rw [e]; rfl⟩
end Go.Proofs.YtgfkjnbhcekfkaaGreatDoor.K
