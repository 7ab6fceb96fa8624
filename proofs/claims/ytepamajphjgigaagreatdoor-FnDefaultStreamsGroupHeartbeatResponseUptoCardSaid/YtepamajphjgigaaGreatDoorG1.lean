
/- Octets: buffers that grow, numbers in octets. -/
import Derived.Test.YtepamajphjgigaaGreatDoorG0
import Derived.Test.YtepamajphjgigaaGreatDoorKX
set_option linter.unusedVariables false
set_option linter.unusedSimpArgs false
namespace Go.Proofs.YtepamajphjgigaaGreatDoor.K
open Go
set_option maxHeartbeats 400000

abbrev U8 : TypeId := 5
/-- v is a buffer of its own, from block B on, that holds l. -/
structure OB (w : World) (B : Nat) (v : Value) (l : List UInt8) : Prop where
  own : OwnSl w U8 1 v l.length (l.map bcell)
  blk : ∀ k, v.ownBlock = some k → B ≤ k
theorem OB.nil (w : World) (B : Nat) : OB w B (.slice none 0 0) [] := ⟨OwnSl.nil w U8 1, by simp [Value.ownBlock]⟩
theorem OB.lt {w : World} {B : Nat} {v : Value} {l : List UInt8} (h : OB w B v l) : ∀ k, v.ownBlock = some k → k < w.heap.size := h.own.lt
theorem OB.ext {M : Nat → Prop} {w w' : World} {B : Nat} {v : Value} {l : List UInt8} (h : OB w B v l) (x : Ext M w w') (hb : ∀ k, v.ownBlock = some k → ¬ M k) : OB w' B v l := ⟨h.own.ext x hb, h.blk⟩
theorem OB.e0 {w w' : World} {B : Nat} {v : Value} {l : List UInt8} (h : OB w B v l) (x : Ext nob w w') : OB w' B v l := h.ext x fun _ _ f => f
theorem OB.mono {w : World} {B B' : Nat} {v : Value} {l : List UInt8} (h : OB w B v l) (hB : B' ≤ B) : OB w B' v l := ⟨h.own, fun k hk => Nat.le_trans hB (h.blk k hk)⟩
theorem OB.bytes {w : World} {B : Nat} {v : Value} {l : List UInt8} (h : OB w B v l) {F : Nat → Prop} (hF : ∀ k, B ≤ k → F k) : Bytes w F v l := h.own.sl fun k hk => hF k (h.blk k hk)
theorem OB.bytesAny {w : World} {B : Nat} {v : Value} {l : List UInt8} (h : OB w B v l) : Bytes w anyB v l := h.bytes fun _ _ => trivial
theorem okCells_bytes (l : List UInt8) : okCells (l.map bcell) = true := by simp [okCells, Value.oneCell']
theorem Bytes.src {w : World} {F : Nat → Prop} {v : Value} {l : List UInt8} (h : Bytes w F v l) : Src w 1 v l.length (l.map bcell) := Sl.src h
/-- What a short slice literal holds. -/
theorem src_own {w : World} {b : Nat} {Ty : TypeId} {l : List UInt8} {n c : Nat} (h : Own w b Ty (l.map bcell)) (hn : n = l.length) : Src w 1 (.slice (some ⟨b, 0, none⟩) n c) l.length (l.map bcell) := by
  subst hn
  exact Src.some b 0 _ c _ (by simp) h.cells
/-- A step that changes no more than a buffer of our own. -/
theorem Ext.own {w0 w w' : World} {M : Nat → Prop} {v : Value} (h : Ext M w0 w) (x : Ext (fun k => v.ownBlock = some k) w w') {B : Nat} (hb : ∀ k, v.ownBlock = some k → B ≤ k) (hB : w0.heap.size ≤ B) : Ext M w0 w' :=
  h.trans x fun k hk hv => by have := hb k hv; omega
theorem app_bytes {w : World} {B : Nat} {v x : Value} {l m : List UInt8} {K : Value → World → Prop} {z : List Value} {sz by0 : Nat} (hsz : sz = 1) (hby : by0 = 1) (h : OB w B v l) (hs : Src w 1 x m.length (m.map bcell)) (hz : z.length = 1)
    (hl : l.length + m.length ≤ 140737488355328) (hB : B ≤ w.heap.size) (k : ∀ v' w', OB w' B v' (l ++ m) → Ext (fun k => v.ownBlock = some k) w w' → (v'.ownBlock = v.ownBlock ∨ ∃ k, v'.ownBlock = some k ∧ w.heap.size ≤ k) → (v ≠ .slice none 0 0 → v' ≠ .slice none 0 0) → K v' w') :
    ∃ n xs m news, OwnSl w U8 sz v n xs ∧ Src w sz x m news ∧ (z.length = sz ∧ okCells news = true) ∧ (n + m ≤ maxLen ∧ (n + m) * by0 ≤ 140737488355328) ∧
      ∀ v' w', OwnSl w' U8 sz v' (n + m) (xs ++ news) → Appended w w' v v' → K v' w' := by
  subst hsz
  subst hby
  refine ⟨l.length, l.map bcell, m.length, m.map bcell, h.own, hs, ⟨hz, okCells_bytes m⟩, ⟨by rw [maxLen_eq]; omega, by omega⟩, fun v' w' ho ha => k v' w' ⟨?_, fun j hj => ?_⟩ ha.ext ha.blk ha.nil⟩
  · rw [List.length_append, List.map_append]
    exact ho
  · rcases ha.blk with hb | ⟨q, hq, hle⟩
    · rw [hb] at hj; exact h.blk j hj
    · rw [hq, Option.some.injEq] at hj
      omega
/-- A step that changes no more than a block of our own. -/
theorem Ext.st {w0 w w' : World} {M : Nat → Prop} {b : Nat} (h : Ext M w0 w) (x : Ext (fun k => k = b) w w') (hb : w0.heap.size ≤ b) : Ext M w0 w' :=
  h.trans x fun k hk e => by omega
theorem splice_all {l m : List Value} (h : m.length = l.length) : splice l 0 m = m := by
  simp [splice, h]
theorem st_all {w : World} {b : Nat} {Ty : TypeId} {l : List Value} (m : List Value) {sz : Nat} {K : World → Prop} (ho : Own w b Ty l) (hm : m.length = sz) (hl : l.length = sz) (hok : okCells m = true) (k : ∀ w', Own w' b Ty m → Ext (fun k => k = b) w w' → K w') :
    ∃ T l1, Own w b T l1 ∧ m.length.beq sz = true ∧ okCells m = true ∧ (0 + sz).ble l1.length = true ∧ ∀ w', Own w' b T (splice l1 0 m) → Ext (fun k => k = b) w w' → K w' :=
  ⟨Ty, l, ho, by rw [hm]; exact Nat.beq_refl _, hok, by rw [hl, Nat.zero_add]; exact Nat.ble_self_eq_true _, fun w' h x => k w' (by rwa [splice_all (by rw [hm, hl])] at h) x⟩
theorem Sl.one {w : World} {F : Nat → Prop} {sz n : Nat} {v : Value} {xs : List Value} (h : Sl w F sz v n xs) : v.oneCell' = true := by
  obtain ⟨a, c, rfl, _⟩ := h
  rfl
theorem TgsR.one {w : World} {F : Nat → Prop} {v : Value} {u : List Tg} (h : TgsR w F v u) : v.oneCell' = true := by
  obtain ⟨ls, h, _⟩ := h
  exact h.1.one
theorem TrC.ok {w : World} {F : Nat → Prop} {c : List Value} {t : T} (h : TrC w F c t) : okCells c = true := by
  cases h with
  | mk n s nl l u sv lv uv ls hn hs hl hlen hr hu =>
    have h1 := Sl.one hs
    have h2 := hl.1.one
    have h3 := hu.one
    simp only [okCells, List.all_cons, List.all_nil, h1, h2, h3]
    rfl
theorem FdC.len {w : World} {F : Nat → Prop} {c : List Value} {t : Fd} (h : FdC w F c t) : c.length = 8 := by cases h; rfl
theorem FdC.ok {w : World} {F : Nat → Prop} {c : List Value} {t : Fd} (h : FdC w F c t) : okCells c = true := by
  cases h with
  | mk kind fr to nul tag df of sub sv ls hl hlen hr =>
    have h2 := hl.1.one
    simp only [okCells, List.all_cons, List.all_nil, h2]
    rfl
/-- A slice's front. -/
theorem cut_hi {w : World} {F : Nat → Prop} {sz sz' : Nat} {a : Option Addr} {n c : Nat} {xs : List Value} (h : Sl w F sz (.slice a n c) n xs) (hsz : sz' = sz) {j : Int} {m : Nat} (hj : j = (m : Int)) (hm : m ≤ n) :
    ((((none : Option Int).getD c).toNat = ((none : Option Int).getD 0).toNat ∨ ∀ q, a = some q → q.spot = none)) ∧ ((none : Option Int).isSome → (some j).isSome) ∧ (0 ≤ (none : Option Int).getD 0 ∧ (none : Option Int).getD 0 ≤ (some j).getD n ∧ (some j).getD n ≤ (none : Option Int).getD c ∧ (none : Option Int).getD c ≤ c) ∧
      ∀ r : Value, Value.slice (cutAddr a sz' ((none : Option Int).getD 0).toNat ((none : Option Int).getD c).toNat) (((some j).getD n).toNat - ((none : Option Int).getD 0).toNat) (((none : Option Int).getD c).toNat - ((none : Option Int).getD 0).toNat) = r →
        ∃ a', r = Value.slice a' m c ∧ Sl w F sz (.slice a' m c) m (xs.take (m * sz)) := by
  subst hsz
  subst hj
  obtain ⟨a0, c0, heq, ⟨hc, hmx⟩, hl, ha⟩ := h
  injection heq with e1 e2 e3
  subst e1
  subst e3
  refine ⟨?_, fun _ => rfl, ⟨Int.le_refl _, Int.natCast_nonneg _, by simp only [Option.getD_some, Option.getD_none]; omega, Int.le_refl _⟩, ?_⟩
  · rcases ha with ⟨_, rfl | rfl⟩ | ⟨b, o, rfl, _⟩
    · exact .inr (by simp)
    · exact .inl rfl
    · refine .inr fun q hq => ?_
      simp only [Option.some.injEq] at hq
      rw [← hq]
  · rintro r rfl
    simp only [Option.getD_some, Option.getD_none, Int.toNat_natCast, Int.toNat_zero, Nat.sub_zero]
    refine ⟨_, rfl, _, c, rfl, ⟨by omega, hmx⟩, ?_, ?_⟩
    · rw [List.length_take, hl]
      exact Nat.min_eq_left (Nat.mul_le_mul_right _ hm)
    · rcases ha with ⟨h0, hz⟩ | ⟨b, o, rfl, hF, hlt, hx⟩
      · left
        refine ⟨by omega, ?_⟩
        rcases hz with rfl | rfl
        · left
          unfold cutAddr
          split <;> rfl
        · exact .inr rfl
      · right
        refine ⟨b, o, ?_, hF, hlt, fun i u hi => hx i u ?_⟩
        · unfold cutAddr
          split <;> simp
        · rw [List.getElem?_take] at hi
          split at hi
          · exact hi
          · simp at hi
theorem take_most {α : Type} (l : List α) : l.take (min 32767 l.length) = l.take 32767 := by
  rcases Nat.le_total l.length 32767 with h | h
  · rw [Nat.min_eq_right h, List.take_of_length_le (Nat.le_refl _), List.take_of_length_le h]
  · rw [Nat.min_eq_left h]
theorem flatten_take {α : Type} (sz : Nat) : ∀ (ls : List (List α)) (k : Nat), (∀ c, c ∈ ls → c.length = sz) → ls.flatten.take (k * sz) = (ls.take k).flatten
  | [], k, _ => by simp
  | c :: r, 0, _ => by simp
  | c :: r, k + 1, h => by
    have hc := h c (by simp)
    rw [List.take_succ_cons, List.flatten_cons, List.flatten_cons, List.take_append, hc, List.take_of_length_le (by rw [hc, Nat.add_mul]; omega), ← flatten_take sz r k fun c hc => h c (by simp [hc])]
    congr 2
    rw [Nat.add_mul]
    omega
theorem min_most (n : Nat) : (if (32767 : Int) < (n : Int) then (32767 : Int) else (n : Int)) = ((min 32767 n : Nat) : Int) := by
  split <;> omega
def b8 (x : Int) : UInt8 := UInt8.ofNat (x % 256).toNat
theorem b8_toNat (x : Int) : ((b8 x).toNat : Int) = x % 256 := by
  unfold b8
  rw [UInt8.toNat_ofNat']
  omega
theorem wrap_u8 (x : Int) : Value.int .u8 (IntKind.u8.wrap x) = bcell (b8 x) := by
  unfold bcell
  rw [b8_toNat, IntKind.wrap_u8]
/-- A number in so many octets, the highest one first. -/
def fixed (n : Int) : Nat → List UInt8
  | 0 => []
  | k + 1 => b8 (n.fdiv (2 ^ (8 * k))) :: fixed n k
theorem fixed_length (n : Int) : ∀ k, (fixed n k).length = k
  | 0 => rfl
  | k + 1 => by simp [fixed, fixed_length n k]
/-- A number in groups of seven bits. -/
def uvar (n : Nat) : List UInt8 := if n > 127 then b8 (n % 128 + 128) :: uvar (n / 128) else [b8 n]
theorem uvar_length (n : Nat) : (uvar n).length ≤ 10 ∨ 2 ^ 64 ≤ n := by
  rcases Nat.lt_or_ge n (2 ^ 64) with h | h
  · left
    have key : ∀ (k n : Nat), n < 128 ^ k → 0 < k → (uvar n).length ≤ k := by
      intro k
      induction k with
      | zero => intro n _ h0; omega
      | succ k ih =>
        intro n hn _
        unfold uvar
        split
        · rename_i h127
          simp only [List.length_cons]
          have hk : 0 < k := by
            rcases Nat.eq_zero_or_pos k with h0 | h0
            · subst h0; omega
            · exact h0
          have := ih (n / 128) (by rw [Nat.pow_succ] at hn; exact Nat.div_lt_of_lt_mul (by omega)) hk
          omega
        · simp
    exact key 10 n (by omega) (by omega)
  · exact .inr h
theorem Fixed_does (n : Int) (k : Nat) (hk : k ≤ 8) (w : World) : Does X.P 82 #[.int .i64 n, .int .i64 k] w fun v w' => OB w' w.heap.size v (fixed n k) ∧ Ext nob w w' := by
  refine Does.go (X := X) (l := [_, _]) Tryz.func82 rfl (by kernel_rfl) (by kernel_rfl) _ rfl ?_
  ((conv=>whnf);repeat((first|refine mvT ?_|refine mvF ?_|refine yT ?_|refine yF ?_);conv=>whnf))
  refine VL.loop (fun (i : Nat × Value) => [(0, .int .i64 n), (5, i.2), (6, .int .i64 ((i.1 : Int) - 1))]) (fun i w' => i.1 ≤ k ∧ Ext nob w w' ∧ ∃ l, OB w' w.heap.size i.2 l ∧ l ++ fixed n i.1 = fixed n k) (fun i => i.1) (k, .slice none 0 0)
    ⟨rfl, rfl, ?_, trivial⟩ ⟨Nat.le_refl _, Ext.refl _ _, [], OB.nil _ _, rfl⟩ ?_
  · show some (Value.int .i64 (IntKind.i64.wrap ((k : Int) - 1))) = _
    rw [i64_of (by omega) (by omega)]
  rintro ⟨i, v⟩ w1 ⟨hi, hx, l, hOB, hl⟩
  ((conv=>whnf);repeat((first|refine mvT ?_|refine mvF ?_|refine yT ?_|refine yF ?_);conv=>whnf))
  refine cI (by rfl) (fun h1=>?_) (fun h1=>?_)
  · have hi1 : 1 ≤ i := by have := of_decide_eq_true h1; simp only at this; omega
    obtain ⟨i, rfl⟩ : ∃ j, i = j + 1 := ⟨i - 1, by omega⟩
    ((conv=>whnf);repeat((first|refine mvT ?_|refine mvF ?_|refine yT ?_|refine yF ?_);conv=>whnf))
    dsimp only at hi hOB hl
    dsimp only
    rw [show IntKind.i64.wrap (8 * (((i + 1 : Nat) : Int) - 1)) = ((8 * i : Nat) : Int) from by rw [i64_of (by omega) (by omega)]; omega]
    refine ⟨Int.natCast_nonneg _, ?_⟩
    conv => whnf
    intro b w2 hb hOwn hx2
    have hOwn : Own w2 b U8 ([b8 (n.fdiv (2 ^ (8 * i)))].map bcell) := by
      rw [wrap_u8, show min (((8 * i : Nat) : Int)).toNat IntKind.i64.bits = 8 * i from by rw [Int.toNat_natCast]; exact Nat.min_eq_left (by show 8 * i ≤ 64; omega)] at hOwn
      exact hOwn
    conv => whnf
    have hll : l.length + (i + 1) = k := by have := congrArg List.length hl; simpa [fixed_length] using this
    refine app_bytes rfl rfl (hOB.e0 hx2) (src_own hOwn rfl) rfl (by simp only [List.length_singleton]; omega) (by have := hx.size; have := hx2.size; omega) ?_
    intro v' w3 hOB' hx3 _ _
    ((conv=>whnf);repeat((first|refine mvT ?_|refine mvF ?_|refine yT ?_|refine yF ?_);conv=>whnf))
    refine ⟨(i, v'), ⟨rfl, rfl, ?_, trivial⟩, ⟨by simp only; omega, (hx.e0 hx2).own hx3 hOB.blk (Nat.le_refl _), _, hOB', ?_⟩, by simp only; omega⟩
    · show some (Value.int .i64 (IntKind.i64.wrap (((i + 1 : Nat) : Int) - 1 - 1))) = _
      rw [i64_of (by omega) (by omega)]
      simp only [Option.some.injEq, Value.int.injEq, true_and]
      omega
    · rw [← hl]
      simp [fixed]
  · have hi0 : i = 0 := by have := of_decide_eq_false h1; simp only at this; omega
    subst hi0
    ((conv=>whnf);repeat((first|refine mvT ?_|refine mvF ?_|refine yT ?_|refine yF ?_);conv=>whnf))
    simp only [fixed, List.append_nil] at hl
    subst hl
    exact ⟨hOB, hx⟩
theorem u64_of {n : Nat} (h : n < 2 ^ 64) : IntKind.u64.wrap (n : Int) = (n : Int) := by
  simp [IntKind.wrap, IntKind.bits, IntKind.signed]
  omega
theorem bv_ofInt_nat (k m : Nat) : (BitVec.ofInt k (m : Int)).toNat = m % 2 ^ k := by
  rw [BitVec.toNat_ofInt]
  omega
theorem and127 (m : Nat) (k : Nat) (hk : 7 ≤ k) (hm : m < 2 ^ k) : (BitVec.ofInt k (m : Int) &&& BitVec.ofInt k 127).toNat = m % 128 := by
  have h127 : (127 : Nat) < 2 ^ k := Nat.lt_of_lt_of_le (by decide : 127 < 2 ^ 7) (Nat.pow_le_pow_right (by decide) hk)
  rw [BitVec.toNat_and, bv_ofInt_nat, show (127 : Int) = ((127 : Nat) : Int) from rfl, bv_ofInt_nat, Nat.mod_eq_of_lt hm, Nat.mod_eq_of_lt h127]
  exact Nat.and_two_pow_sub_one_eq_mod m 7
theorem or128 (m : Nat) (hm : m < 128) : (BitVec.ofInt 8 (m : Int) ||| BitVec.ofInt 8 128).toNat = m + 128 := by
  rw [BitVec.toNat_or, bv_ofInt_nat, show (128 : Int) = ((128 : Nat) : Int) from rfl, bv_ofInt_nat, Nat.mod_eq_of_lt (by omega : m < 2 ^ 8), Nat.mod_eq_of_lt (by decide : 128 < 2 ^ 8)]
  rw [Nat.or_comm]
  have := Nat.two_pow_add_eq_or_of_lt (i := 7) (b := m) (by omega) 1
  simp at this
  omega
theorem grp7 (m : Nat) (hm : m < 2 ^ 64) : Value.int .u8 (IntKind.u8.wrap (((BitVec.ofInt IntKind.u8.bits (IntKind.u8.wrap (IntKind.u64.wrap ((BitVec.ofInt IntKind.u64.bits (m : Int) &&& BitVec.ofInt IntKind.u64.bits 127).toNat : Int))) ||| BitVec.ofInt IntKind.u8.bits 128).toNat : Nat) : Int)) = bcell (b8 ((m : Int) % 128 + 128)) := by
  rw [show IntKind.u64.bits = 64 from rfl, and127 m 64 (by decide) hm, show IntKind.u8.bits = 8 from rfl]
  have e1 : IntKind.u64.wrap ((m % 128 : Nat) : Int) = ((m % 128 : Nat) : Int) := u64_of (by omega)
  have e2 : IntKind.u8.wrap ((m % 128 : Nat) : Int) = ((m % 128 : Nat) : Int) := by rw [IntKind.wrap_u8]; omega
  rw [e1, e2, or128 _ (by omega), wrap_u8]
  congr 2
theorem shr7 (m : Nat) (k : Nat) (hk : 7 ≤ k) : (m : Int).fdiv (2 ^ (min (7 : Int).toNat k)) = ((m / 128 : Nat) : Int) := by
  rw [show min (7 : Int).toNat k = 7 from by rw [show (7 : Int).toNat = 7 from rfl]; omega]
  rw [Int.fdiv_eq_ediv_of_nonneg _ (by decide)]
  omega
theorem Uvarint_does (n : Nat) (hn : n < 2 ^ 64) (w : World) : Does X.P 42 #[.int .u64 n] w fun v w' => OB w' w.heap.size v (uvar n) ∧ Ext nob w w' := by
  have hlen : (uvar n).length ≤ 10 := by
    rcases uvar_length n with h | h
    · exact h
    · omega
  refine Does.go (X := X) (l := [_]) Tryz.func42 rfl (by kernel_rfl) (by kernel_rfl) _ rfl ?_
  ((conv=>whnf);repeat((first|refine mvT ?_|refine mvF ?_|refine yT ?_|refine yF ?_);conv=>whnf))
  refine VL.loop (fun (i : Nat × Value) => [(0, .int .u64 i.1), (3, i.2)]) (fun i w' => i.1 < 2 ^ 64 ∧ Ext nob w w' ∧ ∃ l, OB w' w.heap.size i.2 l ∧ l ++ uvar i.1 = uvar n) (fun i => i.1) (n, .slice none 0 0)
    ⟨rfl, rfl, trivial⟩ ⟨hn, Ext.refl _ _, [], OB.nil _ _, rfl⟩ ?_
  rintro ⟨m, v⟩ w1 ⟨hm, hx, l, hOB, hl⟩
  dsimp only at hm hOB hl
  have hll : l.length + (uvar m).length ≤ 10 := by have := congrArg List.length hl; simp at this; omega
  ((conv=>whnf);repeat((first|refine mvT ?_|refine mvF ?_|refine yT ?_|refine yF ?_);conv=>whnf))
  refine cI (by rfl) (fun h1=>?_) (fun h1=>?_)
  · have hm1 : m > 127 := by have := of_decide_eq_true h1; simp only at this; omega
    have hu : uvar m = b8 ((m : Int) % 128 + 128) :: uvar (m / 128) := by rw [uvar, if_pos hm1]
    ((conv=>whnf);repeat((first|refine mvT ?_|refine mvF ?_|refine yT ?_|refine yF ?_);conv=>whnf))
    intro b w2 hb hOwn hx2
    have hOwn : Own w2 b U8 ([b8 ((m : Int) % 128 + 128)].map bcell) := by
      dsimp only at hOwn
      rw [grp7 m hm] at hOwn
      exact hOwn
    conv => whnf
    refine app_bytes rfl rfl (hOB.e0 hx2) (src_own hOwn rfl) rfl (by simp only [List.length_singleton]; omega) (by have := hx.size; have := hx2.size; omega) ?_
    intro v' w3 hOB' hx3 _ _
    ((conv=>whnf);repeat((first|refine mvT ?_|refine mvF ?_|refine yT ?_|refine yF ?_);conv=>whnf))
    refine ⟨by decide, ?_⟩
    conv => whnf
    refine ⟨(m / 128, v'), ⟨?_, rfl, trivial⟩, ⟨by simp only; omega, (hx.e0 hx2).own hx3 hOB.blk (Nat.le_refl _), _, hOB', ?_⟩, by simp only; omega⟩
    · show some (Value.int .u64 _) = _
      dsimp only
      rw [shr7 m _ (by decide)]
    · rw [← hl, hu]
      simp
  · have hm0 : ¬ m > 127 := by have := of_decide_eq_false h1; simp only at this; omega
    have hu : uvar m = [b8 m] := by rw [uvar, if_neg hm0]
    ((conv=>whnf);repeat((first|refine mvT ?_|refine mvF ?_|refine yT ?_|refine yF ?_);conv=>whnf))
    intro b w2 hb hOwn hx2
    have hOwn : Own w2 b U8 ([b8 (m : Int)].map bcell) := by
      dsimp only at hOwn
      rw [wrap_u8] at hOwn
      exact hOwn
    conv => whnf
    refine app_bytes rfl rfl (hOB.e0 hx2) (src_own hOwn rfl) rfl (by simp only [List.length_singleton]; omega) (by have := hx.size; have := hx2.size; omega) ?_
    intro v' w3 hOB' hx3 _ _
    ((conv=>whnf);repeat((first|refine mvT ?_|refine mvF ?_|refine yT ?_|refine yF ?_);conv=>whnf))
    rw [hu] at hl
    rw [← hl]
    exact ⟨hOB', (hx.e0 hx2).own hx3 hOB.blk (Nat.le_refl _)⟩
theorem width_does (k : Int) (w : World) : Does X.P 84 #[.int .i64 k] w fun v w' => v = .int .i64 (if k = 1 then 1 else if k = 2 ∨ k = 5 then 2 else if k = 3 then 4 else 8) ∧ Ext nob w w' := by
  refine Does.go (X := X) (l := [_]) Tryz.func84 rfl (by kernel_rfl) (by kernel_rfl) _ rfl ?_
  ((conv=>whnf);repeat((first|refine mvT ?_|refine mvF ?_|refine yT ?_|refine yF ?_);conv=>whnf))
  refine cI (by rfl) (fun h1=>?_) (fun h1=>?_)
  · ((conv=>whnf);repeat((first|refine mvT ?_|refine mvF ?_|refine yT ?_|refine yF ?_);conv=>whnf))
    have : k = 1 := by simpa using h1
    exact ⟨by simp [oneOr, this], Ext.refl _ _⟩
  · have e1 : k ≠ 1 := by simpa using h1
    ((conv=>whnf);repeat((first|refine mvT ?_|refine mvF ?_|refine yT ?_|refine yF ?_);conv=>whnf))
    refine VC.cutE (fun b : Bool => [(3, .int .i64 k), (6, .bool b)]) (fun b w' => w' = w ∧ b = decide (k = 2 ∨ k = 5)) ?_ ?_
    · ((conv=>whnf);repeat((first|refine mvT ?_|refine mvF ?_|refine yT ?_|refine yF ?_);conv=>whnf))
      refine cI (by rfl) (fun h2=>?_) (fun h2=>?_)
      · ((conv=>whnf);repeat((first|refine mvT ?_|refine mvF ?_|refine yT ?_|refine yF ?_);conv=>whnf))
        have : k = 2 := by simpa using h2
        exact ⟨true, ⟨rfl, by simp [h2]; rfl, trivial⟩, rfl, by simp [this]⟩
      · have e2 : k ≠ 2 := by simpa using h2
        ((conv=>whnf);repeat((first|refine mvT ?_|refine mvF ?_|refine yT ?_|refine yF ?_);conv=>whnf))
        exact ⟨_, ⟨rfl, rfl, trivial⟩, rfl, by simp [e2]; rfl⟩
    · rintro b w' ⟨rfl, hb⟩
      refine cI (by rfl) (fun h3=>?_) (fun h3=>?_)
      · ((conv=>whnf);repeat((first|refine mvT ?_|refine mvF ?_|refine yT ?_|refine yF ?_);conv=>whnf))
        have h25 : k = 2 ∨ k = 5 := by rw [hb] at h3; simpa using h3
        exact ⟨by simp [oneOr, e1, h25], Ext.refl _ _⟩
      · have h25 : ¬ (k = 2 ∨ k = 5) := by rw [hb] at h3; simpa using h3
        ((conv=>whnf);repeat((first|refine mvT ?_|refine mvF ?_|refine yT ?_|refine yF ?_);conv=>whnf))
        refine cI (by rfl) (fun h4=>?_) (fun h4=>?_)
        · ((conv=>whnf);repeat((first|refine mvT ?_|refine mvF ?_|refine yT ?_|refine yF ?_);conv=>whnf))
          have : k = 3 := by simpa using h4
          subst this
          exact ⟨by simp [oneOr], Ext.refl _ _⟩
        · ((conv=>whnf);repeat((first|refine mvT ?_|refine mvF ?_|refine yT ?_|refine yF ?_);conv=>whnf))
          have e3 : k ≠ 3 := by simpa using h4
          exact ⟨by simp [oneOr, e1, h25, e3], Ext.refl _ _⟩
end Go.Proofs.YtepamajphjgigaaGreatDoor.K
