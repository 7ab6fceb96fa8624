/- How many bits, how many groups of seven. -/
import Derived.Test.YtibbkhcdplijdaaGreatDoorB1
set_option linter.unusedVariables false
set_option linter.unusedSimpArgs false
namespace Go.Proofs.YtibbkhcdplijdaaGreatDoor.K
open Go
set_option maxHeartbeats 400000

theorem index_str {o : Oper} {e : Env} {w : World} {K : Value → World → Prop} {t : TypeId} {x y : Operand} {s : ByteArray} {k : IntKind} {n : Int} {by' sz : Nat} {z : List Value} (b : UInt8) (ho : o.op = .index t x y) (hx : ev e x = some (.string s)) (hy : ev e y = some (.int k n))
    (ht : tlook X.tab t = some ⟨.str, sz, by', z⟩) (h0 : 0 ≤ n) (hb : s[n.toNat]? = some b) (hk : K (.int .u8 (b.toNat : Int)) w) : semVC X o e w K := by
  refine .inl ⟨_, w, fun ρ hρ => .inl ?_, hk⟩
  obtain ⟨d, inf, zv, hr⟩ := X.row ht
  have hd := hr.desc
  cases d <;> simp [descOf] at hd
  have h1 := hρ x _ hx
  have h2 := hρ y _ hy
  simp [execOp, ho, h1, h2, Instr.index, asIntOf, hr.run_und, h0, hb]
def bl : Nat → Nat → Nat
  | 0, _ => 0
  | f + 1, n => if n = 0 then 0 else bl f (n / 2) + 1
/-- How many bits a number has. -/
def bitLen (n : Nat) : Nat := bl 64 n
theorem bl_enough : ∀ (f n : Nat), n < 2 ^ f → bl (f + 1) n = bl f n
  | 0, n, h => by
    have : n = 0 := by simpa using h
    simp [bl, this]
  | f + 1, n, h => by
    show (if n = 0 then 0 else bl (f + 1) (n / 2) + 1) = (if n = 0 then 0 else bl f (n / 2) + 1)
    split
    · rfl
    · rw [bl_enough f (n / 2) (by rw [Nat.pow_succ] at h; omega)]
theorem bitLen_half {n : Nat} (h : n < 2 ^ 63) (h0 : 0 < n) : bitLen n = bitLen (n / 2) + 1 := by
  unfold bitLen
  rw [bl, if_neg (by omega), bl_enough 63 (n / 2) (by omega)]
theorem bitLen_shift : ∀ (k n : Nat), n < 2 ^ 63 → 2 ^ k ≤ n → bitLen n = bitLen (n / 2 ^ k) + k
  | 0, n, _, _ => by simp
  | k + 1, n, h, hk => by
    have h0 : 0 < n := Nat.lt_of_lt_of_le (Nat.pow_pos (by decide)) hk
    rw [bitLen_half h h0, bitLen_shift k (n / 2) (by omega) (by rw [Nat.pow_succ] at hk; omega), Nat.div_div_eq_div_mul, Nat.pow_succ, Nat.mul_comm 2 (2 ^ k)]
    omega
theorem tab_of {s : ByteArray} {f : Nat → Nat} {N : Nat} (h : ∀ x, x < N → s[x]? = some (UInt8.ofNat (f x))) (m : Nat) (hm : m < N) : s[(m : Int).toNat]? = some (UInt8.ofNat (f m)) := by
  rw [Int.toNat_natCast]
  exact h m hm
theorem bitLen_256 : ∀ x, x < 256 → bitLen x ≤ 8 := by decide +kernel
theorem Len32_does (n : Nat) (hn : n < 2 ^ 32) (w : World) : Does X.P 115 #[.int .u32 n] w fun r w' => r = .int .i64 (bitLen n : Nat) ∧ w' = w := by
  refine Does.go (X := X) (l := [_]) Tryz.func115 rfl (by kernel_rfl) (by kernel_rfl) _ rfl ?_
  ((conv=>whnf);repeat((first|refine mvT ?_|refine mvF ?_|refine yT ?_|refine yF ?_);conv=>whnf))
  refine VC.cutE (fun i : Nat × Nat => [(0, .int .u32 i.1), (2, .int .i64 i.2)]) (fun i w' => w' = w ∧ i.1 < 65536 ∧ (i.2 = 0 ∨ i.2 = 16) ∧ bitLen n = bitLen i.1 + i.2) ?_ ?_
  · refine cI (by rfl) (fun h1=>?_) (fun h1=>?_)
    · have hge : 65536 ≤ n := by have := of_decide_eq_true h1; omega
      ((conv=>whnf);repeat((first|refine mvT ?_|refine mvF ?_|refine yT ?_|refine yF ?_);conv=>whnf))
      refine ⟨by decide, ?_⟩
      ((conv=>whnf);repeat((first|refine mvT ?_|refine mvF ?_|refine yT ?_|refine yF ?_);conv=>whnf))
      refine ⟨(n / 65536, 16), ⟨?_, rfl, trivial⟩, rfl, by simp only; omega, .inr rfl, bitLen_shift 16 n (by omega) hge⟩
      show some (Value.int .u32 _) = _
      rw [show (min (16 : Int).toNat IntKind.u32.bits) = 16 from rfl, fd]
      rfl
    · have hlt : n < 65536 := by have := of_decide_eq_false h1; omega
      ((conv=>whnf);repeat((first|refine mvT ?_|refine mvF ?_|refine yT ?_|refine yF ?_);conv=>whnf))
      exact ⟨(n, 0), ⟨rfl, rfl, trivial⟩, rfl, hlt, .inl rfl, rfl⟩
  · rintro ⟨m, k⟩ w1 ⟨rfl, hm, hk, hbl⟩
    dsimp only at hm hk hbl
    ((conv=>whnf);repeat((first|refine mvT ?_|refine mvF ?_|refine yT ?_|refine yF ?_);conv=>whnf))
    refine VC.cutE (fun i : Nat × Nat => [(0, .int .u32 i.1), (2, .int .i64 i.2)]) (fun i w' => w' = w1 ∧ i.1 < 256 ∧ i.2 ≤ 24 ∧ bitLen n = bitLen i.1 + i.2) ?_ ?_
    · refine cI (by rfl) (fun h2=>?_) (fun h2=>?_)
      · have hge : 256 ≤ m := by have := of_decide_eq_true h2; simp only at this; omega
        ((conv=>whnf);repeat((first|refine mvT ?_|refine mvF ?_|refine yT ?_|refine yF ?_);conv=>whnf))
        refine ⟨by decide, ?_⟩
        ((conv=>whnf);repeat((first|refine mvT ?_|refine mvF ?_|refine yT ?_|refine yF ?_);conv=>whnf))
        refine ⟨(m / 256, k + 8), ⟨?_, ?_, trivial⟩, rfl, by simp only; omega, by simp only; omega, ?_⟩
        · show some (Value.int .u32 _) = _
          rw [show (min (8 : Int).toNat IntKind.u32.bits) = 8 from rfl, fd]
          rfl
        · show some (Value.int .i64 (IntKind.i64.wrap ((k : Int) + 8))) = _
          rw [i64_of (by omega) (by omega)]
          rfl
        · have := bitLen_shift 8 m (by omega) hge
          simp only
          rw [hbl, this]
          show _ = bitLen (m / 2 ^ 8) + (k + 8)
          omega
      · have hlt : m < 256 := by have := of_decide_eq_false h2; simp only at this; omega
        ((conv=>whnf);repeat((first|refine mvT ?_|refine mvF ?_|refine yT ?_|refine yF ?_);conv=>whnf))
        exact ⟨(m, k), ⟨rfl, rfl, trivial⟩, rfl, hlt, by simp only; omega, hbl⟩
    · rintro ⟨q, j⟩ w2 ⟨rfl, hq, hj, hbl2⟩
      dsimp only at hq hj hbl2
      have hw8 : IntKind.u8.wrap (q : Int) = (q : Int) := by rw [IntKind.wrap_u8]; omega
      ((conv=>whnf);repeat((first|refine mvT ?_|refine mvF ?_|refine yT ?_|refine yF ?_);conv=>whnf))
      rw [hw8]
      refine index_str (UInt8.ofNat (bitLen q)) rfl rfl rfl rfl (by omega) (tab_of (N := 256) (by decide +kernel) q hq) ?_
      ((conv=>whnf);repeat((first|refine mvT ?_|refine mvF ?_|refine yT ?_|refine yF ?_);conv=>whnf))
      refine ⟨?_, rfl⟩
      have hb8 := bitLen_256 q hq
      rw [UInt8.toNat_ofNat', Nat.mod_eq_of_lt (by omega)]
      show Value.int .i64 (IntKind.i64.wrap ((j : Int) + IntKind.i64.wrap (bitLen q : Int))) = _
      rw [i64_of (n := (bitLen q : Int)) (by omega) (by omega), i64_of (by omega) (by omega), hbl2]
      congr 1
      omega
theorem pow_of_bitLen : ∀ (k n : Nat), n < 2 ^ 63 → (bitLen n ≤ k ↔ n < 2 ^ k)
  | 0, n, h => by
    rcases Nat.eq_zero_or_pos n with h0 | h0
    · subst h0
      simp [bitLen, bl]
    · rw [bitLen_half h h0]
      simp
      omega
  | k + 1, n, h => by
    rcases Nat.eq_zero_or_pos n with h0 | h0
    · subst h0
      simp [bitLen, bl]
      exact Nat.pow_pos (by decide)
    · have := pow_of_bitLen k (n / 2) (by omega)
      rw [bitLen_half h h0, Nat.pow_succ]
      omega
/-- How many groups of seven bits a number of 32 bits has. -/
def groups (n : Nat) : Nat := if n < 128 then 1 else if n < 16384 then 2 else if n < 2097152 then 3 else if n < 268435456 then 4 else 5
def groupsL (k : Nat) : Nat := if k ≤ 7 then 1 else if k ≤ 14 then 2 else if k ≤ 21 then 3 else if k ≤ 28 then 4 else 5
theorem groups_of (n : Nat) (h : n < 2 ^ 32) : groupsL (bitLen n) = groups n := by
  have h7 := pow_of_bitLen 7 n (by omega)
  have h14 := pow_of_bitLen 14 n (by omega)
  have h21 := pow_of_bitLen 21 n (by omega)
  have h28 := pow_of_bitLen 28 n (by omega)
  unfold groupsL groups
  simp only [h7, h14, h21, h28]
theorem UvarintLen_does (n : Nat) (hn : n < 2 ^ 32) (w : World) : Does X.P 110 #[.int .u32 n] w fun r w' => r = .int .i64 (groups n : Nat) ∧ w' = w := by
  have hbl : bitLen n < 33 := by have := (pow_of_bitLen 32 n (by omega)).2 hn; omega
  have hw8 : IntKind.u8.wrap (bitLen n : Int) = (bitLen n : Int) := by rw [IntKind.wrap_u8]; omega
  refine Does.go (X := X) (l := [_]) Tryz.func110 rfl (by kernel_rfl) (by kernel_rfl) _ rfl ?_
  ((conv=>whnf);repeat((first|refine mvT ?_|refine mvF ?_|refine yT ?_|refine yF ?_);conv=>whnf))
  refine Does.mono (Len32_does n hn w) ?_;rintro r1 w1 ⟨rfl, rfl⟩;((conv=>whnf);repeat((first|refine mvT ?_|refine mvF ?_|refine yT ?_|refine yF ?_);conv=>whnf))
  rw [hw8]
  refine index_str (UInt8.ofNat (groupsL (bitLen n))) rfl rfl rfl rfl (by omega) (tab_of (f := groupsL) (N := 33) (by decide +kernel) (bitLen n) hbl) ?_
  ((conv=>whnf);repeat((first|refine mvT ?_|refine mvF ?_|refine yT ?_|refine yF ?_);conv=>whnf))
  refine ⟨?_, rfl⟩
  rw [groups_of n hn]
  have hg : groups n ≤ 5 := by
    unfold groups
    repeat (split; omega)
    omega
  rw [UInt8.toNat_ofNat', Nat.mod_eq_of_lt (by omega)]
  show Value.int .i64 (IntKind.i64.wrap (groups n : Int)) = _
  rw [i64_of (by omega) (by omega)]
end Go.Proofs.YtibbkhcdplijdaaGreatDoor.K
