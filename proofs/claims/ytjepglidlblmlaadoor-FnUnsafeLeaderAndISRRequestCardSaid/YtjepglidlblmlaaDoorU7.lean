/- What is read of any octets can be told: no thing is longer than they are. -/
import Derived.Test.YtjepglidlblmlaaDoorU6
set_option linter.unusedVariables false
set_option linter.unusedSimpArgs false
namespace Go.Proofs.YtjepglidlblmlaaDoor.K
open Go
set_option maxHeartbeats 800000

/-- A reader takes octets from the front. -/
def Sk {α : Type} (g : Rd → α × Rd) : Prop := ∀ s, (g s).2.1.length ≤ s.1.length
theorem rdK_sk (k : Nat) : Sk (rdK k) := by
  intro s
  unfold rdK
  split
  · exact Nat.zero_le _
  · simp only [List.length_drop]; omega
theorem rdUv_sk (s : Rd) : (rdUv s).2.1.length ≤ s.1.length ∧ ((rdUv s).2.2 = false → (rdUv s).2.1.length < s.1.length) ∧ (rdUv s).1 < 4294967296 := by
  obtain ⟨l, b⟩ := s
  unfold rdUv
  match l with
  | [] => simp
  | a :: r1 =>
    have ha := a.toNat_lt
    dsimp only
    split
    · simp only [List.length_cons]; omega
    · match r1 with
      | [] => simp
      | b :: r2 =>
        have hb := b.toNat_lt
        dsimp only
        split
        · simp only [List.length_cons]; omega
        · match r2 with
          | [] => simp
          | c :: r3 =>
            have hc := c.toNat_lt
            dsimp only
            split
            · simp only [List.length_cons]; omega
            · match r3 with
              | [] => simp
              | d :: r4 =>
                have hd := d.toNat_lt
                dsimp only
                split
                · simp only [List.length_cons]; omega
                · match r4 with
                  | [] => simp
                  | e :: r5 =>
                    dsimp only
                    split
                    · simp only [List.length_cons]; omega
                    · simp
theorem rdSpan_sk (n : Int) (s : Rd) : (rdSpan n s).2.1.length ≤ s.1.length ∧ (rdSpan n s).1.length ≤ s.1.length := by
  unfold rdSpan
  split
  · simp
  · simp only [List.length_drop, List.length_take]; omega
theorem rdSz_sk (fx : Bool) (k : Nat) (ik : IntKind) : Sk (rdSz fx k ik) := by
  intro s
  unfold rdSz
  split
  · exact (rdUv_sk s).1
  · exact rdK_sk k s
/-- Trees no thing of which is longer than B. -/
inductive LmT (B : Nat) : T → Prop
  | mk (n : Int) (s : List UInt8) (nl : Bool) (l : List T) (u : List Tg) (hn : IntKind.i64.wrap n = n) (hs : s.length ≤ B) (hl : l.length ≤ B) (hu : u.length ≤ B) (hk : ∀ x, x ∈ u → x.1 < 4294967296 ∧ x.2.length ≤ B) (hd : (u.map Prod.fst).Nodup) (hls : ∀ x, x ∈ l → LmT B x) : LmT B (.mk n s nl l u)
theorem LmT.lim {B : Nat} (hB : B ≤ 1000000) {t : T} (h : LmT B t) : LimT t := by
  induction h with
  | mk n s nl l u hn hs hl hu hk hd _ ih => exact .mk _ _ _ _ _ hn (by omega) (by omega) (by omega) (fun x hx => ⟨(hk x hx).1, by have := (hk x hx).2; omega⟩) hd ih
theorem LmT.small {B : Nat} (hB : B ≤ 1000000) {t : T} (h : LmT B t) : Small t := by
  induction h with
  | mk n s nl l u hn hs hl hu hk hd _ ih => exact .mk _ _ _ _ _ (by omega) (by omega) ih
theorem LmT.leaf {B : Nat} {n : Int} {s : List UInt8} {nl : Bool} (hn : IntKind.i64.wrap n = n) (hs : s.length ≤ B) : LmT B (.mk n s nl [] []) := .mk _ _ _ _ _ hn hs (Nat.zero_le _) (Nat.zero_le _) (by simp) List.nodup_nil (by simp)
theorem LmT.zero {B : Nat} : LmT B T.zero := LmT.leaf rfl (Nat.zero_le _)
/-- What is read well is no longer than B. -/
def LG (B : Nat) (g : Rd → T × Rd) : Prop := ∀ s, s.1.length ≤ B → (g s).2.2 = false → LmT B (g s).1 ∧ (g s).2.1.length ≤ s.1.length
section
variable {B : Nat}
theorem wrap_wrap (ik : IntKind) (h : ik = .i8 ∨ ik = .i16 ∨ ik = .i32 ∨ ik = .u16 ∨ ik = .i64) (n : Int) : IntKind.i64.wrap (ik.wrap n) = ik.wrap n := by
  rcases h with rfl | rfl | rfl | rfl | rfl
  · exact numK_wrap 1 n
  · exact numK_wrap 2 n
  · exact numK_wrap 3 n
  · exact numK_wrap 5 n
  · exact numK_wrap 4 n
theorem rdNum_lg (k : Nat) (ik : IntKind) (h : ik = .i8 ∨ ik = .i16 ∨ ik = .i32 ∨ ik = .u16 ∨ ik = .i64) : LG B (rdNum k ik) := fun s _ _ => ⟨LmT.leaf (wrap_wrap ik h _) (Nat.zero_le _), rdK_sk k s⟩
theorem rdBo_lg : LG B rdBo := fun s _ _ => ⟨by unfold rdBo numT; split <;> exact LmT.leaf rfl (Nat.zero_le _), rdK_sk 1 s⟩
theorem rdUu_lg (hB : 16 ≤ B) : LG B rdUu := fun s _ _ => ⟨LmT.leaf rfl (by simp [uuidB]; omega), (rdSpan_sk 16 s).1⟩
theorem rdTx_sk (fx : Bool) (s : Rd) : (rdTx fx s).2.1.length ≤ s.1.length ∧ (rdTx fx s).1.length ≤ s.1.length := by
  have h1 := rdSz_sk fx 2 .i16 s
  have h2 := rdSpan_sk (rdSz fx 2 .i16 s).1 (rdSz fx 2 .i16 s).2
  unfold rdTx
  exact ⟨Nat.le_trans h2.1 h1, Nat.le_trans h2.2 h1⟩
theorem rdNt_lg (fx : Bool) : LG B (rdNt fx) := by
  intro s hs _
  have h1 := rdSz_sk fx 2 .i16 s
  have h2 := rdTx_sk fx s
  unfold rdNt
  split
  · exact ⟨LmT.leaf rfl (Nat.zero_le _), h1⟩
  · exact ⟨LmT.leaf rfl (Nat.le_trans h2.2 hs), h2.1⟩
theorem rdOc_lg (fx : Bool) : LG B (rdOc fx) := by
  intro s hs _
  have h1 := rdSz_sk fx 4 .i32 s
  have h2 := rdSpan_sk (rdSz fx 4 .i32 s).1 (rdSz fx 4 .i32 s).2
  unfold rdOc
  split
  · exact ⟨LmT.leaf rfl (Nat.zero_le _), h1⟩
  · refine ⟨LmT.leaf rfl ?_, Nat.le_trans h2.1 h1⟩
    split
    · exact Nat.zero_le _
    · exact Nat.le_trans h2.2 (Nat.le_trans h1 hs)
theorem rdNo_lg (fx : Bool) : LG B (rdNo fx) := by
  intro s hs _
  have h1 := rdSz_sk fx 4 .i32 s
  have h2 := rdSpan_sk (rdSz fx 4 .i32 s).1 (rdSz fx 4 .i32 s).2
  unfold rdNo
  split
  · exact ⟨LmT.leaf rfl (Nat.zero_le _), h1⟩
  · refine ⟨LmT.leaf rfl ?_, Nat.le_trans h2.1 h1⟩
    split
    · exact Nat.zero_le _
    · exact Nat.le_trans h2.2 (Nat.le_trans h1 hs)
theorem rdLz_sk (fx : Bool) : Sk (rdLz fx) := by
  intro s
  unfold rdLz
  split
  · exact (rdUv_sk s).1
  · exact rdK_sk 4 s
theorem rdLn_sk (fx : Bool) (s : Rd) : (rdLn fx s).2.1.length ≤ s.1.length ∧ (rdLn fx s).1.toNat ≤ s.1.length := by
  have h := rdLz_sk fx s
  unfold rdLn
  split
  · simp
  · rename_i h2
    exact ⟨h, by omega⟩
theorem rdN_lg {g : Rd → T × Rd} (hg : LG B g) (hb : Bd g) : ∀ (n : Nat) (s : Rd), s.1.length ≤ B → (rdN g n s).2.2 = false → (∀ x, x ∈ (rdN g n s).1 → LmT B x) ∧ (rdN g n s).2.1.length ≤ s.1.length
  | 0, s, _, _ => ⟨by simp [rdN], Nat.le_refl _⟩
  | n + 1, s, hs, h => by
    have h1 : (rdN g n s).2.2 = false := by
      rw [← Bool.not_eq_true]
      intro e
      rw [rdN] at h
      have := hb _ e
      dsimp only at h
      rw [this] at h
      cases h
    obtain ⟨g1, g2⟩ := rdN_lg hg hb n s hs h1
    obtain ⟨g3, g4⟩ := hg (rdN g n s).2 (Nat.le_trans g2 hs) h
    refine ⟨fun x hx => ?_, Nat.le_trans g4 g2⟩
    rw [rdN] at hx
    rcases List.mem_append.1 hx with hx | hx
    · exact g1 x hx
    · rw [List.mem_singleton.1 hx]
      exact g3
theorem rdN_length (g : Rd → T × Rd) : ∀ (n : Nat) (s : Rd), (rdN g n s).1.length = n
  | 0, _ => rfl
  | n + 1, s => by rw [rdN, List.length_append, rdN_length g n s]; rfl
theorem rdLs_lg {g : Rd → T × Rd} (hg : LG B g) (hb : Bd g) (nl : Int → Bool) (fx : Bool) : LG B (rdLs nl g fx) := by
  intro s hs h
  obtain ⟨h1, h2⟩ := rdLn_sk fx s
  obtain ⟨g1, g2⟩ := rdN_lg hg hb (rdLn fx s).1.toNat (rdLn fx s).2 (Nat.le_trans h1 hs) h
  refine ⟨.mk _ _ _ _ _ rfl (Nat.zero_le _) ?_ (Nat.zero_le _) (by simp) List.nodup_nil g1, Nat.le_trans g2 h1⟩
  rw [rdN_length]
  exact Nat.le_trans h2 hs
theorem rdV_lg (hB : 16 ≤ B) {rp : List Fd → Rd → T × Rd} {sub : List Fd} (hp : LG B (rp sub)) (kind : Int) (nb fx : Bool) : LG B (rdV rp kind sub nb fx) := by
  intro s hs h
  unfold rdV at h ⊢
  split at h
  · rename_i e; rw [if_pos e]; exact rdBo_lg s hs h
  rename_i e; rw [if_neg e]
  split at h
  · rename_i e; rw [if_pos e]; exact rdNum_lg _ _ (by simp) s hs h
  rename_i e; rw [if_neg e]
  split at h
  · rename_i e; rw [if_pos e]; exact rdNum_lg _ _ (by simp) s hs h
  rename_i e; rw [if_neg e]
  split at h
  · rename_i e; rw [if_pos e]; exact rdNum_lg _ _ (by simp) s hs h
  rename_i e; rw [if_neg e]
  split at h
  · rename_i e; rw [if_pos e]; exact rdNum_lg _ _ (by simp) s hs h
  rename_i e; rw [if_neg e]
  split at h
  · rename_i e; rw [if_pos e]; exact rdUu_lg hB s hs h
  rename_i e; rw [if_neg e]
  split at h
  · rename_i e
    rw [if_pos e]
    split at h
    · rename_i e; rw [if_pos e]; exact rdNt_lg fx s hs h
    · rename_i e; rw [if_neg e]
      have := rdTx_sk fx s
      exact ⟨LmT.leaf rfl (Nat.le_trans this.2 hs), this.1⟩
  rename_i e; rw [if_neg e]
  split at h
  · rename_i e
    rw [if_pos e]
    split at h
    · rename_i e; rw [if_pos e]; exact rdNo_lg fx s hs h
    · rename_i e; rw [if_neg e]; exact rdOc_lg fx s hs h
  rename_i e; rw [if_neg e]
  split at h
  · rename_i e; rw [if_pos e]; exact hp s hs h
  rename_i e; rw [if_neg e]
  exact rdNum_lg _ _ (by simp) s hs h
theorem setT_len : ∀ (u : List Tg) (t : Tg), (setT u t).length ≤ u.length + 1
  | [], t => by simp [setT]
  | x :: r, t => by
    rw [setT]
    split
    · simp
    · have := setT_len r t
      simp only [List.length_cons]; omega
theorem setT_mem : ∀ {u : List Tg} {t x : Tg}, x ∈ setT u t → x ∈ u ∨ x = t
  | [], t, x, h => .inr (by simpa [setT] using h)
  | y :: r, t, x, h => by
    rw [setT] at h
    split at h
    · rcases List.mem_cons.1 h with h | h
      · exact .inr h
      · exact .inl (List.mem_cons_of_mem _ h)
    · rcases List.mem_cons.1 h with h | h
      · exact .inl (h ▸ List.mem_cons_self)
      · rcases setT_mem h with h | h
        · exact .inl (List.mem_cons_of_mem _ h)
        · exact .inr h
theorem setT_nodup : ∀ {u : List Tg} {t : Tg}, (u.map Prod.fst).Nodup → ((setT u t).map Prod.fst).Nodup
  | [], t, _ => by simp [setT]
  | y :: r, t, h => by
    rw [List.map_cons, List.nodup_cons] at h
    rw [setT]
    split
    · rename_i e
      rw [List.map_cons, List.nodup_cons, ← e]
      exact h
    · rename_i e
      rw [List.map_cons, List.nodup_cons]
      refine ⟨fun hm => ?_, setT_nodup h.2⟩
      obtain ⟨z, hz, hze⟩ := List.mem_map.1 hm
      rcases setT_mem hz with hz | hz
      · exact h.1 (by rw [← hze]; exact List.mem_map.2 ⟨z, hz, rfl⟩)
      · subst hz
        exact e hze.symm
theorem rdTgN_lg : ∀ (n : Nat) (u : List Tg) (s : Rd), s.1.length + u.length ≤ B → (rdTgN n u s).2.2 = false → (∀ x, x ∈ u → x.1 < 4294967296 ∧ x.2.length ≤ B) → (u.map Prod.fst).Nodup →
    ((rdTgN n u s).1.length + (rdTgN n u s).2.1.length ≤ u.length + s.1.length ∧ ∀ x, x ∈ (rdTgN n u s).1 → x.1 < 4294967296 ∧ x.2.length ≤ B) ∧ ((rdTgN n u s).1.map Prod.fst).Nodup
  | 0, u, s, _, _, hx, hd => ⟨⟨Nat.le_refl _, hx⟩, hd⟩
  | n + 1, u, s, hs, h, hx, hd => by
    rw [rdTgN] at h ⊢
    obtain ⟨a1, a2, a3⟩ := rdUv_sk s
    obtain ⟨b1, b2, b3⟩ := rdUv_sk (rdUv s).2
    obtain ⟨c1, c2⟩ := rdSpan_sk ((rdUv (rdUv s).2).1 : Int) (rdUv (rdUv s).2).2
    have hg : (rdUv s).2.2 = false := by
      rw [← Bool.not_eq_true]
      intro e
      have := rdTgN_bad n (setT u ((rdUv s).1, (rdSpan ((rdUv (rdUv s).2).1 : Int) (rdUv (rdUv s).2).2).1)) (rdSpan ((rdUv (rdUv s).2).1 : Int) (rdUv (rdUv s).2).2).2 (rdSpan_bad ((rdUv (rdUv s).2).1 : Int) (rdUv (rdUv s).2).2 (rdUv_bad (rdUv s).2 e))
      rw [this] at h
      cases h
    have a4 := a2 hg
    have h1 := setT_len u ((rdUv s).1, (rdSpan ((rdUv (rdUv s).2).1 : Int) (rdUv (rdUv s).2).2).1)
    have := rdTgN_lg n (setT u ((rdUv s).1, (rdSpan ((rdUv (rdUv s).2).1 : Int) (rdUv (rdUv s).2).2).1)) (rdSpan ((rdUv (rdUv s).2).1 : Int) (rdUv (rdUv s).2).2).2 (by omega) h (fun x hxm => by
      rcases setT_mem hxm with hxm | rfl
      · exact hx x hxm
      · exact ⟨a3, by dsimp only; omega⟩) (setT_nodup hd)
    exact ⟨⟨by have := this.1.1; omega, this.1.2⟩, this.2⟩
theorem rdTagsF_lg (fx : Bool) (s : Rd) (hs : s.1.length ≤ B) (h : (rdTagsF fx s).2.2 = false) : ((rdTagsF fx s).1.length ≤ B ∧ ∀ x, x ∈ (rdTagsF fx s).1 → x.1 < 4294967296 ∧ x.2.length ≤ B) ∧ ((rdTagsF fx s).1.map Prod.fst).Nodup ∧ (rdTagsF fx s).2.1.length ≤ s.1.length := by
  unfold rdTagsF at h ⊢
  split at h
  · rename_i e
    rw [if_pos e]
    unfold rdTags at h ⊢
    have h1 := (rdUv_sk s).1
    have := rdTgN_lg (B := B) (rdUv s).1 [] (rdUv s).2 (by simp only [List.length_nil]; omega) h (by simp) List.nodup_nil
    simp only [List.length_nil, Nat.zero_add] at this
    exact ⟨⟨by omega, this.1.2⟩, this.2, by omega⟩
  · rename_i e
    rw [if_neg e]
    exact ⟨⟨Nat.zero_le _, by simp⟩, List.nodup_nil, Nat.le_refl _⟩
theorem rdAll_lg {rf : Fd → Rd → T × Rd} {df : Fd → T} {v : Int} : ∀ (fs : List Fd) (s : Rd), (∀ f, f ∈ fs → LG B (rf f) ∧ Bd (rf f) ∧ LmT B (df f)) → s.1.length ≤ B → (rdAll rf df v fs s).2.2 = false →
    (∀ x, x ∈ (rdAll rf df v fs s).1 → LmT B x) ∧ (rdAll rf df v fs s).1.length = fs.length ∧ (rdAll rf df v fs s).2.1.length ≤ s.1.length
  | [], s, _, _, _ => ⟨by simp [rdAll], rfl, Nat.le_refl _⟩
  | f :: r, s, hf, hs, h => by
    obtain ⟨hg, hb, hd⟩ := hf f (by simp)
    have key : ∀ y : T × Rd, (y.2.2 = false → LmT B y.1 ∧ y.2.1.length ≤ s.1.length) → (rdAll rf df v r y.2).2.2 = false → (∀ g, g ∈ r → Bd (rf g)) →
        (∀ x, x ∈ y.1 :: (rdAll rf df v r y.2).1 → LmT B x) ∧ (y.1 :: (rdAll rf df v r y.2).1).length = (f :: r).length ∧ (rdAll rf df v r y.2).2.1.length ≤ s.1.length := by
      intro y hy h hbr
      have hyg : y.2.2 = false := by
        rw [← Bool.not_eq_true]
        intro e
        have : ∀ (r : List Fd) (s : Rd), (∀ g, g ∈ r → Bd (rf g)) → s.2 = true → (rdAll rf df v r s).2.2 = true := by
          intro r
          induction r with
          | nil => intro s _ h; exact h
          | cons g r ih =>
            intro s hb h
            unfold rdAll
            refine ih _ (fun x hx => hb x (by simp [hx])) ?_
            split
            · exact hb g (by simp) s h
            · exact h
        rw [this r y.2 hbr e] at h
        cases h
      obtain ⟨y1, y2⟩ := hy hyg
      obtain ⟨z1, z2, z3⟩ := rdAll_lg r y.2 (fun g hg => hf g (by simp [hg])) (Nat.le_trans y2 hs) h
      refine ⟨fun x hx => ?_, by simp [z2], Nat.le_trans z3 y2⟩
      rcases List.mem_cons.1 hx with rfl | hx
      · exact y1
      · exact z1 x hx
    have hbr : ∀ g, g ∈ r → Bd (rf g) := fun g hg => (hf g (by simp [hg])).2.1
    unfold rdAll at h ⊢
    by_cases hc : f.tag < 0 ∧ hasF f v = true
    · simp only [if_pos hc] at h ⊢
      exact key (rf f s) (fun e => hg s hs e) h hbr
    · simp only [if_neg hc] at h ⊢
      exact key (df f, s) (fun e => ⟨hd, Nat.le_refl _⟩) h hbr
theorem lm_df (hB : 1000 ≤ B) : ∀ (d : Nat) (f : Fd), okF d f = true → LmT B (dfT d f)
  | 0, f, h => by simp [okF] at h
  | d + 1, .mk kind fr to nul tag df of sub, h => by
    obtain ⟨_, _, _, hsl, hsub⟩ := okF_parts h
    unfold dfT
    split
    · exact LmT.leaf rfl (by simp; omega)
    · split
      · exact LmT.leaf rfl (by simp)
      · split
        · exact LmT.leaf rfl (by simp)
        · split
          · split
            · exact LmT.leaf rfl (by simp)
            · refine .mk _ _ _ _ _ rfl (by simp) (by rw [List.length_map]; show sub.length ≤ B; omega) (Nat.zero_le _) (by simp) List.nodup_nil fun x hx => ?_
              obtain ⟨g, hg, rfl⟩ := List.mem_map.1 hx
              exact lm_df hB d g (hsub g hg)
          · exact LmT.leaf (numK_wrap _ _) (Nat.zero_le _)
theorem tagIx_mem : ∀ {fs : List Fd} {i k j : Nat} {f : Fd}, tagIx fs i k = some (j, f) → f ∈ fs
  | [], _, _, _, _, h => by simp [tagIx] at h
  | g :: r, i, k, j, f, h => by
    rw [tagIx] at h
    split at h
    · simp only [Option.some.injEq, Prod.mk.injEq] at h
      rw [← h.2]
      exact List.mem_cons_self
    · exact List.mem_cons_of_mem _ (tagIx_mem h)
theorem LmT.tgX {f : Fd} {old x : T} (h : LmT B x) : LmT B (tgX f old x) := by
  unfold K.tgX
  split
  · cases h
    rename_i n s nl l u h1 h2 h3 h4 h5 h6 h7
    exact .mk _ _ _ _ _ rfl (Nat.zero_le _) h3 (Nat.zero_le _) (by simp) List.nodup_nil h7
  · exact h
theorem rdTgX_lg {rf : Fd → Rd → T × Rd} {fs : List Fd} (hf : ∀ f, f ∈ fs → LG B (rf f)) : ∀ (n : Nat) (l : List T) (u : List Tg) (s : Rd), s.1.length + u.length ≤ B → (rdTgX rf fs n l u s).2.2 = false → (∀ x, x ∈ l → LmT B x) → (∀ x, x ∈ u → x.1 < 4294967296 ∧ x.2.length ≤ B) → (u.map Prod.fst).Nodup →
    ((∀ x, x ∈ (rdTgX rf fs n l u s).1.1 → LmT B x) ∧ (rdTgX rf fs n l u s).1.1.length = l.length) ∧ ((rdTgX rf fs n l u s).1.2.length + (rdTgX rf fs n l u s).2.1.length ≤ u.length + s.1.length ∧ ∀ x, x ∈ (rdTgX rf fs n l u s).1.2 → x.1 < 4294967296 ∧ x.2.length ≤ B) ∧ ((rdTgX rf fs n l u s).1.2.map Prod.fst).Nodup
  | 0, l, u, s, _, _, hl, hx, hd => ⟨⟨hl, rfl⟩, ⟨Nat.le_refl _, hx⟩, hd⟩
  | n + 1, l, u, s, hs, h, hl, hx, hd => by
    have h' := h
    rw [rdTgX] at h ⊢
    obtain ⟨a1, a2, a3⟩ := rdUv_sk s
    obtain ⟨b1, b2, b3⟩ := rdUv_sk (rdUv s).2
    obtain ⟨c1, c2⟩ := rdSpan_sk ((rdUv (rdUv s).2).1 : Int) (rdUv (rdUv s).2).2
    have hg : (rdUv s).2.2 = false := by
      rw [← Bool.not_eq_true]
      intro e
      have e2 := rdSpan_bad ((rdUv (rdUv s).2).1 : Int) (rdUv (rdUv s).2).2 (rdUv_bad (rdUv s).2 e)
      split at h
      · rw [rdTgX_bad _ _ _ _ _ _ e2] at h
        cases h
      · split at h
        · cases h
        · rw [rdTgX_bad _ _ _ _ _ _ e2] at h
          cases h
    have a4 := a2 hg
    have h1 := setT_len u ((rdUv s).1, (rdSpan ((rdUv (rdUv s).2).1 : Int) (rdUv (rdUv s).2).2).1)
    split at h
    · rename_i e
      have := rdTgX_lg hf n l (setT u ((rdUv s).1, (rdSpan ((rdUv (rdUv s).2).1 : Int) (rdUv (rdUv s).2).2).1)) (rdSpan ((rdUv (rdUv s).2).1 : Int) (rdUv (rdUv s).2).2).2 (by omega) h hl (fun x hxm => by
        rcases setT_mem hxm with hxm | rfl
        · exact hx x hxm
        · exact ⟨a3, by dsimp only; omega⟩) (setT_nodup hd)
      exact ⟨this.1, ⟨by have := this.2.1.1; omega, this.2.1.2⟩, this.2.2⟩
    · rename_i i f e
      split at h
      · cases h
      · rename_i hb
        simp only [if_neg hb]
        have hx0 := (hf f (tagIx_mem e)) ((rdSpan ((rdUv (rdUv s).2).1 : Int) (rdUv (rdUv s).2).2).1, false) (by dsimp only; omega) (by simpa using hb)
        have := rdTgX_lg hf n (l.set i (tgX f ((l[i]?).getD T.zero) (rf f ((rdSpan ((rdUv (rdUv s).2).1 : Int) (rdUv (rdUv s).2).2).1, false)).1)) u (rdSpan ((rdUv (rdUv s).2).1 : Int) (rdUv (rdUv s).2).2).2 (by omega) h (fun x hxm => by
          rcases List.mem_or_eq_of_mem_set hxm with hxm | rfl
          · exact hl x hxm
          · exact hx0.1.tgX) hx hd
        exact ⟨⟨this.1.1, by rw [this.1.2, List.length_set]⟩, ⟨by have := this.2.1.1; omega, this.2.1.2⟩, this.2.2⟩
theorem rdPartW_lg {rf : Fd → Rd → T × Rd} {df : Fd → T} {fs : List Fd} {v : Int} {fx : Bool} (hB : 1000 ≤ B) (hl : fs.length ≤ 1000) (hf : ∀ f, f ∈ fs → LG B (rf f) ∧ Bd (rf f) ∧ LmT B (df f)) : LG B (rdPartW rf df fs v fx) := by
  intro s hs h
  have ha : (rdAll rf df v fs s).2.2 = false := by
    rw [← Bool.not_eq_true]
    intro e
    have := rdTail_bad rf fs fx (rdAll rf df v fs s).1 _ e
    have h : (rdTail rf fs fx (rdAll rf df v fs s).1 (rdAll rf df v fs s).2).2.2 = false := h
    rw [this] at h
    cases h
  obtain ⟨a1, a2, a3⟩ := rdAll_lg (v := v) fs s hf hs ha
  have h : (rdTail rf fs fx (rdAll rf df v fs s).1 (rdAll rf df v fs s).2).2.2 = false := h
  unfold rdPartW
  generalize (rdAll rf df v fs s).1 = l at *
  generalize (rdAll rf df v fs s).2 = s1 at *
  unfold rdTail at h ⊢
  split at h
  · rename_i e
    simp only [if_pos e]
    obtain ⟨⟨b1, b2⟩, b3, b4⟩ := rdTagsF_lg fx s1 (Nat.le_trans a3 hs) h
    exact ⟨.mk _ _ _ _ _ rfl (Nat.zero_le _) (by omega) b1 b2 b3 a1, Nat.le_trans b4 a3⟩
  · rename_i e
    simp only [if_neg e]
    split at h
    · rename_i e2
      simp only [if_pos e2]
      have h0 := (rdUv_sk s1).1
      obtain ⟨⟨c1, c2⟩, ⟨c3, c4⟩, c5⟩ := rdTgX_lg (B := B) (fun f hfm => (hf f hfm).1) (rdUv s1).1 l [] (rdUv s1).2 (by simp only [List.length_nil]; omega) h a1 (by simp) List.nodup_nil
      simp only [List.length_nil, Nat.zero_add] at c3
      exact ⟨.mk _ _ _ _ _ rfl (Nat.zero_le _) (by omega) (by omega) c4 c5 c1, by omega⟩
    · rename_i e2
      simp only [if_neg e2]
      exact ⟨.mk _ _ _ _ _ rfl (Nat.zero_le _) (by omega) (Nat.zero_le _) (by simp) List.nodup_nil a1, a3⟩
theorem rdField_lg (hB : 1000 ≤ B) : ∀ (d : Nat) (v : Int) (fx : Bool) (f : Fd), okF d f = true → LG B (rdField d v fx f)
  | 0, _, _, f, h => by simp [okF] at h
  | d + 1, v, fx, .mk kind fr to nul tag df of sub, h => by
    obtain ⟨_, _, _, hsl, hsub⟩ := okF_parts h
    have hp : LG B (fun s => rdPartW (rdField d v fx) (dfT d) sub v fx s) := rdPartW_lg hB hsl fun f hf => ⟨rdField_lg hB d v fx f (hsub f hf), rdField_bad d v fx f, lm_df hB d f (hsub f hf)⟩
    have hb : Bd (fun s => rdPartW (rdField d v fx) (dfT d) sub v fx s) := rdPartW_bad (fun g => rdField_bad d v fx g) sub v fx
    intro s hs h
    have h : (rdFW (fun sub s => rdPartW (rdField d v fx) (dfT d) sub v fx s) (.mk kind fr to nul tag df of sub) v fx s).2.2 = false := h
    show LmT B (rdFW (fun sub s => rdPartW (rdField d v fx) (dfT d) sub v fx s) (.mk kind fr to nul tag df of sub) v fx s).1 ∧ (rdFW (fun sub s => rdPartW (rdField d v fx) (dfT d) sub v fx s) (.mk kind fr to nul tag df of sub) v fx s).2.1.length ≤ s.1.length
    unfold rdFW at h ⊢
    split at h
    · rename_i e
      rw [if_pos e]
      exact rdLs_lg (rdV_lg (by omega) hp _ _ _) (rdV_bad hb _ _ _) _ _ s hs h
    · rename_i e
      rw [if_neg e]
      exact rdV_lg (by omega) hp _ _ _ s hs h
theorem rdPart_lg (hB : 1000 ≤ B) (d : Nat) (v : Int) (fx : Bool) (fs : List Fd) (hok : ∀ f, f ∈ fs → okF d f = true) (hl : fs.length ≤ 1000) : LG B (rdPart d v fx fs) :=
  rdPartW_lg hB hl fun f hf => ⟨rdField_lg hB d v fx f (hok f hf), rdField_bad d v fx f, lm_df hB d f (hok f hf)⟩
end
/-- Two tellings of the same tree, tags in rising order, are the same. -/
theorem Nrm.same {t : T} (hl : LimT t) : ∀ {a b : T}, Nrm t a → Nrm t b → a = b := by
  induction hl with
  | mk n s nl l u hn hs hl hu hk hd hls ih =>
    intro a b ha hb
    cases ha
    rename_i l1 u1 hp1 hl1 hh1 hq1
    cases hb
    rename_i l2 u2 hp2 hl2 hh2 hq2
    have e1 : l1 = l2 := by
      apply List.ext_getElem (by omega)
      intro i h1 h2
      have hi : i < l.length := by omega
      exact ih l[i] (List.getElem_mem _) (hh1 i l[i] l1[i] (by simp [hi]) (by simp [h1])) (hh2 i l[i] l2[i] (by simp [hi]) (by simp [h2]))
    have e2 : u1 = u2 := List.Perm.eq_of_pairwise (le := fun a b => a.1 < b.1) (fun a b _ _ h1 h2 => absurd h1 (Nat.lt_asymm h2)) hp1 hp2 (hq1.trans hq2.symm)
    rw [e1, e2]
theorem Nrm.small {t : T} (hl : LimT t) : ∀ {a : T}, Nrm t a → Small a := by
  induction hl with
  | mk n s nl l u hn hs hl hu hk hd hls ih =>
    intro a ha
    cases ha
    rename_i l1 u1 hp1 hl1 hh1 hq1
    refine .mk _ _ _ _ _ (by omega) (by rw [hq1.length_eq]; exact hu) fun x hx => ?_
    obtain ⟨i, hi⟩ := List.mem_iff_getElem?.1 hx
    have hil := (List.getElem?_eq_some_iff.1 hi).1
    exact ih l[i] (List.getElem_mem _) (hh1 i l[i] x (by simp [show i < l.length by omega]) hi)
set_option maxHeartbeats 1600000 in
theorem same_aux (m : Nat) : ∀ {G G' : Nat → Prop} {w : World} {x y : Value} {t : T}, SizeOf.sizeOf t ≤ m → Tr w G x t → Tr w G' y t → Does X.P 8 #[x, y] w fun r w' => r = .bool true ∧ Ext nob w w' := by
  induction m with
  | zero =>
    intro G G' w x y t hm
    cases t
    simp at hm
  | succ m ih =>
  intro G G' w x y t hm hx0 hy0
  obtain ⟨n, s, nl, l, u⟩ := t
  obtain ⟨cx, rfl, hcx⟩ := hx0
  obtain ⟨cy, rfl, hcy⟩ := hy0
  obtain ⟨sv, lv, uv, ls, rfl, hn, hs, hl, hlen, hr, lu, hlu, hulen, hur⟩ := hcx.inv
  obtain ⟨sv2, lv2, uv2, ls2, rfl, _, hs2, hl2, hlen2, hr2, lu2, hlu2, hulen2, hur2⟩ := hcy.inv
  obtain ⟨a, c, rfl, hc, hm1, _, _, hC⟩ := hl.view
  obtain ⟨a2, c2, rfl, hc2, hm2, _, _, hC2⟩ := hl2.view
  obtain ⟨au, cu, rfl, hcu, hmu, _, _, hCu⟩ := hlu.view
  obtain ⟨au2, cu2, rfl, hcu2, hmu2, _, _, hCu2⟩ := hlu2.view
  have hll : ls.length = ls2.length := by omega
  have huu : lu.length = lu2.length := by omega
  refine Does.go (X := X) (l := [_, _]) Tryd.func8 rfl (by kernel_rfl) (by kernel_rfl) _ rfl ?_
  ((conv=>whnf);repeat((first|refine mvT ?_|refine mvF ?_|refine yT ?_|refine yF ?_);conv=>whnf))
  intro b w1 hb ho hx
  ((conv=>whnf);repeat((first|refine mvT ?_|refine mvF ?_|refine yT ?_|refine yF ?_);conv=>whnf))
  intro b2 w2 hb2 ho2 hx2
  have ho := ho.e0 hx2
  have hx := hx.e0 hx2
  ((conv=>whnf);repeat((first|refine mvT ?_|refine mvF ?_|refine yT ?_|refine yF ?_);conv=>whnf))
  refine ldS (ho.cell rfl) ?_;((conv=>whnf);repeat((first|refine mvT ?_|refine mvF ?_|refine yT ?_|refine yF ?_);conv=>whnf))
  refine ldS (ho2.cell rfl) ?_;((conv=>whnf);repeat((first|refine mvT ?_|refine mvF ?_|refine yT ?_|refine yF ?_);conv=>whnf))
  intro q1 h1
  cases q1
  rotate_left
  · simp at h1
  ((conv=>whnf);repeat((first|refine mvT ?_|refine mvF ?_|refine yT ?_|refine yF ?_);conv=>whnf))
  refine ldS (ho.cell rfl) ?_;((conv=>whnf);repeat((first|refine mvT ?_|refine mvF ?_|refine yT ?_|refine yF ?_);conv=>whnf))
  refine ldS (ho2.cell rfl) ?_;((conv=>whnf);repeat((first|refine mvT ?_|refine mvF ?_|refine yT ?_|refine yF ?_);conv=>whnf))
  intro q2 h2
  cases q2
  rotate_left
  · simp at h2
  ((conv=>whnf);repeat((first|refine mvT ?_|refine mvF ?_|refine yT ?_|refine yF ?_);conv=>whnf))
  refine ldS (ho.cell rfl) ?_;((conv=>whnf);repeat((first|refine mvT ?_|refine mvF ?_|refine yT ?_|refine yF ?_);conv=>whnf))
  refine ldS (ho2.cell rfl) ?_;((conv=>whnf);repeat((first|refine mvT ?_|refine mvF ?_|refine yT ?_|refine yF ?_);conv=>whnf))
  refine Does.mono (Same_does (hs.e0 hx) (hs2.e0 hx)) ?_
  rintro r3 w3 ⟨rfl, hx3⟩
  have ho := ho.e0 hx3
  have ho2 := ho2.e0 hx3
  have hx := hx.e0 hx3
  ((conv=>whnf);repeat((first|refine mvT ?_|refine mvF ?_|refine yT ?_|refine yF ?_);conv=>whnf))
  intro q3 h3
  cases q3
  rotate_left
  · simp at h3
  ((conv=>whnf);repeat((first|refine mvT ?_|refine mvF ?_|refine yT ?_|refine yF ?_);conv=>whnf))
  refine ldS (ho.cell rfl) ?_;((conv=>whnf);repeat((first|refine mvT ?_|refine mvF ?_|refine yT ?_|refine yF ?_);conv=>whnf))
  refine ldS (ho2.cell rfl) ?_;((conv=>whnf);repeat((first|refine mvT ?_|refine mvF ?_|refine yT ?_|refine yF ?_);conv=>whnf))
  intro q4 h4
  cases q4
  rotate_left
  · simp [hll] at h4
  ((conv=>whnf);repeat((first|refine mvT ?_|refine mvF ?_|refine yT ?_|refine yF ?_);conv=>whnf))
  refine ldS (ho.cell rfl) ?_;((conv=>whnf);repeat((first|refine mvT ?_|refine mvF ?_|refine yT ?_|refine yF ?_);conv=>whnf))
  refine ldS (ho2.cell rfl) ?_;((conv=>whnf);repeat((first|refine mvT ?_|refine mvF ?_|refine yT ?_|refine yF ?_);conv=>whnf))
  refine cI (by rfl) (fun h5=>?_) (fun h5=>?_)
  · simp [huu] at h5
  ((conv=>whnf);repeat((first|refine mvT ?_|refine mvF ?_|refine yT ?_|refine yF ?_);conv=>whnf))
  refine ldS (ho.cell rfl) ?_;((conv=>whnf);repeat((first|refine mvT ?_|refine mvF ?_|refine yT ?_|refine yF ?_);conv=>whnf))
  refine VL.loop (fun i : Nat => [(2, .pointer (some ⟨b, 0, none⟩)), (3, .pointer (some ⟨b2, 0, none⟩)), (47, .int .i64 ls.length), (48, .int .i64 i)])
    (fun i w' => Ext nob w3 w' ∧ i ≤ ls.length) (fun i => ls.length - i) 0 ⟨rfl, rfl, rfl, rfl, trivial⟩ ⟨Ext.refl _ _, Nat.zero_le _⟩ ?_
  rintro i w4 ⟨hx4, hi⟩
  ((conv=>whnf);repeat((first|refine mvT ?_|refine mvF ?_|refine yT ?_|refine yF ?_);conv=>whnf))
  refine cI (by rfl) (fun h6=>?_) (fun h6=>?_)
  · have hil : i < ls.length := by have := of_decide_eq_true h6; omega
    have hil2 : i < ls2.length := by omega
    have hill : i < l.length := by omega
    have htr := hr i ls[i] l[i] (by simp [hil]) (by simp [hill])
    have htr2 := hr2 i ls2[i] l[i] (by simp [hil2]) (by simp [hill])
    obtain ⟨b6, o6, rfl, hc6⟩ := hC i ls[i] (by simp [hil])
    obtain ⟨b7, o7, rfl, hc7⟩ := hC2 i ls2[i] (by simp [hil2])
    have hsz : SizeOf.sizeOf l[i] ≤ m := by
      have h1 := List.sizeOf_lt_of_mem (List.getElem_mem hill : l[i] ∈ l)
      simp only [T.mk.sizeOf_spec] at hm
      omega
    have hxd := hx4.e0 (ext_drew _)
    ((conv=>whnf);repeat((first|refine mvT ?_|refine mvF ?_|refine yT ?_|refine yF ?_);conv=>whnf))
    refine VD.draw mixed (.q 0 (.q 1 (.q 2 (.q 3 (.q 4 (.q 5 (.q 6 (.q 7 (.q 8 (.q 9 (.eff 10 [] (.q 11 (.done))))))))))))) (by kernel_rfl) ?_;((conv=>whnf);repeat((first|refine mvT ?_|refine mvF ?_|refine yT ?_|refine yF ?_);conv=>whnf))
    refine ldS ((ho.e0 hxd).cell rfl) ?_;((conv=>whnf);repeat((first|refine mvT ?_|refine mvF ?_|refine yT ?_|refine yF ?_);conv=>whnf))
    refine ⟨b6, o6, rfl, ⟨by omega, by omega⟩, ?_⟩
    ((conv=>whnf);repeat((first|refine mvT ?_|refine mvF ?_|refine yT ?_|refine yF ?_);conv=>whnf))
    refine ⟨ls[i], htr.len, by rw [Int.toNat_natCast]; exact (hc6.e0 hx).e0 hxd, ?_⟩
    ((conv=>whnf);repeat((first|refine mvT ?_|refine mvF ?_|refine yT ?_|refine yF ?_);conv=>whnf))
    refine ldS ((ho2.e0 hxd).cell rfl) ?_;((conv=>whnf);repeat((first|refine mvT ?_|refine mvF ?_|refine yT ?_|refine yF ?_);conv=>whnf))
    refine ⟨b7, o7, rfl, ⟨by omega, by omega⟩, ?_⟩
    ((conv=>whnf);repeat((first|refine mvT ?_|refine mvF ?_|refine yT ?_|refine yF ?_);conv=>whnf))
    refine ⟨ls2[i], htr2.len, by rw [Int.toNat_natCast]; exact (hc7.e0 hx).e0 hxd, ?_⟩
    ((conv=>whnf);repeat((first|refine mvT ?_|refine mvF ?_|refine yT ?_|refine yF ?_);conv=>whnf))
    refine Does.mono (ih hsz ⟨_, rfl, (htr.e0 hx).e0 hxd⟩ ⟨_, rfl, (htr2.e0 hx).e0 hxd⟩) ?_
    rintro r5 w5 ⟨rfl, hx5⟩
    ((conv=>whnf);repeat((first|refine mvT ?_|refine mvF ?_|refine yT ?_|refine yF ?_);conv=>whnf))
    exact ⟨i + 1, ⟨rfl, rfl, rfl, inc_eq (by rw [maxLen_eq] at hm1; omega), trivial⟩, ⟨hxd.e0 hx5, by omega⟩, by omega⟩
  · ((conv=>whnf);repeat((first|refine mvT ?_|refine mvF ?_|refine yT ?_|refine yF ?_);conv=>whnf))
    have ho := ho.e0 hx4
    have ho2 := ho2.e0 hx4
    have hx := hx.e0 hx4
    refine ldS (ho.cell rfl) ?_;((conv=>whnf);repeat((first|refine mvT ?_|refine mvF ?_|refine yT ?_|refine yF ?_);conv=>whnf))
    refine VL.loop (fun i : Nat => [(2, .pointer (some ⟨b, 0, none⟩)), (3, .pointer (some ⟨b2, 0, none⟩)), (66, .int .i64 lu.length), (67, .int .i64 i)])
      (fun i w' => Ext nob w4 w' ∧ i ≤ lu.length) (fun i => lu.length - i) 0 ⟨rfl, rfl, rfl, rfl, trivial⟩ ⟨Ext.refl _ _, Nat.zero_le _⟩ ?_
    rintro i w5 ⟨hx5, hi⟩
    ((conv=>whnf);repeat((first|refine mvT ?_|refine mvF ?_|refine yT ?_|refine yF ?_);conv=>whnf))
    refine cI (by rfl) (fun h7=>?_) (fun h7=>?_)
    · have hil : i < lu.length := by have := of_decide_eq_true h7; omega
      have hil2 : i < lu2.length := by omega
      have hiu : i < u.length := by omega
      obtain ⟨_, bv, hbv, hbb⟩ := hur i lu[i] u[i] (by simp [hil]) (by simp [hiu])
      obtain ⟨_, bv2, hbv2, hbb2⟩ := hur2 i lu2[i] u[i] (by simp [hil2]) (by simp [hiu])
      obtain ⟨b6, o6, rfl, hc6⟩ := hCu i lu[i] (by simp [hil])
      obtain ⟨b7, o7, rfl, hc7⟩ := hCu2 i lu2[i] (by simp [hil2])
      rw [hbv] at hc6
      rw [hbv2] at hc7
      have hxd := hx5.e0 (ext_drew _)
      have hc6 := (hc6.e0 hx).e0 hxd
      have hc7 := (hc7.e0 hx).e0 hxd
      have ho := ho.e0 hxd
      have ho2 := ho2.e0 hxd
      ((conv=>whnf);repeat((first|refine mvT ?_|refine mvF ?_|refine yT ?_|refine yF ?_);conv=>whnf))
      refine VD.draw mixed (.q 0 (.q 1 (.q 2 (.q 3 (.q 4 (.q 5 (.q 6 (.q 7 (.q 8 (.q 9 (.q 10 (.q 11 (.q 12 (.q 13 (.q 14 (.q 15 (.q 16 (.q 17 (.q 18 (.q 19 (.q 20 (.q 21 (.q 22 (.q 23 (.q 24 (.q 25 (.eff 26 [] (.q 27 (.q 28 (.done)))))))))))))))))))))))))))))) (by kernel_rfl) ?_;((conv=>whnf);repeat((first|refine mvT ?_|refine mvF ?_|refine yT ?_|refine yF ?_);conv=>whnf))
      refine ldS (ho.cell rfl) ?_;((conv=>whnf);repeat((first|refine mvT ?_|refine mvF ?_|refine yT ?_|refine yF ?_);conv=>whnf))
      refine ⟨b6, o6, rfl, ⟨by omega, by omega⟩, ?_⟩
      ((conv=>whnf);repeat((first|refine mvT ?_|refine mvF ?_|refine yT ?_|refine yF ?_);conv=>whnf))
      refine ⟨_, ld (hc6.cell (j := 0) rfl) (by simp), ?_⟩
      ((conv=>whnf);repeat((first|refine mvT ?_|refine mvF ?_|refine yT ?_|refine yF ?_);conv=>whnf))
      refine ldS (ho2.cell rfl) ?_;((conv=>whnf);repeat((first|refine mvT ?_|refine mvF ?_|refine yT ?_|refine yF ?_);conv=>whnf))
      refine ⟨b7, o7, rfl, ⟨by omega, by omega⟩, ?_⟩
      ((conv=>whnf);repeat((first|refine mvT ?_|refine mvF ?_|refine yT ?_|refine yF ?_);conv=>whnf))
      refine ⟨_, ld (hc7.cell (j := 0) rfl) (by simp), ?_⟩
      ((conv=>whnf);repeat((first|refine mvT ?_|refine mvF ?_|refine yT ?_|refine yF ?_);conv=>whnf))
      intro q5 h8
      cases q5
      rotate_left
      · simp at h8
      ((conv=>whnf);repeat((first|refine mvT ?_|refine mvF ?_|refine yT ?_|refine yF ?_);conv=>whnf))
      refine ldS (ho.cell rfl) ?_;((conv=>whnf);repeat((first|refine mvT ?_|refine mvF ?_|refine yT ?_|refine yF ?_);conv=>whnf))
      refine ⟨b6, o6, rfl, ⟨by omega, by omega⟩, ?_⟩
      ((conv=>whnf);repeat((first|refine mvT ?_|refine mvF ?_|refine yT ?_|refine yF ?_);conv=>whnf))
      refine ⟨_, ld (hc6.cell (j := 1) rfl) (by simp), ?_⟩
      ((conv=>whnf);repeat((first|refine mvT ?_|refine mvF ?_|refine yT ?_|refine yF ?_);conv=>whnf))
      refine ldS (ho2.cell rfl) ?_;((conv=>whnf);repeat((first|refine mvT ?_|refine mvF ?_|refine yT ?_|refine yF ?_);conv=>whnf))
      refine ⟨b7, o7, rfl, ⟨by omega, by omega⟩, ?_⟩
      ((conv=>whnf);repeat((first|refine mvT ?_|refine mvF ?_|refine yT ?_|refine yF ?_);conv=>whnf))
      refine ⟨_, ld (hc7.cell (j := 1) rfl) (by simp), ?_⟩
      ((conv=>whnf);repeat((first|refine mvT ?_|refine mvF ?_|refine yT ?_|refine yF ?_);conv=>whnf))
      refine Does.mono (Same_does ((hbb.e0 hx).e0 hxd) ((hbb2.e0 hx).e0 hxd)) ?_
      rintro r9 w9 ⟨rfl, hx9⟩
      ((conv=>whnf);repeat((first|refine mvT ?_|refine mvF ?_|refine yT ?_|refine yF ?_);conv=>whnf))
      refine cI (by rfl) (fun h9=>?_) (fun h9=>?_)
      · simp at h9
      ((conv=>whnf);repeat((first|refine mvT ?_|refine mvF ?_|refine yT ?_|refine yF ?_);conv=>whnf))
      exact ⟨i + 1, ⟨rfl, rfl, rfl, inc_eq (by rw [maxLen_eq] at hmu; omega), trivial⟩, ⟨hxd.e0 hx9, by omega⟩, by omega⟩
    · ((conv=>whnf);repeat((first|refine mvT ?_|refine mvF ?_|refine yT ?_|refine yF ?_);conv=>whnf))
      exact ⟨rfl, hx.e0 hx5⟩
theorem same_does {G G' : Nat → Prop} {w : World} {x y : Value} {t : T} (h1 : Tr w G x t) (h2 : Tr w G' y t) : Does X.P 8 #[x, y] w fun r w' => r = .bool true ∧ Ext nob w w' := same_aux _ (Nat.le_refl _) h1 h2
end Go.Proofs.YtjepglidlblmlaaDoor.K
