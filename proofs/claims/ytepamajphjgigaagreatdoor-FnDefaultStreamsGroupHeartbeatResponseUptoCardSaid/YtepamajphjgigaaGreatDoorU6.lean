
/- What is told of what was written and read: no thing is too great, the tags rise. spec.Told says yes of what is told by the plain law. spec.Told says yes of what is told by the plain law. -/
import Derived.Test.YtepamajphjgigaaGreatDoorU1
import Derived.Test.YtepamajphjgigaaGreatDoorM0
/-! What is told of what was written and read: no thing is too great, the tags rise. -/
set_option linter.unusedVariables false
set_option linter.unusedSimpArgs false
namespace Go.Proofs.YtepamajphjgigaaGreatDoor.K
open Go
set_option maxHeartbeats 800000

/-- Trees as they are read: numbers, lengths and tags as they may be. -/
inductive GdT : T → Prop
  | mk (n : Int) (s : List UInt8) (nl : Bool) (l : List T) (u : List Tg) (hn : IntKind.i64.wrap n = n) (hs : s.length ≤ 32767) (hl : l.length ≤ 32767) (hu : TagOK u) (h : ∀ x, x ∈ l → GdT x) : GdT (.mk n s nl l u)
theorem GdT.leaf {n : Int} {s : List UInt8} {nl : Bool} (hn : IntKind.i64.wrap n = n) (hs : s.length ≤ 32767) : GdT (.mk n s nl [] []) := .mk _ _ _ _ _ hn hs (by simp) TagOK.nil (by simp)
theorem GdT.zero : GdT T.zero := GdT.leaf rfl (by simp)
theorem GdT.lim {t : T} (h : GdT t) : LimT t := by
  induction h with
  | mk n s nl l u hn hs hl hu _ ih =>
    refine .mk _ _ _ _ _ hn (by omega) (by omega) (by have := hu.len; omega) (fun x hx => ⟨hu.key x hx, by have := hu.val x hx; omega⟩) ?_ ih
    exact List.pairwise_map.2 (hu.rise.imp fun h => Nat.ne_of_lt h)
theorem GdT.small {t : T} (h : GdT t) : Small t := by
  induction h with
  | mk n s nl l u hn hs hl hu _ ih => exact .mk _ _ _ _ _ (by omega) (by have := hu.len; omega) ih
theorem numK_wrap (k n : Int) : IntKind.i64.wrap (numK k n) = numK k n := by
  unfold numK
  split
  · exact i64_of (by omega) (by omega)
  · unfold kindI
    split
    · rw [wrap_i8]; exact i64_of (by omega) (by omega)
    · split
      · rw [wrap_i16]; exact i64_of (by omega) (by omega)
      · split
        · rw [IntKind.wrap_i32]; exact i64_of (by omega) (by omega)
        · split
          · rw [wrap_u16]; exact i64_of (by omega) (by omega)
          · rw [IntKind.wrap_i64 n]; exact i64_of (by omega) (by omega)
theorem gd_num (k n : Int) : GdT (numT (numK k n)) := GdT.leaf (numK_wrap k n) (by simp)
theorem gd_df : ∀ (d : Nat) (f : Fd), okF d f = true → GdT (dfT d f)
  | 0, f, h => by simp [okF] at h
  | d + 1, .mk kind fr to nul tag df of sub, h => by
    obtain ⟨_, _, _, hsl, hsub⟩ := okF_parts h
    unfold dfT
    split
    · exact GdT.leaf rfl (by simp)
    · split
      · exact GdT.leaf rfl (by simp)
      · split
        · exact GdT.leaf rfl (by simp)
        · split
          · split
            · exact GdT.leaf rfl (by simp)
            · refine .mk _ _ _ _ _ rfl (by simp) (by rw [List.length_map]; show sub.length ≤ 32767; omega) TagOK.nil fun x hx => ?_
              obtain ⟨g, hg, rfl⟩ := List.mem_map.1 hx
              exact gd_df d g (hsub g hg)
          · exact gd_num _ _
theorem gd_V {tp : List Fd → T → T} {sub : List Fd} {t : T} (hp : GdT (tp sub t)) (kind : Int) (nb : Bool) : GdT (toV tp kind sub nb t) := by
  unfold toV
  split
  · exact GdT.leaf rfl (by simp [uuidB])
  · split
    · split
      · exact GdT.leaf rfl (by simp)
      · exact GdT.leaf rfl (take_most_length _)
    · split
      · exact hp
      · exact gd_num _ _
theorem toAll_mem {tf : Fd → T → T} {df : Fd → T} {v : Int} {t : T} {P : T → Prop} : ∀ (fs : List Fd) (i : Nat), (∀ f, f ∈ fs → P (df f) ∧ ∀ j, P (tf f (atT t j))) → ∀ x, x ∈ toAll tf df v t i fs → P x
  | [], _, _, x, hx => by simp [toAll] at hx
  | f :: r, i, h, x, hx => by
    rw [toAll, List.mem_cons] at hx
    rcases hx with rfl | hx
    · split
      · exact (h f (by simp)).2 i
      · exact (h f (by simp)).1
    · exact toAll_mem r (i + 1) (fun g hg => h g (by simp [hg])) x hx
theorem toAll_length (tf : Fd → T → T) (df : Fd → T) (v : Int) (t : T) : ∀ (fs : List Fd) (i : Nat), (toAll tf df v t i fs).length = fs.length
  | [], _ => rfl
  | f :: r, i => by rw [toAll, List.length_cons, toAll_length tf df v t r (i + 1), List.length_cons]
theorem gd_P {tf : Fd → T → T} {df : Fd → T} {fs : List Fd} {v : Int} {fx : Bool} {t : T} (hk : KeyT t) (hl : fs.length ≤ 1000) (h : ∀ f, f ∈ fs → GdT (df f) ∧ ∀ y, KeyT y → GdT (tf f y)) : GdT (toPartW tf df fs v fx t) := by
  refine .mk _ _ _ _ _ rfl (by simp) (by rw [toAll_length]; omega) (tagOK_to (tag_ok fs t.u hk.u)) ?_
  exact toAll_mem fs 0 fun f hf => ⟨(h f hf).1, fun j => (h f hf).2 _ (hk.at j)⟩
theorem gd_field : ∀ (d : Nat) (v : Int) (fx : Bool) (f : Fd) (t : T), okF d f = true → KeyT t → GdT (toField d v fx f t)
  | 0, _, _, f, _, h, _ => by simp [okF] at h
  | d + 1, v, fx, .mk kind fr to nul tag df of sub, t, h, hk => by
    obtain ⟨_, _, _, hsl, hsub⟩ := okF_parts h
    have hp : ∀ y, KeyT y → GdT (toPartW (toField d v fx) (dfT d) sub v fx y) := fun y hy => gd_P hy hsl fun f hf => ⟨gd_df d f (hsub f hf), fun z hz => gd_field d v fx f z (hsub f hf) hz⟩
    unfold toField toFW
    split
    · split
      · exact GdT.leaf rfl (by simp)
      · refine .mk _ _ _ _ _ rfl (by simp) (by rw [List.length_map]; exact take_most_length _) TagOK.nil fun x hx => ?_
        obtain ⟨y, hy, rfl⟩ := List.mem_map.1 hx
        exact gd_V (hp y (hk.l y (List.mem_of_mem_take hy))) _ _
    · exact gd_V (hp t hk) _ _
theorem gd_part (d : Nat) (v : Int) (fx : Bool) (fs : List Fd) (t : T) (hok : ∀ f, f ∈ fs → okF d f = true) (hl : fs.length ≤ 1000) (hk : KeyT t) : GdT (toPart d v fx fs t) :=
  gd_P hk hl fun f hf => ⟨gd_df d f (hok f hf), fun y hy => gd_field d v fx f y (hok f hf) hy⟩
/-- Fields whose telling is compared whole: what may be null is a text or a list. -/
def okN : Nat → Fd → Bool
  | 0, _ => false
  | d + 1, f => decide (f.kind = 8 ∨ f.kind = 11 ∨ f.nul < 0) && (decide (-9223372036854775808 ≤ f.df) && decide (f.df ≤ 9223372036854775807)) && f.sub.all (okN d)
end Go.Proofs.YtepamajphjgigaaGreatDoor.K
/-! spec.Told says yes of what is told by the plain law. -/
set_option linter.unusedVariables false
set_option linter.unusedSimpArgs false
namespace Go.Proofs.YtepamajphjgigaaGreatDoor.K
open Go
set_option maxHeartbeats 1600000

theorem number_does {k n : Int} (hk : 0 ≤ k ∧ k ≤ 11) (hn : IntKind.i64.wrap n = n) (w : World) : Does X.P 24 #[.int .i64 k, .int .i64 n] w fun r w' => r = .int .i64 (numK k n) ∧ Ext nob w w' := by
  refine Does.go (X := X) (l := [_, _]) Tryz.func24 rfl (by kernel_rfl) (by kernel_rfl) _ rfl ?_
  rcases kinds k hk with rfl | rfl | rfl | rfl | rfl | rfl | rfl | rfl | rfl | rfl | rfl | rfl
  all_goals ((conv=>whnf);repeat((first|refine mvT ?_|refine mvF ?_|refine yT ?_|refine yF ?_);conv=>whnf))
  all_goals refine ⟨?_, Ext.refl _ _⟩
  all_goals first
    | exact congrArg (Value.int .i64) (and1 n)
    | exact congrArg (Value.int .i64) (numK_wrap 1 n)
    | exact congrArg (Value.int .i64) (numK_wrap 2 n)
    | exact congrArg (Value.int .i64) (numK_wrap 3 n)
    | exact congrArg (Value.int .i64) (numK_wrap 5 n)
    | exact congrArg (Value.int .i64) hn.symm
end Go.Proofs.YtepamajphjgigaaGreatDoor.K
/-! spec.Told says yes of what is told by the plain law. -/
set_option linter.unusedVariables false
set_option linter.unusedSimpArgs false
namespace Go.Proofs.YtepamajphjgigaaGreatDoor.K
open Go
set_option maxHeartbeats 1600000

/-- What told and Told ask of descriptions. -/
structure Dok (d : Nat) (fs : List Fd) : Prop where
  f : ∀ g, g ∈ fs → okF d g = true
  t : ∀ g, g ∈ fs → ntF d g = true
  w : ∀ g, g ∈ fs → okW d g = true
  n : ∀ g, g ∈ fs → okN d g = true
  l : fs.length ≤ 1000
/-- The same tree with another number of its own (which Told does not look at). -/
def withN (k : Int) : T → T | .mk _ s nl l u => .mk k s nl l u
theorem TrC.five {w : World} {F : Nat → Prop} {c : List Value} {t : T} (h : TrC w F c t) : ∃ n sv nl lv uv, c = [.int .i64 n, sv, .bool nl, lv, uv] := by cases h; exact ⟨_, _, _, _, _, rfl⟩
theorem Els.tr {w : World} {F : Nat → Prop} {ls : List (List Value)} {l : List T} (h : ∀ (i : Nat) (c : List Value) (t : T), ls[i]? = some c → l[i]? = some t → TrC w F c t) : True := trivial
end Go.Proofs.YtepamajphjgigaaGreatDoor.K
