
/- What is told of what was written and read: no thing is too great, the tags rise. spec.Told says yes of what is told by the plain law. spec.Told says yes of what is told by the plain law. -/
import Derived.Test.YtjepglidlblmlaaDoorU1
import Derived.Test.YtjepglidlblmlaaDoorM0
/-! What is told of what was written and read: no thing is too great, the tags rise. -/
set_option linter.unusedVariables false
set_option linter.unusedSimpArgs false
namespace Go.Proofs.YtjepglidlblmlaaDoor.K
open Go
set_option maxHeartbeats 800000

/-- Trees as they are read: numbers, lengths and tags as they may be. -/
inductive GdT : T → Prop
  | mk (n : Int) (s : List UInt8) (nl : Bool) (l : List T) (u : List Tg) (hn : IntKind.i64.wrap n = n) (hs : s.length ≤ 32767) (hl : l.length ≤ 32767) (hu : TagOK u) (h : ∀ x, x ∈ l → GdT x) : GdT (.mk n s nl l u)
theorem GdT.leaf {n : Int} {s : List UInt8} {nl : Bool} (hn : IntKind.i64.wrap n = n) (hs : s.length ≤ 32767) : GdT (.mk n s nl [] []) := .mk _ _ _ _ _ hn hs (by simp) TagOK.nil (by simp)
theorem GdT.zero : GdT T.zero := GdT.leaf rfl (by simp)
theorem GdT.lim {t : T} (h : GdT t) : LimT t := by
  induction h with
  | mk n s nl l u hn hs hl hu _ ih =>
    refine .mk _ _ _ _ _ hn (by omega) (by omega) (by have := hu.len; omega) (fun x hx => ⟨hu.key x hx, by have := hu.val x hx; omega⟩) ?_ ih
    exact List.pairwise_map.2 (hu.rise.imp fun h => Nat.ne_of_lt h)
theorem GdT.small {t : T} (h : GdT t) : Small t := by
  induction h with
  | mk n s nl l u hn hs hl hu _ ih => exact .mk _ _ _ _ _ (by omega) (by have := hu.len; omega) ih
theorem GdT.nrm {t : T} (h : GdT t) : ∀ {t' : T}, Nrm t t' → t' = t := by
  induction h with
  | mk n s nl l u hn hs hl hu _ ih =>
    intro t' hN
    cases hN
    rename_i l' u' hs' hl' hls hp
    have e1 : l' = l := by
      apply List.ext_getElem hl'
      intro i h1 h2
      exact ih l[i] (List.getElem_mem _) (hls i l[i] l'[i] (by simp [h2]) (by simp [h1]))
    have e2 : u' = u := List.Perm.eq_of_pairwise (le := fun a b => a.1 < b.1) (fun a b _ _ h1 h2 => absurd h1 (Nat.lt_asymm h2)) hs' hu.rise hp
    rw [e1, e2]
theorem numK_wrap (k n : Int) : IntKind.i64.wrap (numK k n) = numK k n := by
  unfold numK
  split
  · exact i64_of (by omega) (by omega)
  · unfold kindI
    split
    · rw [wrap_i8]; exact i64_of (by omega) (by omega)
    · split
      · rw [wrap_i16]; exact i64_of (by omega) (by omega)
      · split
        · rw [IntKind.wrap_i32]; exact i64_of (by omega) (by omega)
        · split
          · rw [wrap_u16]; exact i64_of (by omega) (by omega)
          · rw [IntKind.wrap_i64 n]; exact i64_of (by omega) (by omega)
theorem gd_num (k n : Int) : GdT (numT (numK k n)) := GdT.leaf (numK_wrap k n) (by simp)
theorem gd_df : ∀ (d : Nat) (f : Fd), okF d f = true → GdT (dfT d f)
  | 0, f, h => by simp [okF] at h
  | d + 1, .mk kind fr to nul tag df of sub, h => by
    obtain ⟨_, _, _, hsl, hsub⟩ := okF_parts h
    unfold dfT
    split
    · exact GdT.leaf rfl (by simp)
    · split
      · exact GdT.leaf rfl (by simp)
      · split
        · exact GdT.leaf rfl (by simp)
        · split
          · split
            · exact GdT.leaf rfl (by simp)
            · refine .mk _ _ _ _ _ rfl (by simp) (by rw [List.length_map]; show sub.length ≤ 32767; omega) TagOK.nil fun x hx => ?_
              obtain ⟨g, hg, rfl⟩ := List.mem_map.1 hx
              exact gd_df d g (hsub g hg)
          · exact gd_num _ _
theorem gd_V {tp : List Fd → T → T} {sub : List Fd} {t : T} (hp : GdT (tp sub t)) (kind : Int) (nb : Bool) : GdT (toV tp kind sub nb t) := by
  unfold toV
  split
  · exact GdT.leaf rfl (by simp [uuidB])
  · split
    · split
      · exact GdT.leaf rfl (by simp)
      · exact GdT.leaf rfl (take_most_length _)
    · split
      · exact hp
      · exact gd_num _ _
theorem toAll_mem {tf : Fd → T → T} {df : Fd → T} {v : Int} {t : T} {P : T → Prop} : ∀ (fs : List Fd) (i : Nat), (∀ f, f ∈ fs → P (df f) ∧ ∀ j, P (tf f (atT t j))) → ∀ x, x ∈ toAll tf df v t i fs → P x
  | [], _, _, x, hx => by simp [toAll] at hx
  | f :: r, i, h, x, hx => by
    rw [toAll, List.mem_cons] at hx
    rcases hx with rfl | hx
    · split
      · exact (h f (by simp)).2 i
      · exact (h f (by simp)).1
    · exact toAll_mem r (i + 1) (fun g hg => h g (by simp [hg])) x hx
theorem toAll_length (tf : Fd → T → T) (df : Fd → T) (v : Int) (t : T) : ∀ (fs : List Fd) (i : Nat), (toAll tf df v t i fs).length = fs.length
  | [], _ => rfl
  | f :: r, i => by rw [toAll, List.length_cons, toAll_length tf df v t r (i + 1), List.length_cons]
theorem gd_P {tf : Fd → T → T} {df : Fd → T} {fs : List Fd} {v : Int} {fx : Bool} {t : T} (hk : KeyT t) (hl : fs.length ≤ 1000) (h : ∀ f, f ∈ fs → GdT (df f) ∧ ∀ y, KeyT y → GdT (tf f y)) : GdT (toPartW tf df fs v fx t) := by
  refine .mk _ _ _ _ _ rfl (by simp) (by rw [toAll_length]; omega) (tagOK_to (tag_ok fs t.u hk.u)) ?_
  exact toAll_mem fs 0 fun f hf => ⟨(h f hf).1, fun j => (h f hf).2 _ (hk.at j)⟩
theorem gd_field : ∀ (d : Nat) (v : Int) (fx : Bool) (f : Fd) (t : T), okF d f = true → KeyT t → GdT (toField d v fx f t)
  | 0, _, _, f, _, h, _ => by simp [okF] at h
  | d + 1, v, fx, .mk kind fr to nul tag df of sub, t, h, hk => by
    obtain ⟨_, _, _, hsl, hsub⟩ := okF_parts h
    have hp : ∀ y, KeyT y → GdT (toPartW (toField d v fx) (dfT d) sub v fx y) := fun y hy => gd_P hy hsl fun f hf => ⟨gd_df d f (hsub f hf), fun z hz => gd_field d v fx f z (hsub f hf) hz⟩
    unfold toField toFW
    split
    · split
      · exact GdT.leaf rfl (by simp)
      · refine .mk _ _ _ _ _ rfl (by simp) (by rw [List.length_map]; exact take_most_length _) TagOK.nil fun x hx => ?_
        obtain ⟨y, hy, rfl⟩ := List.mem_map.1 hx
        exact gd_V (hp y (hk.l y (List.mem_of_mem_take hy))) _ _
    · exact gd_V (hp t hk) _ _
theorem gd_part (d : Nat) (v : Int) (fx : Bool) (fs : List Fd) (t : T) (hok : ∀ f, f ∈ fs → okF d f = true) (hl : fs.length ≤ 1000) (hk : KeyT t) : GdT (toPart d v fx fs t) :=
  gd_P hk hl fun f hf => ⟨gd_df d f (hok f hf), fun y hy => gd_field d v fx f y (hok f hf) hy⟩
/-- Fields whose telling is compared whole: what may be null is a text or a list. -/
def okN : Nat → Fd → Bool
  | 0, _ => false
  | d + 1, f => decide (f.kind = 8 ∨ f.kind = 11 ∨ f.nul < 0) && (decide (-9223372036854775808 ≤ f.df) && decide (f.df ≤ 9223372036854775807)) && f.sub.all (okN d)
end Go.Proofs.YtjepglidlblmlaaDoor.K
/-! spec.Told says yes of what is told by the plain law. -/
set_option linter.unusedVariables false
set_option linter.unusedSimpArgs false
namespace Go.Proofs.YtjepglidlblmlaaDoor.K
open Go
set_option maxHeartbeats 1600000

theorem TrC.inv {w : World} {F : Nat → Prop} {c : List Value} {n : Int} {s : List UInt8} {nl : Bool} {l : List T} {u : List Tg} (h : TrC w F c (.mk n s nl l u)) : ∃ sv lv uv ls, c = [.int .i64 n, sv, .bool nl, lv, uv] ∧ IntKind.i64.wrap n = n ∧ Bytes w F sv s ∧ SlE w F 5 lv ls ∧ ls.length = l.length ∧ (∀ (i : Nat) (c : List Value) (t : T), ls[i]? = some c → l[i]? = some t → TrC w F c t) ∧ TgsR w F uv u := by
  generalize ht : T.mk n s nl l u = t at h
  cases h
  cases ht
  exact ⟨_, _, _, _, rfl, by assumption, by assumption, by assumption, by assumption, by assumption, by assumption⟩
end Go.Proofs.YtjepglidlblmlaaDoor.K
/-! spec.Told says yes of what is told by the plain law. -/
set_option linter.unusedVariables false
set_option linter.unusedSimpArgs false
namespace Go.Proofs.YtjepglidlblmlaaDoor.K
open Go
set_option maxHeartbeats 1600000

/-- What told and Told ask of descriptions. -/
structure Dok (d : Nat) (fs : List Fd) : Prop where
  f : ∀ g, g ∈ fs → okF d g = true
  t : ∀ g, g ∈ fs → ntF d g = true
  w : ∀ g, g ∈ fs → okW d g = true
  n : ∀ g, g ∈ fs → okN d g = true
  l : fs.length ≤ 1000
/-- The same tree with another number of its own (which Told does not look at). -/
def withN (k : Int) : T → T | .mk _ s nl l u => .mk k s nl l u
theorem TrC.inv2 {w : World} {F : Nat → Prop} {zn n : Int} {zsv zlv zuv : Value} {znl nl : Bool} {s : List UInt8} {l : List T} {u : List Tg} (h : TrC w F [.int .i64 zn, zsv, .bool znl, zlv, zuv] (.mk n s nl l u)) :
    zn = n ∧ znl = nl ∧ Bytes w F zsv s ∧ ∃ ls, SlE w F 5 zlv ls ∧ ls.length = l.length ∧ (∀ (i : Nat) (c : List Value) (t : T), ls[i]? = some c → l[i]? = some t → TrC w F c t) ∧ TgsR w F zuv u := by
  obtain ⟨sv, lv, uv, ls, e, h1, h2, h3, h4, h5, h6⟩ := h.inv
  simp only [List.cons.injEq, Value.int.injEq, Value.bool.injEq, true_and, and_true] at e
  obtain ⟨rfl, rfl, rfl, rfl, rfl⟩ := e
  exact ⟨rfl, rfl, h2, ls, h3, h4, h5, h6⟩
theorem TrC.five {w : World} {F : Nat → Prop} {c : List Value} {t : T} (h : TrC w F c t) : ∃ n sv nl lv uv, c = [.int .i64 n, sv, .bool nl, lv, uv] := by cases h; exact ⟨_, _, _, _, _, rfl⟩
theorem nullF_lt {kind fr to nul tag df of : Int} {sub : List Fd} {v : Int} {t : T} (h : nul < 0) : nullF (.mk kind fr to nul tag df of sub) v t = false := by
  unfold nullF
  rw [show decide (0 ≤ (Fd.mk kind fr to nul tag df of sub).nul) = false from decide_eq_false (by show ¬ 0 ≤ nul; omega), Bool.false_and, Bool.and_false]
theorem Els.tr {w : World} {F : Nat → Prop} {ls : List (List Value)} {l : List T} (h : ∀ (i : Nat) (c : List Value) (t : T), ls[i]? = some c → l[i]? = some t → TrC w F c t) : True := trivial
theorem ok_parts {d : Nat} {kind fr to nul tag df of : Int} {sub : List Fd} (h1 : okF (d + 1) (.mk kind fr to nul tag df of sub) = true) (h2 : ntF (d + 1) (.mk kind fr to nul tag df of sub) = true) (h3 : okW (d + 1) (.mk kind fr to nul tag df of sub) = true) (h4 : okN (d + 1) (.mk kind fr to nul tag df of sub) = true) :
    tag = -1 ∧ (0 ≤ kind ∧ kind ≤ 11) ∧ (0 ≤ of ∧ of ≤ 10) ∧ (kind = 8 ∨ kind = 11 ∨ nul < 0) ∧ IntKind.i64.wrap df = df ∧ (kind = 10 → fr ≤ 0 ∧ to < 0) ∧ Dok d sub := by
  obtain ⟨_, hk, ho, hl, hs⟩ := okF_parts h1
  rw [ntF, Bool.and_eq_true] at h2
  rw [okW, Bool.and_eq_true] at h3
  rw [okN, Bool.and_eq_true, Bool.and_eq_true, Bool.and_eq_true] at h4
  have h31 : kind ≠ 10 ∨ (nul < 0 ∧ fr ≤ 0 ∧ to < 0) := of_decide_eq_true h3.1
  exact ⟨of_decide_eq_true h2.1, hk, ho, of_decide_eq_true h4.1.1, i64_of (of_decide_eq_true h4.1.2.1) (of_decide_eq_true h4.1.2.2), fun e => h31.elim (fun h => absurd e h) fun h => ⟨h.2.1, h.2.2⟩, hs, List.all_eq_true.1 h2.2, List.all_eq_true.1 h3.2, List.all_eq_true.1 h4.2, hl⟩
end Go.Proofs.YtjepglidlblmlaaDoor.K
