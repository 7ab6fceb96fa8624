/- What is told of what was written and read: no thing is too great, the tags rise. spec.Told says yes of what is told by the plain law. spec.Told says yes of what is told by the plain law. -/
import Derived.Test.YtgajnmbjchdioaaDoorU1
import Derived.Test.YtgajnmbjchdioaaDoorM0
/-! What is told of what was written and read: no thing is too great, the tags rise. -/
set_option linter.unusedVariables false
set_option linter.unusedSimpArgs false
namespace Go.Proofs.YtgajnmbjchdioaaDoor.K
open Go
set_option maxHeartbeats 800000

/-- Trees as they are read: numbers, lengths and tags as they may be. -/
inductive GdT : T → Prop
  | mk (n : Int) (s : List UInt8) (nl : Bool) (l : List T) (u : List Tg) (hn : IntKind.i64.wrap n = n) (hs : s.length ≤ 32767) (hl : l.length ≤ 32767) (hu : TagOK u) (h : ∀ x, x ∈ l → GdT x) : GdT (.mk n s nl l u)
theorem GdT.leaf {n : Int} {s : List UInt8} {nl : Bool} (hn : IntKind.i64.wrap n = n) (hs : s.length ≤ 32767) : GdT (.mk n s nl [] []) := .mk _ _ _ _ _ hn hs (by simp) TagOK.nil (by simp)
theorem GdT.zero : GdT T.zero := GdT.leaf rfl (by simp)
theorem GdT.lim {t : T} (h : GdT t) : LimT t := by
  induction h with
  | mk n s nl l u hn hs hl hu _ ih =>
    refine .mk _ _ _ _ _ hn (by omega) (by omega) (by have := hu.len; omega) (fun x hx => ⟨hu.key x hx, by have := hu.val x hx; omega⟩) ?_ ih
    exact List.pairwise_map.2 (hu.rise.imp fun h => Nat.ne_of_lt h)
theorem GdT.small {t : T} (h : GdT t) : Small t := by
  induction h with
  | mk n s nl l u hn hs hl hu _ ih => exact .mk _ _ _ _ _ (by omega) (by have := hu.len; omega) ih
theorem GdT.nrm {t : T} (h : GdT t) : ∀ {t' : T}, Nrm t t' → t' = t := by
  induction h with
  | mk n s nl l u hn hs hl hu _ ih =>
    intro t' hN
    cases hN
    rename_i l' u' hs' hl' hls hp
    have e1 : l' = l := by
      apply List.ext_getElem hl'
      intro i h1 h2
      exact ih l[i] (List.getElem_mem _) (hls i l[i] l'[i] (by simp [h2]) (by simp [h1]))
    have e2 : u' = u := List.Perm.eq_of_pairwise (le := fun a b => a.1 < b.1) (fun a b _ _ h1 h2 => absurd h1 (Nat.lt_asymm h2)) hs' hu.rise hp
    rw [e1, e2]
theorem numK_wrap (k n : Int) : IntKind.i64.wrap (numK k n) = numK k n := by
  unfold numK
  split
  · exact i64_of (by omega) (by omega)
  · unfold kindI
    split
    · rw [wrap_i8]; exact i64_of (by omega) (by omega)
    · split
      · rw [wrap_i16]; exact i64_of (by omega) (by omega)
      · split
        · rw [IntKind.wrap_i32]; exact i64_of (by omega) (by omega)
        · split
          · rw [wrap_u16]; exact i64_of (by omega) (by omega)
          · rw [IntKind.wrap_i64 n]; exact i64_of (by omega) (by omega)
theorem gd_num (k n : Int) : GdT (numT (numK k n)) := GdT.leaf (numK_wrap k n) (by simp)
theorem gd_df : ∀ (d : Nat) (f : Fd), okF d f = true → GdT (dfT d f)
  | 0, f, h => by simp [okF] at h
  | d + 1, .mk kind fr to nul tag df of sub, h => by
    obtain ⟨_, _, _, hsl, hsub⟩ := okF_parts h
    unfold dfT
    split
    · exact GdT.leaf rfl (by simp)
    · split
      · exact GdT.leaf rfl (by simp)
      · split
        · exact GdT.leaf rfl (by simp)
        · split
          · split
            · exact GdT.leaf rfl (by simp)
            · refine .mk _ _ _ _ _ rfl (by simp) (by rw [List.length_map]; show sub.length ≤ 32767; omega) TagOK.nil fun x hx => ?_
              obtain ⟨g, hg, rfl⟩ := List.mem_map.1 hx
              exact gd_df d g (hsub g hg)
          · exact gd_num _ _
theorem gd_V {tp : List Fd → T → T} {sub : List Fd} {t : T} (hp : GdT (tp sub t)) (kind : Int) (nb : Bool) : GdT (toV tp kind sub nb t) := by
  unfold toV
  split
  · exact GdT.leaf rfl (by simp [uuidB])
  · split
    · split
      · exact GdT.leaf rfl (by simp)
      · exact GdT.leaf rfl (take_most_length _)
    · split
      · exact hp
      · exact gd_num _ _
theorem toAll_mem {tf : Fd → T → T} {df : Fd → T} {v : Int} {t : T} {P : T → Prop} : ∀ (fs : List Fd) (i : Nat), (∀ f, f ∈ fs → P (df f) ∧ ∀ j, P (tf f (atT t j))) → ∀ x, x ∈ toAll tf df v t i fs → P x
  | [], _, _, x, hx => by simp [toAll] at hx
  | f :: r, i, h, x, hx => by
    rw [toAll, List.mem_cons] at hx
    rcases hx with rfl | hx
    · split
      · exact (h f (by simp)).2 i
      · exact (h f (by simp)).1
    · exact toAll_mem r (i + 1) (fun g hg => h g (by simp [hg])) x hx
theorem toAll_length (tf : Fd → T → T) (df : Fd → T) (v : Int) (t : T) : ∀ (fs : List Fd) (i : Nat), (toAll tf df v t i fs).length = fs.length
  | [], _ => rfl
  | f :: r, i => by rw [toAll, List.length_cons, toAll_length tf df v t r (i + 1), List.length_cons]
theorem gd_P {tf : Fd → T → T} {df : Fd → T} {fs : List Fd} {v : Int} {fx : Bool} {t : T} (hk : KeyT t) (hl : fs.length ≤ 1000) (h : ∀ f, f ∈ fs → GdT (df f) ∧ ∀ y, KeyT y → GdT (tf f y)) : GdT (toPartW tf df fs v fx t) := by
  refine .mk _ _ _ _ _ rfl (by simp) (by rw [toAll_length]; omega) (tagOK_to (tag_ok fs t.u hk.u)) ?_
  exact toAll_mem fs 0 fun f hf => ⟨(h f hf).1, fun j => (h f hf).2 _ (hk.at j)⟩
theorem gd_field : ∀ (d : Nat) (v : Int) (fx : Bool) (f : Fd) (t : T), okF d f = true → KeyT t → GdT (toField d v fx f t)
  | 0, _, _, f, _, h, _ => by simp [okF] at h
  | d + 1, v, fx, .mk kind fr to nul tag df of sub, t, h, hk => by
    obtain ⟨_, _, _, hsl, hsub⟩ := okF_parts h
    have hp : ∀ y, KeyT y → GdT (toPartW (toField d v fx) (dfT d) sub v fx y) := fun y hy => gd_P hy hsl fun f hf => ⟨gd_df d f (hsub f hf), fun z hz => gd_field d v fx f z (hsub f hf) hz⟩
    unfold toField toFW
    split
    · split
      · exact GdT.leaf rfl (by simp)
      · refine .mk _ _ _ _ _ rfl (by simp) (by rw [List.length_map]; exact take_most_length _) TagOK.nil fun x hx => ?_
        obtain ⟨y, hy, rfl⟩ := List.mem_map.1 hx
        exact gd_V (hp y (hk.l y (List.mem_of_mem_take hy))) _ _
    · exact gd_V (hp t hk) _ _
theorem gd_part (d : Nat) (v : Int) (fx : Bool) (fs : List Fd) (t : T) (hok : ∀ f, f ∈ fs → okF d f = true) (hl : fs.length ≤ 1000) (hk : KeyT t) : GdT (toPart d v fx fs t) :=
  gd_P hk hl fun f hf => ⟨gd_df d f (hok f hf), fun y hy => gd_field d v fx f y (hok f hf) hy⟩
/-- Fields whose telling is compared whole: what may be null is a text or a list. -/
def okN : Nat → Fd → Bool
  | 0, _ => false
  | d + 1, f => decide (f.kind = 8 ∨ f.kind = 11 ∨ f.nul < 0) && (decide (-9223372036854775808 ≤ f.df) && decide (f.df ≤ 9223372036854775807)) && f.sub.all (okN d)
end Go.Proofs.YtgajnmbjchdioaaDoor.K
/-! spec.Told says yes of what is told by the plain law. -/
set_option linter.unusedVariables false
set_option linter.unusedSimpArgs false
namespace Go.Proofs.YtgajnmbjchdioaaDoor.K
open Go
set_option maxHeartbeats 1600000

theorem number_does {k n : Int} (hk : 0 ≤ k ∧ k ≤ 11) (hn : IntKind.i64.wrap n = n) (w : World) : Does X.P 32 #[.int .i64 k, .int .i64 n] w fun r w' => r = .int .i64 (numK k n) ∧ Ext nob w w' := by
  refine Does.go (X := X) (l := [_, _]) Tryd.func32 rfl (by kernel_rfl) (by kernel_rfl) _ rfl ?_
  rcases kinds k hk with rfl | rfl | rfl | rfl | rfl | rfl | rfl | rfl | rfl | rfl | rfl | rfl
  all_goals ((conv=>whnf);repeat(first|(refine mvT ?_;conv=>whnf)|(refine mvF ?_;conv=>whnf)|(refine cT (by rfl) ?_;conv=>whnf)|(refine cF (by rfl) ?_;conv=>whnf)))
  all_goals refine ⟨?_, Ext.refl _ _⟩
  all_goals first
    | exact congrArg (Value.int .i64) (and1 n)
    | exact congrArg (Value.int .i64) (numK_wrap 1 n)
    | exact congrArg (Value.int .i64) (numK_wrap 2 n)
    | exact congrArg (Value.int .i64) (numK_wrap 3 n)
    | exact congrArg (Value.int .i64) (numK_wrap 5 n)
    | exact congrArg (Value.int .i64) hn.symm
theorem TrC.inv {w : World} {F : Nat → Prop} {c : List Value} {n : Int} {s : List UInt8} {nl : Bool} {l : List T} {u : List Tg} (h : TrC w F c (.mk n s nl l u)) : ∃ sv lv uv ls, c = [.int .i64 n, sv, .bool nl, lv, uv] ∧ IntKind.i64.wrap n = n ∧ Bytes w F sv s ∧ SlE w F 5 lv ls ∧ ls.length = l.length ∧ (∀ (i : Nat) (c : List Value) (t : T), ls[i]? = some c → l[i]? = some t → TrC w F c t) ∧ TgsR w F uv u := by
  generalize ht : T.mk n s nl l u = t at h
  cases h
  cases ht
  exact ⟨_, _, _, _, rfl, by assumption, by assumption, by assumption, by assumption, by assumption, by assumption⟩
theorem usual1_does {F G : Nat → Prop} {w : World} {y x : Value} {f : Fd} {d : Nat} (hf : FdsR w F y [f]) (ht : Tr w G x (.mk 0 [] false [dfT (d + 1) f] [])) (hok : okF (d + 1) f = true) (hk : f.kind ≠ 10) (hdf : IntKind.i64.wrap f.df = f.df) :
    Does X.P 21 #[y, x] w fun r w' => r = .bool true ∧ Ext nob w w' := by
  have htr := ht
  obtain ⟨ct, rfl, ht⟩ := ht
  obtain ⟨sv, lv, uv, ls, rfl, hn, hs, hl, hlen, hr, lu, hlu, hlul, _⟩ := ht.inv
  obtain ⟨au, cu, rfl, _⟩ := hlu.view
  obtain rfl : lu = [] := List.eq_nil_of_length_eq_zero (by simpa using hlul)
  obtain ⟨fl, hsl, hfl, hfr⟩ := hf
  obtain ⟨a, c, rfl, hc, hm, _, _, hC⟩ := hsl.view
  have hfl1 : fl.length = 1 := by simpa using hfl
  refine Does.go (X := X) (l := [_, _]) Tryd.func21 rfl (by kernel_rfl) (by kernel_rfl) _ rfl ?_
  ((conv=>whnf);repeat(first|(refine mvT ?_;conv=>whnf)|(refine mvF ?_;conv=>whnf)|(refine cT (by rfl) ?_;conv=>whnf)|(refine cF (by rfl) ?_;conv=>whnf)))
  intro b w1 hb ho hx
  ((conv=>whnf);repeat(first|(refine mvT ?_;conv=>whnf)|(refine mvF ?_;conv=>whnf)|(refine cT (by rfl) ?_;conv=>whnf)|(refine cF (by rfl) ?_;conv=>whnf)))
  refine ldS (ho.cell rfl) ?_;((conv=>whnf);repeat(first|(refine mvT ?_;conv=>whnf)|(refine mvF ?_;conv=>whnf)|(refine cT (by rfl) ?_;conv=>whnf)|(refine cF (by rfl) ?_;conv=>whnf)))
  refine VL.loop (fun i : Nat => [(3, .pointer (some ⟨b, 0, none⟩)), (12, .slice a fl.length c), (13, .int .i64 fl.length), (14, .int .i64 i)])
    (fun i w' => Ext nob w1 w' ∧ i ≤ fl.length) (fun i => fl.length - i) 0 ⟨rfl, rfl, rfl, rfl, trivial⟩ ⟨Ext.refl _ _, Nat.zero_le _⟩ ?_
  rintro i w2 ⟨hx2, hi⟩
  ((conv=>whnf);repeat(first|(refine mvT ?_;conv=>whnf)|(refine mvF ?_;conv=>whnf)|(refine cT (by rfl) ?_;conv=>whnf)|(refine cF (by rfl) ?_;conv=>whnf)))
  refine cI (by rfl) (fun h1=>?_) (fun h1=>?_)
  · have hil : i = 0 := by have := of_decide_eq_true h1; omega
    subst hil
    obtain ⟨cf, hcf⟩ : ∃ cf, fl[0]? = some cf := ⟨fl[0]'(by omega), by simp⟩
    have hfd := hfr 0 cf f hcf rfl
    obtain ⟨b4, o4, rfl, hc4⟩ := hC 0 cf hcf
    ((conv=>whnf);repeat(first|(refine mvT ?_;conv=>whnf)|(refine mvF ?_;conv=>whnf)|(refine cT (by rfl) ?_;conv=>whnf)|(refine cF (by rfl) ?_;conv=>whnf)))
    refine ⟨b4, o4, rfl, ⟨by omega, by omega⟩, ?_⟩
    ((conv=>whnf);repeat(first|(refine mvT ?_;conv=>whnf)|(refine mvF ?_;conv=>whnf)|(refine cT (by rfl) ?_;conv=>whnf)|(refine cF (by rfl) ?_;conv=>whnf)))
    refine ⟨cf, hfd.len, (hc4.e0 hx).e0 hx2, ?_⟩
    ((conv=>whnf);repeat(first|(refine mvT ?_;conv=>whnf)|(refine mvF ?_;conv=>whnf)|(refine cT (by rfl) ?_;conv=>whnf)|(refine cF (by rfl) ?_;conv=>whnf)))
    intro b5 w5 hb5 ho5 hx5
    ((conv=>whnf);repeat(first|(refine mvT ?_;conv=>whnf)|(refine mvF ?_;conv=>whnf)|(refine cT (by rfl) ?_;conv=>whnf)|(refine cF (by rfl) ?_;conv=>whnf)))
    refine st_all cf ho5 hfd.len rfl hfd.ok ?_
    intro w6 ho6 hx6
    have hx26 : Ext nob w2 w6 := hx5.st hx6 hb5
    have hxw6 : Ext nob w w6 := (hx.e0 hx2).e0 hx26
    ((conv=>whnf);repeat(first|(refine mvT ?_;conv=>whnf)|(refine mvF ?_;conv=>whnf)|(refine cT (by rfl) ?_;conv=>whnf)|(refine cF (by rfl) ?_;conv=>whnf)))
    refine ⟨_, rfl, (ho.e0 (hx2.e0 hx26)).cells, ?_⟩
    ((conv=>whnf);repeat(first|(refine mvT ?_;conv=>whnf)|(refine mvF ?_;conv=>whnf)|(refine cT (by rfl) ?_;conv=>whnf)|(refine cF (by rfl) ?_;conv=>whnf)))
    refine Does.mono (at_does (htr.e0 hxw6) 0) ?_
    rintro r7 w7 ⟨hr7, hx7⟩
    have hat : atT (.mk 0 [] false [dfT (d + 1) f] []) 0 = dfT (d + 1) f := rfl
    rw [hat] at hr7
    obtain ⟨cx, rfl, hcx⟩ := hr7
    have hlenx := hcx.len
    have hokx := hcx.ok
    ((conv=>whnf);repeat(first|(refine mvT ?_;conv=>whnf)|(refine mvF ?_;conv=>whnf)|(refine cT (by rfl) ?_;conv=>whnf)|(refine cF (by rfl) ?_;conv=>whnf)))
    intro b8 w8 hb8 ho8 hx8
    ((conv=>whnf);repeat(first|(refine mvT ?_;conv=>whnf)|(refine mvF ?_;conv=>whnf)|(refine cT (by rfl) ?_;conv=>whnf)|(refine cF (by rfl) ?_;conv=>whnf)))
    refine st_all cx ho8 hlenx rfl hokx ?_
    intro w9 ho9 hx9
    have hx79 : Ext nob w7 w9 := hx8.st hx9 hb8
    have ho6 := (ho6.e0 hx7).e0 hx79
    have hx19 := ((hx2.e0 hx26).e0 hx7).e0 hx79
    have hcx := hcx.e0 hx79
    clear ho8 hx8 hx9
    obtain ⟨kind, fr, to, nul, tag, df, of, sub⟩ := f
    cases hfd
    rename_i sv2 ls2 hl2 hlen2 hr2
    obtain ⟨_, hkk, _, _, _⟩ := okF_parts hok
    rcases kinds kind hkk with rfl | rfl | rfl | rfl | rfl | rfl | hkk
    · have e : dfT (d + 1) (.mk 0 fr to nul tag df of sub) = numT (numK 0 df) := rfl
      obtain ⟨sx, lx, ux, lsx, rfl, hnx, hsx, hlx, hl5x, hrx, hux⟩ := (show TrC w9 G cx (.mk (numK 0 df) [] false [] []) from by rw [e] at hcx; exact hcx).inv
      have hx19 := hx19.e0 (ext_drew _)
      have ho6 := ho6.e0 (ext_drew _)
      have ho9 := ho9.e0 (ext_drew _)
      ((conv=>whnf);repeat(first|(refine mvT ?_;conv=>whnf)|(refine mvF ?_;conv=>whnf)|(refine cT (by rfl) ?_;conv=>whnf)|(refine cF (by rfl) ?_;conv=>whnf)))
      refine ldS (ho6.cell rfl) ?_;((conv=>whnf);repeat(first|(refine mvT ?_;conv=>whnf)|(refine mvF ?_;conv=>whnf)|(refine cT (by rfl) ?_;conv=>whnf)|(refine cF (by rfl) ?_;conv=>whnf)))
      refine VD.draw mixed (.q 0 (.q 1 (.q 2 (.q 3 (.q 4 (.q 5 (.eff 6 [1] (.q 7 (.done))))))))) (by kernel_rfl) ?_;((conv=>whnf);repeat(first|(refine mvT ?_;conv=>whnf)|(refine mvF ?_;conv=>whnf)|(refine cT (by rfl) ?_;conv=>whnf)|(refine cF (by rfl) ?_;conv=>whnf)))
      refine ldS (ho9.cell rfl) ?_;((conv=>whnf);repeat(first|(refine mvT ?_;conv=>whnf)|(refine mvF ?_;conv=>whnf)|(refine cT (by rfl) ?_;conv=>whnf)|(refine cF (by rfl) ?_;conv=>whnf)))
      refine ldS (ho6.cell rfl) ?_;((conv=>whnf);repeat(first|(refine mvT ?_;conv=>whnf)|(refine mvF ?_;conv=>whnf)|(refine cT (by rfl) ?_;conv=>whnf)|(refine cF (by rfl) ?_;conv=>whnf)))
      refine ldS (ho6.cell rfl) ?_;((conv=>whnf);repeat(first|(refine mvT ?_;conv=>whnf)|(refine mvF ?_;conv=>whnf)|(refine cT (by rfl) ?_;conv=>whnf)|(refine cF (by rfl) ?_;conv=>whnf)))
      refine Does.mono (number_does ⟨by omega, by omega⟩ hdf _) ?_
      rintro r10 w10 ⟨rfl, hx10⟩
      refine ⟨by (conv => whnf); exact ⟨⟨_, (ho9.e0 hx10).cell rfl, rfl, rfl⟩, trivial⟩, ?_⟩
      ((conv=>whnf);repeat(first|(refine mvT ?_;conv=>whnf)|(refine mvF ?_;conv=>whnf)|(refine cT (by rfl) ?_;conv=>whnf)|(refine cF (by rfl) ?_;conv=>whnf)))
      refine cI (by rfl) (fun h3=>?_) (fun h3=>?_)
      · simp at h3
        exact absurd rfl h3
      · ((conv=>whnf);repeat(first|(refine mvT ?_;conv=>whnf)|(refine mvF ?_;conv=>whnf)|(refine cT (by rfl) ?_;conv=>whnf)|(refine cF (by rfl) ?_;conv=>whnf)))
        exact ⟨0 + 1, ⟨rfl, rfl, rfl, inc_eq (by omega), trivial⟩, ⟨hx19.e0 hx10, by omega⟩, by omega⟩
    · obtain ⟨sx, lx, ux, lsx, rfl, hnx, hsx, hlx, hl5x, hrx, hux⟩ := (show TrC w9 G cx (.mk 0 (List.replicate 16 0) false [] []) from hcx).inv
      have hx19 := hx19.e0 (ext_drew _)
      have ho6 := ho6.e0 (ext_drew _)
      have ho9 := ho9.e0 (ext_drew _)
      have hsx := hsx.e0 (ext_drew _)
      ((conv=>whnf);repeat(first|(refine mvT ?_;conv=>whnf)|(refine mvF ?_;conv=>whnf)|(refine cT (by rfl) ?_;conv=>whnf)|(refine cF (by rfl) ?_;conv=>whnf)))
      refine ldS (ho6.cell rfl) ?_;((conv=>whnf);repeat(first|(refine mvT ?_;conv=>whnf)|(refine mvF ?_;conv=>whnf)|(refine cT (by rfl) ?_;conv=>whnf)|(refine cF (by rfl) ?_;conv=>whnf)))
      refine VD.draw mixed (.q 0 (.q 1 (.eff 2 [1] (.eff 3 [] (.q 4 (.done)))))) (by kernel_rfl) ?_;((conv=>whnf);repeat(first|(refine mvT ?_;conv=>whnf)|(refine mvF ?_;conv=>whnf)|(refine cT (by rfl) ?_;conv=>whnf)|(refine cF (by rfl) ?_;conv=>whnf)))
      refine ldS (ho9.cell rfl) ?_;((conv=>whnf);repeat(first|(refine mvT ?_;conv=>whnf)|(refine mvF ?_;conv=>whnf)|(refine cT (by rfl) ?_;conv=>whnf)|(refine cF (by rfl) ?_;conv=>whnf)))
      refine ⟨⟨by omega, by omega, by omega, by decide⟩, ⟨by decide, rfl⟩, ?_⟩
      intro b10 w10 hb10 ho10 hx10
      refine ⟨by (conv => whnf); exact ⟨⟨_, (ho9.e0 hx10).cell rfl, rfl, rfl⟩, trivial⟩, ?_⟩
      ((conv=>whnf);repeat(first|(refine mvT ?_;conv=>whnf)|(refine mvF ?_;conv=>whnf)|(refine cT (by rfl) ?_;conv=>whnf)|(refine cF (by rfl) ?_;conv=>whnf)))
      have hob : OB w10 b10 (.slice (some ⟨b10, 0, none⟩) 16 16) (List.replicate 16 0) := OB.own1 (l := List.replicate 16 0) ho10 rfl (by rw [maxLen_eq]; decide) (Nat.le_refl _)
      refine Does.mono (Same_does (hsx.e0 hx10) hob.bytesAny) ?_
      rintro r11 w11 ⟨rfl, hx11⟩
      ((conv=>whnf);repeat(first|(refine mvT ?_;conv=>whnf)|(refine mvF ?_;conv=>whnf)|(refine cT (by rfl) ?_;conv=>whnf)|(refine cF (by rfl) ?_;conv=>whnf)))
      exact ⟨0 + 1, ⟨rfl, rfl, rfl, inc_eq (by omega), trivial⟩, ⟨(hx19.e0 hx10).e0 hx11, by omega⟩, by omega⟩
    · obtain ⟨sx, lx, ux, lsx, rfl, hnx, hsx, hlx, hl5x, hrx, hux⟩ := (show TrC w9 G cx (.mk 0 [] (decide (0 ≤ nul)) [] []) from hcx).inv
      obtain ⟨ax, kx, rfl, _⟩ := hsx.view
      ((conv=>whnf);repeat(first|(refine mvT ?_;conv=>whnf)|(refine mvF ?_;conv=>whnf)|(refine cT (by rfl) ?_;conv=>whnf)|(refine cF (by rfl) ?_;conv=>whnf)))
      refine ldS (ho6.cell rfl) ?_;((conv=>whnf);repeat(first|(refine mvT ?_;conv=>whnf)|(refine mvF ?_;conv=>whnf)|(refine cT (by rfl) ?_;conv=>whnf)|(refine cF (by rfl) ?_;conv=>whnf)))
      refine ldS (ho9.cell rfl) ?_;((conv=>whnf);repeat(first|(refine mvT ?_;conv=>whnf)|(refine mvF ?_;conv=>whnf)|(refine cT (by rfl) ?_;conv=>whnf)|(refine cF (by rfl) ?_;conv=>whnf)))
      refine ldS (ho6.cell rfl) ?_;((conv=>whnf);repeat(first|(refine mvT ?_;conv=>whnf)|(refine mvF ?_;conv=>whnf)|(refine cT (by rfl) ?_;conv=>whnf)|(refine cF (by rfl) ?_;conv=>whnf)))
      intro c5 h5
      cases c5
      · ((conv=>whnf);repeat(first|(refine mvT ?_;conv=>whnf)|(refine mvF ?_;conv=>whnf)|(refine cT (by rfl) ?_;conv=>whnf)|(refine cF (by rfl) ?_;conv=>whnf)))
        refine ldS (ho9.cell rfl) ?_;((conv=>whnf);repeat(first|(refine mvT ?_;conv=>whnf)|(refine mvF ?_;conv=>whnf)|(refine cT (by rfl) ?_;conv=>whnf)|(refine cF (by rfl) ?_;conv=>whnf)))
        exact ⟨0 + 1, ⟨rfl, rfl, rfl, inc_eq (by omega), trivial⟩, ⟨hx19, by omega⟩, by omega⟩
      · simp at h5
    · obtain ⟨sx, lx, ux, lsx, rfl, hnx, hsx, hlx, hl5x, hrx, hux⟩ := (show TrC w9 G cx (.mk 0 [] true [] []) from hcx).inv
      obtain ⟨ax, kx, rfl, _⟩ := hsx.view
      obtain ⟨al, kl, rfl, _⟩ := hlx.view
      ((conv=>whnf);repeat(first|(refine mvT ?_;conv=>whnf)|(refine mvF ?_;conv=>whnf)|(refine cT (by rfl) ?_;conv=>whnf)|(refine cF (by rfl) ?_;conv=>whnf)))
      refine ldS (ho6.cell rfl) ?_;((conv=>whnf);repeat(first|(refine mvT ?_;conv=>whnf)|(refine mvF ?_;conv=>whnf)|(refine cT (by rfl) ?_;conv=>whnf)|(refine cF (by rfl) ?_;conv=>whnf)))
      refine ldS (ho9.cell rfl) ?_;((conv=>whnf);repeat(first|(refine mvT ?_;conv=>whnf)|(refine mvF ?_;conv=>whnf)|(refine cT (by rfl) ?_;conv=>whnf)|(refine cF (by rfl) ?_;conv=>whnf)))
      refine ldS (ho9.cell rfl) ?_;((conv=>whnf);repeat(first|(refine mvT ?_;conv=>whnf)|(refine mvF ?_;conv=>whnf)|(refine cT (by rfl) ?_;conv=>whnf)|(refine cF (by rfl) ?_;conv=>whnf)))
      obtain rfl : lsx = [] := List.eq_nil_of_length_eq_zero (by simpa using hl5x)
      ((conv=>whnf);repeat(first|(refine mvT ?_;conv=>whnf)|(refine mvF ?_;conv=>whnf)|(refine cT (by rfl) ?_;conv=>whnf)|(refine cF (by rfl) ?_;conv=>whnf)))
      exact ⟨0 + 1, ⟨rfl, rfl, rfl, inc_eq (by omega), trivial⟩, ⟨hx19, by omega⟩, by omega⟩
    · obtain ⟨sx, lx, ux, lsx, rfl, hnx, hsx, hlx, hl5x, hrx, hux⟩ := (show TrC w9 G cx (.mk 0 [] true [] []) from hcx).inv
      obtain ⟨ax, kx, rfl, _⟩ := hsx.view
      obtain ⟨al, kl, rfl, _⟩ := hlx.view
      ((conv=>whnf);repeat(first|(refine mvT ?_;conv=>whnf)|(refine mvF ?_;conv=>whnf)|(refine cT (by rfl) ?_;conv=>whnf)|(refine cF (by rfl) ?_;conv=>whnf)))
      refine ldS (ho6.cell rfl) ?_;((conv=>whnf);repeat(first|(refine mvT ?_;conv=>whnf)|(refine mvF ?_;conv=>whnf)|(refine cT (by rfl) ?_;conv=>whnf)|(refine cF (by rfl) ?_;conv=>whnf)))
      refine ldS (ho9.cell rfl) ?_;((conv=>whnf);repeat(first|(refine mvT ?_;conv=>whnf)|(refine mvF ?_;conv=>whnf)|(refine cT (by rfl) ?_;conv=>whnf)|(refine cF (by rfl) ?_;conv=>whnf)))
      refine ldS (ho9.cell rfl) ?_;((conv=>whnf);repeat(first|(refine mvT ?_;conv=>whnf)|(refine mvF ?_;conv=>whnf)|(refine cT (by rfl) ?_;conv=>whnf)|(refine cF (by rfl) ?_;conv=>whnf)))
      obtain rfl : lsx = [] := List.eq_nil_of_length_eq_zero (by simpa using hl5x)
      ((conv=>whnf);repeat(first|(refine mvT ?_;conv=>whnf)|(refine mvF ?_;conv=>whnf)|(refine cT (by rfl) ?_;conv=>whnf)|(refine cF (by rfl) ?_;conv=>whnf)))
      exact ⟨0 + 1, ⟨rfl, rfl, rfl, inc_eq (by omega), trivial⟩, ⟨hx19, by omega⟩, by omega⟩
    · exact absurd rfl hk
    · have e : dfT (d + 1) (.mk kind fr to nul tag df of sub) = numT (numK kind df) := by
        unfold dfT
        rw [if_neg (show ¬ (Fd.mk kind fr to nul tag df of sub).kind = 7 by show ¬ kind = 7; omega), if_neg (show ¬ (Fd.mk kind fr to nul tag df of sub).kind = 8 by show ¬ kind = 8; omega), if_neg (show ¬ ((Fd.mk kind fr to nul tag df of sub).kind = 9 ∨ (Fd.mk kind fr to nul tag df of sub).kind = 11) by show ¬ (kind = 9 ∨ kind = 11); omega), if_neg (show ¬ (Fd.mk kind fr to nul tag df of sub).kind = 10 by show ¬ kind = 10; omega)]
        rfl
      rw [e] at hcx
      clear e
      rcases hkk with rfl | rfl | rfl | rfl | rfl | rfl
      all_goals
        obtain ⟨sx, lx, ux, lsx, rfl, hnx, hsx, hlx, hl5x, hrx, hux⟩ := (show TrC w9 G cx (.mk (numK _ df) [] false [] []) from hcx).inv
        have hx19 := hx19.e0 (ext_drew _)
        have ho6 := ho6.e0 (ext_drew _)
        have ho9 := ho9.e0 (ext_drew _)
        ((conv=>whnf);repeat(first|(refine mvT ?_;conv=>whnf)|(refine mvF ?_;conv=>whnf)|(refine cT (by rfl) ?_;conv=>whnf)|(refine cF (by rfl) ?_;conv=>whnf)))
        refine ldS (ho6.cell rfl) ?_;((conv=>whnf);repeat(first|(refine mvT ?_;conv=>whnf)|(refine mvF ?_;conv=>whnf)|(refine cT (by rfl) ?_;conv=>whnf)|(refine cF (by rfl) ?_;conv=>whnf)))
        refine VD.draw mixed (.q 0 (.q 1 (.q 2 (.q 3 (.q 4 (.q 5 (.eff 6 [1] (.q 7 (.done))))))))) (by kernel_rfl) ?_;((conv=>whnf);repeat(first|(refine mvT ?_;conv=>whnf)|(refine mvF ?_;conv=>whnf)|(refine cT (by rfl) ?_;conv=>whnf)|(refine cF (by rfl) ?_;conv=>whnf)))
        refine ldS (ho9.cell rfl) ?_;((conv=>whnf);repeat(first|(refine mvT ?_;conv=>whnf)|(refine mvF ?_;conv=>whnf)|(refine cT (by rfl) ?_;conv=>whnf)|(refine cF (by rfl) ?_;conv=>whnf)))
        refine ldS (ho6.cell rfl) ?_;((conv=>whnf);repeat(first|(refine mvT ?_;conv=>whnf)|(refine mvF ?_;conv=>whnf)|(refine cT (by rfl) ?_;conv=>whnf)|(refine cF (by rfl) ?_;conv=>whnf)))
        refine ldS (ho6.cell rfl) ?_;((conv=>whnf);repeat(first|(refine mvT ?_;conv=>whnf)|(refine mvF ?_;conv=>whnf)|(refine cT (by rfl) ?_;conv=>whnf)|(refine cF (by rfl) ?_;conv=>whnf)))
        refine Does.mono (number_does ⟨by omega, by omega⟩ hdf _) ?_
        rintro r10 w10 ⟨rfl, hx10⟩
        refine ⟨by (conv => whnf); exact ⟨⟨_, (ho9.e0 hx10).cell rfl, rfl, rfl⟩, trivial⟩, ?_⟩
        ((conv=>whnf);repeat(first|(refine mvT ?_;conv=>whnf)|(refine mvF ?_;conv=>whnf)|(refine cT (by rfl) ?_;conv=>whnf)|(refine cF (by rfl) ?_;conv=>whnf)))
        refine cI (by rfl) (fun h3=>?_) (fun h3=>?_)
        · simp at h3
          exact absurd rfl h3
        · ((conv=>whnf);repeat(first|(refine mvT ?_;conv=>whnf)|(refine mvF ?_;conv=>whnf)|(refine cT (by rfl) ?_;conv=>whnf)|(refine cF (by rfl) ?_;conv=>whnf)))
          exact ⟨0 + 1, ⟨rfl, rfl, rfl, inc_eq (by omega), trivial⟩, ⟨hx19.e0 hx10, by omega⟩, by omega⟩
  · have hil : i = fl.length := by have := of_decide_eq_false h1; omega
    ((conv=>whnf);repeat(first|(refine mvT ?_;conv=>whnf)|(refine mvF ?_;conv=>whnf)|(refine cT (by rfl) ?_;conv=>whnf)|(refine cF (by rfl) ?_;conv=>whnf)))
    exact ⟨rfl, hx.e0 hx2⟩
end Go.Proofs.YtgajnmbjchdioaaDoor.K
/-! spec.Told says yes of what is told by the plain law. -/
set_option linter.unusedVariables false
set_option linter.unusedSimpArgs false
namespace Go.Proofs.YtgajnmbjchdioaaDoor.K
open Go
set_option maxHeartbeats 1600000

theorem Flexible2_does {w : World} {a : Option Addr} {n c : Nat} {fl v : Int} : Does X.P 9 #[.agg #[.slice a n c, .int .i64 fl], .int .i64 v] w fun r w' => r = .bool (flexB fl v) ∧ Ext nob w w' := by
  refine Does.go (X := X) (l := [_, _]) Tryd.func9 rfl (by kernel_rfl) (by kernel_rfl) _ rfl ?_
  ((conv=>whnf);repeat(first|(refine mvT ?_;conv=>whnf)|(refine mvF ?_;conv=>whnf)|(refine cT (by rfl) ?_;conv=>whnf)|(refine cF (by rfl) ?_;conv=>whnf)))
  intro b w1 hb ho hx
  ((conv=>whnf);repeat(first|(refine mvT ?_;conv=>whnf)|(refine mvF ?_;conv=>whnf)|(refine cT (by rfl) ?_;conv=>whnf)|(refine cF (by rfl) ?_;conv=>whnf)))
  have ho : Own w1 b 30 [.slice a n c, .int .i64 fl] := ho
  refine ldS (ho.cell rfl) ?_;((conv=>whnf);repeat(first|(refine mvT ?_;conv=>whnf)|(refine mvF ?_;conv=>whnf)|(refine cT (by rfl) ?_;conv=>whnf)|(refine cF (by rfl) ?_;conv=>whnf)))
  intro cq hcq
  cases cq with
  | true =>
    ((conv=>whnf);repeat(first|(refine mvT ?_;conv=>whnf)|(refine mvF ?_;conv=>whnf)|(refine cT (by rfl) ?_;conv=>whnf)|(refine cF (by rfl) ?_;conv=>whnf)))
    refine ldS (ho.cell rfl) ?_;((conv=>whnf);repeat(first|(refine mvT ?_;conv=>whnf)|(refine mvF ?_;conv=>whnf)|(refine cT (by rfl) ?_;conv=>whnf)|(refine cF (by rfl) ?_;conv=>whnf)))
    refine ⟨?_, hx⟩
    have h0 : 0 ≤ fl := by have := of_decide_eq_true hcq; omega
    show Value.bool (decide (v ≥ fl)) = Value.bool (flexB fl v)
    simp [flexB, h0]
  | false =>
    ((conv=>whnf);repeat(first|(refine mvT ?_;conv=>whnf)|(refine mvF ?_;conv=>whnf)|(refine cT (by rfl) ?_;conv=>whnf)|(refine cF (by rfl) ?_;conv=>whnf)))
    refine ⟨?_, hx⟩
    have h0 : ¬ 0 ≤ fl := by have := of_decide_eq_false hcq; omega
    show Value.bool false = Value.bool (flexB fl v)
    simp [flexB, h0]
/-- What told and Told ask of descriptions. -/
structure Dok (d : Nat) (fs : List Fd) : Prop where
  f : ∀ g, g ∈ fs → okF d g = true
  t : ∀ g, g ∈ fs → ntF d g = true
  w : ∀ g, g ∈ fs → okW d g = true
  n : ∀ g, g ∈ fs → okN d g = true
  l : fs.length ≤ 1000
/-- The same tree with another number of its own (which Told does not look at). -/
def withN (k : Int) : T → T | .mk _ s nl l u => .mk k s nl l u
def TldP (d : Nat) : Prop := ∀ {F G G' : Nat → Prop} {w : World} {y x z : Value} {fs : List Fd} {t : T} {v : Int} {fx : Bool} {k : Int}, FdsR w F y fs → Tr w G x t → Tr w G' z (withN k (toPart d v fx fs t)) → Dok d fs → 0 ≤ v →
  Does X.P 8 #[y, .int .i64 v, .bool fx, x, z] w fun r w' => r = .bool true ∧ Ext nob w w'
theorem TrC.inv2 {w : World} {F : Nat → Prop} {zn n : Int} {zsv zlv zuv : Value} {znl nl : Bool} {s : List UInt8} {l : List T} {u : List Tg} (h : TrC w F [.int .i64 zn, zsv, .bool znl, zlv, zuv] (.mk n s nl l u)) :
    zn = n ∧ znl = nl ∧ Bytes w F zsv s ∧ ∃ ls, SlE w F 5 zlv ls ∧ ls.length = l.length ∧ (∀ (i : Nat) (c : List Value) (t : T), ls[i]? = some c → l[i]? = some t → TrC w F c t) ∧ TgsR w F zuv u := by
  obtain ⟨sv, lv, uv, ls, e, h1, h2, h3, h4, h5, h6⟩ := h.inv
  simp only [List.cons.injEq, Value.int.injEq, Value.bool.injEq, true_and, and_true] at e
  obtain ⟨rfl, rfl, rfl, rfl, rfl⟩ := e
  exact ⟨rfl, rfl, h2, ls, h3, h4, h5, h6⟩
theorem TrC.five {w : World} {F : Nat → Prop} {c : List Value} {t : T} (h : TrC w F c t) : ∃ n sv nl lv uv, c = [.int .i64 n, sv, .bool nl, lv, uv] := by cases h; exact ⟨_, _, _, _, _, rfl⟩
theorem nullF_lt {kind fr to nul tag df of : Int} {sub : List Fd} {v : Int} {t : T} (h : nul < 0) : nullF (.mk kind fr to nul tag df of sub) v t = false := by
  unfold nullF
  rw [show decide (0 ≤ (Fd.mk kind fr to nul tag df of sub).nul) = false from decide_eq_false (by show ¬ 0 ≤ nul; omega), Bool.false_and, Bool.and_false]
theorem Els.tr {w : World} {F : Nat → Prop} {ls : List (List Value)} {l : List T} (h : ∀ (i : Nat) (c : List Value) (t : T), ls[i]? = some c → l[i]? = some t → TrC w F c t) : True := trivial
theorem told_value {d : Nat} (hp : TldP d) {F G G' : Nat → Prop} {w : World} {c : List Value} {x z : Value} {kind fr to nul tag df of : Int} {sub : List Fd} {t : T} {v : Int} {fx nb : Bool} (hf : FdC w F c (.mk kind fr to nul tag df of sub)) (ht : Tr w G x t) (hz : Tr w G' z (toV (fun sub t => toPart d v fx sub t) kind sub nb t))
    (hk : 0 ≤ kind ∧ kind ≤ 10) (hnb : nullF (.mk kind fr to nul tag df of sub) v t = nb) (hn8 : kind = 8 ∨ nul < 0) (hsub : Dok d sub) (hv : 0 ≤ v) :
    Does X.P 20 #[.agg c.toArray, .int .i64 v, .bool fx, x, z] w fun r w' => r = .bool true ∧ Ext nob w w' := by
  have hf0 := hf
  cases hf
  rename_i sv ls hl hlen2 hr
  have hfr : FdsR w F sv sub := ⟨ls, hl, hlen2, hr⟩
  obtain ⟨ct, rfl, ht0⟩ := id ht
  obtain ⟨n, s, nl, l, u⟩ := t
  obtain ⟨sv', lv, uv, ls', rfl, hn, hs', hl', hlen', hr', hu⟩ := ht0.inv
  obtain ⟨cz, rfl, hz0⟩ := id hz
  obtain ⟨zn, zsv, znl, zlv, zuv, rfl⟩ := hz0.five
  refine Does.go (X := X) (l := [_, _, _, _, _]) Tryd.func20 rfl (by kernel_rfl) (by kernel_rfl) _ rfl ?_
  ((conv=>whnf);repeat(first|(refine mvT ?_;conv=>whnf)|(refine mvF ?_;conv=>whnf)|(refine cT (by rfl) ?_;conv=>whnf)|(refine cF (by rfl) ?_;conv=>whnf)))
  intro b w1 hb ho hx
  ((conv=>whnf);repeat(first|(refine mvT ?_;conv=>whnf)|(refine mvF ?_;conv=>whnf)|(refine cT (by rfl) ?_;conv=>whnf)|(refine cF (by rfl) ?_;conv=>whnf)))
  intro b2 w2 hb2 ho2 hx2
  ((conv=>whnf);repeat(first|(refine mvT ?_;conv=>whnf)|(refine mvF ?_;conv=>whnf)|(refine cT (by rfl) ?_;conv=>whnf)|(refine cF (by rfl) ?_;conv=>whnf)))
  intro b3 w3 hb3 ho3 hx3
  ((conv=>whnf);repeat(first|(refine mvT ?_;conv=>whnf)|(refine mvF ?_;conv=>whnf)|(refine cT (by rfl) ?_;conv=>whnf)|(refine cF (by rfl) ?_;conv=>whnf)))
  have ho := (ho.e0 hx2).e0 hx3
  have ho2 := ho2.e0 hx3
  have hx := (hx.e0 hx2).e0 hx3
  refine ⟨_, rfl, ho.cells, ?_⟩
  ((conv=>whnf);repeat(first|(refine mvT ?_;conv=>whnf)|(refine mvF ?_;conv=>whnf)|(refine cT (by rfl) ?_;conv=>whnf)|(refine cF (by rfl) ?_;conv=>whnf)))
  refine ⟨_, rfl, ho2.cells, ?_⟩
  ((conv=>whnf);repeat(first|(refine mvT ?_;conv=>whnf)|(refine mvF ?_;conv=>whnf)|(refine cT (by rfl) ?_;conv=>whnf)|(refine cF (by rfl) ?_;conv=>whnf)))
  refine Does.mono (null_does (hf0.e0 hx) (ht.e0 hx) v) ?_
  rintro r4 w4 ⟨rfl, hx4⟩
  rw [hnb]
  have ho := ho.e0 hx4
  have ho2 := ho2.e0 hx4
  have ho3 := ho3.e0 hx4
  have hx := hx.e0 hx4
  ((conv=>whnf);repeat(first|(refine mvT ?_;conv=>whnf)|(refine mvF ?_;conv=>whnf)|(refine cT (by rfl) ?_;conv=>whnf)|(refine cF (by rfl) ?_;conv=>whnf)))
  refine ldS (ho.cell rfl) ?_;((conv=>whnf);repeat(first|(refine mvT ?_;conv=>whnf)|(refine mvF ?_;conv=>whnf)|(refine cT (by rfl) ?_;conv=>whnf)|(refine cF (by rfl) ?_;conv=>whnf)))
  intro c5 h5
  rcases kinds kind ⟨hk.1, by omega⟩ with rfl | rfl | rfl | rfl | rfl | rfl | hk
  · have hn8 : nul < 0 := by omega
    cases c5
    rotate_left
    · exact absurd (of_decide_eq_true h5) (by omega)
    obtain rfl : nb = false := hnb.symm.trans (nullF_lt hn8)
    ((conv=>whnf);repeat(first|(refine mvT ?_;conv=>whnf)|(refine mvF ?_;conv=>whnf)|(refine cT (by rfl) ?_;conv=>whnf)|(refine cF (by rfl) ?_;conv=>whnf)))
    obtain ⟨rfl, rfl, hzs, _⟩ := (show TrC w G' _ (.mk (numK 0 n) [] false [] []) from hz0).inv2
    have hod := ho.e0 (ext_drew _)
    have hod2 := ho2.e0 (ext_drew _)
    have hod3 := ho3.e0 (ext_drew _)
    refine ldS (ho.cell rfl) ?_;((conv=>whnf);repeat(first|(refine mvT ?_;conv=>whnf)|(refine mvF ?_;conv=>whnf)|(refine cT (by rfl) ?_;conv=>whnf)|(refine cF (by rfl) ?_;conv=>whnf)))
    refine ldS (ho.cell rfl) ?_;((conv=>whnf);repeat(first|(refine mvT ?_;conv=>whnf)|(refine mvF ?_;conv=>whnf)|(refine cT (by rfl) ?_;conv=>whnf)|(refine cF (by rfl) ?_;conv=>whnf)))
    refine ldS (ho.cell rfl) ?_;((conv=>whnf);repeat(first|(refine mvT ?_;conv=>whnf)|(refine mvF ?_;conv=>whnf)|(refine cT (by rfl) ?_;conv=>whnf)|(refine cF (by rfl) ?_;conv=>whnf)))
    refine VD.draw mixed (.q 0 (.q 1 (.q 2 (.q 3 (.q 4 (.q 5 (.eff 6 [1] (.q 7 (.eff 8 [] (.done)))))))))) (by kernel_rfl) ?_;((conv=>whnf);repeat(first|(refine mvT ?_;conv=>whnf)|(refine mvF ?_;conv=>whnf)|(refine cT (by rfl) ?_;conv=>whnf)|(refine cF (by rfl) ?_;conv=>whnf)))
    refine ldS (hod3.cell rfl) ?_;((conv=>whnf);repeat(first|(refine mvT ?_;conv=>whnf)|(refine mvF ?_;conv=>whnf)|(refine cT (by rfl) ?_;conv=>whnf)|(refine cF (by rfl) ?_;conv=>whnf)))
    refine ldS (hod.cell rfl) ?_;((conv=>whnf);repeat(first|(refine mvT ?_;conv=>whnf)|(refine mvF ?_;conv=>whnf)|(refine cT (by rfl) ?_;conv=>whnf)|(refine cF (by rfl) ?_;conv=>whnf)))
    refine ldS (hod2.cell rfl) ?_;((conv=>whnf);repeat(first|(refine mvT ?_;conv=>whnf)|(refine mvF ?_;conv=>whnf)|(refine cT (by rfl) ?_;conv=>whnf)|(refine cF (by rfl) ?_;conv=>whnf)))
    refine Does.mono (number_does ⟨by omega, by omega⟩ hn _) ?_
    rintro r5 w5 ⟨rfl, hx5⟩
    refine ⟨by (conv => whnf); exact ⟨⟨_, (hod3.e0 hx5).cell rfl, rfl, rfl⟩, trivial⟩, ?_⟩
    ((conv=>whnf);repeat(first|(refine mvT ?_;conv=>whnf)|(refine mvF ?_;conv=>whnf)|(refine cT (by rfl) ?_;conv=>whnf)|(refine cF (by rfl) ?_;conv=>whnf)))
    exact ⟨by simp [oneOr], (hx.e0 (ext_drew _)).e0 hx5⟩
  · have hn8 : nul < 0 := by omega
    cases c5
    rotate_left
    · exact absurd (of_decide_eq_true h5) (by omega)
    obtain rfl : nb = false := hnb.symm.trans (nullF_lt hn8)
    ((conv=>whnf);repeat(first|(refine mvT ?_;conv=>whnf)|(refine mvF ?_;conv=>whnf)|(refine cT (by rfl) ?_;conv=>whnf)|(refine cF (by rfl) ?_;conv=>whnf)))
    obtain ⟨rfl, rfl, hzs, _⟩ := (show TrC w G' _ (.mk 0 (uuidB s) false [] []) from hz0).inv2
    refine ldS (ho.cell rfl) ?_;((conv=>whnf);repeat(first|(refine mvT ?_;conv=>whnf)|(refine mvF ?_;conv=>whnf)|(refine cT (by rfl) ?_;conv=>whnf)|(refine cF (by rfl) ?_;conv=>whnf)))
    refine ldS (ho.cell rfl) ?_;((conv=>whnf);repeat(first|(refine mvT ?_;conv=>whnf)|(refine mvF ?_;conv=>whnf)|(refine cT (by rfl) ?_;conv=>whnf)|(refine cF (by rfl) ?_;conv=>whnf)))
    refine ldS (ho.cell rfl) ?_;((conv=>whnf);repeat(first|(refine mvT ?_;conv=>whnf)|(refine mvF ?_;conv=>whnf)|(refine cT (by rfl) ?_;conv=>whnf)|(refine cF (by rfl) ?_;conv=>whnf)))
    refine ⟨⟨by omega, by omega, by omega, by decide⟩, ⟨by decide, rfl⟩, ?_⟩
    intro b5 w5 hb5 ho5 hx5
    ((conv=>whnf);repeat(first|(refine mvT ?_;conv=>whnf)|(refine mvF ?_;conv=>whnf)|(refine cT (by rfl) ?_;conv=>whnf)|(refine cF (by rfl) ?_;conv=>whnf)))
    refine ldS ((ho2.e0 hx5).cell rfl) ?_;((conv=>whnf);repeat(first|(refine mvT ?_;conv=>whnf)|(refine mvF ?_;conv=>whnf)|(refine cT (by rfl) ?_;conv=>whnf)|(refine cF (by rfl) ?_;conv=>whnf)))
    refine ⟨_, _, _, _, ho5, ((hs'.e0 hx).e0 hx5).src, okCells_bytes s, by decide, ?_⟩
    intro w6 ho6 hx6
    ((conv=>whnf);repeat(first|(refine mvT ?_;conv=>whnf)|(refine mvF ?_;conv=>whnf)|(refine cT (by rfl) ?_;conv=>whnf)|(refine cF (by rfl) ?_;conv=>whnf)))
    have hx46 := hx5.st hx6 hb5
    have ho6 : Own w6 b5 U8 ((uuidB s).map bcell) := by
      rw [← uuid_cells]
      exact ho6
    refine ldS ((ho3.e0 hx46).cell rfl) ?_;((conv=>whnf);repeat(first|(refine mvT ?_;conv=>whnf)|(refine mvF ?_;conv=>whnf)|(refine cT (by rfl) ?_;conv=>whnf)|(refine cF (by rfl) ?_;conv=>whnf)))
    have hob : OB w6 b5 (.slice (some ⟨b5, 0, none⟩) 16 16) (uuidB s) := OB.own1 ho6 (by simp [uuidB]) (by rw [maxLen_eq]; decide) (Nat.le_refl _)
    refine Does.mono (Same_does ((hzs.e0 hx).e0 hx46) hob.bytesAny) ?_
    rintro r7 w7 ⟨rfl, hx7⟩
    ((conv=>whnf);repeat(first|(refine mvT ?_;conv=>whnf)|(refine mvF ?_;conv=>whnf)|(refine cT (by rfl) ?_;conv=>whnf)|(refine cF (by rfl) ?_;conv=>whnf)))
    exact ⟨by simp [oneOr], (hx.e0 hx46).e0 hx7⟩
  · cases nb
    · obtain ⟨rfl, rfl, hzs, _⟩ := (show TrC w G' _ (.mk 0 (s.take most) false [] []) from hz0).inv2
      cases c5
      · ((conv=>whnf);repeat(first|(refine mvT ?_;conv=>whnf)|(refine mvF ?_;conv=>whnf)|(refine cT (by rfl) ?_;conv=>whnf)|(refine cF (by rfl) ?_;conv=>whnf)))
        refine ldS (ho.cell rfl) ?_;((conv=>whnf);repeat(first|(refine mvT ?_;conv=>whnf)|(refine mvF ?_;conv=>whnf)|(refine cT (by rfl) ?_;conv=>whnf)|(refine cF (by rfl) ?_;conv=>whnf)))
        refine ldS (ho3.cell rfl) ?_;((conv=>whnf);repeat(first|(refine mvT ?_;conv=>whnf)|(refine mvF ?_;conv=>whnf)|(refine cT (by rfl) ?_;conv=>whnf)|(refine cF (by rfl) ?_;conv=>whnf)))
        refine ldS (ho.cell rfl) ?_;((conv=>whnf);repeat(first|(refine mvT ?_;conv=>whnf)|(refine mvF ?_;conv=>whnf)|(refine cT (by rfl) ?_;conv=>whnf)|(refine cF (by rfl) ?_;conv=>whnf)))
        have hod2 := ho2.e0 (ext_drew _)
        have hod3 := ho3.e0 (ext_drew _)
        have hxd := hx.e0 (ext_drew _)
        refine VD.draw mixed (.q 0 (.q 1 (.q 2 (.q 3 (.eff 4 [1] (.eff 5 [] (.eff 6 [] (.done)))))))) (by kernel_rfl) ?_;((conv=>whnf);repeat(first|(refine mvT ?_;conv=>whnf)|(refine mvF ?_;conv=>whnf)|(refine cT (by rfl) ?_;conv=>whnf)|(refine cF (by rfl) ?_;conv=>whnf)))
        refine ldS (hod3.cell rfl) ?_;((conv=>whnf);repeat(first|(refine mvT ?_;conv=>whnf)|(refine mvF ?_;conv=>whnf)|(refine cT (by rfl) ?_;conv=>whnf)|(refine cF (by rfl) ?_;conv=>whnf)))
        refine ldS (hod2.cell rfl) ?_;((conv=>whnf);repeat(first|(refine mvT ?_;conv=>whnf)|(refine mvF ?_;conv=>whnf)|(refine cT (by rfl) ?_;conv=>whnf)|(refine cF (by rfl) ?_;conv=>whnf)))
        refine Does.mono (whole_does (hs'.e0 hxd)) ?_
        rintro r5 w5 ⟨hr5, rfl⟩
        refine ⟨by (conv => whnf); exact ⟨⟨_, hod3.cell rfl, rfl, rfl⟩, trivial⟩, ?_⟩
        ((conv=>whnf);repeat(first|(refine mvT ?_;conv=>whnf)|(refine mvF ?_;conv=>whnf)|(refine cT (by rfl) ?_;conv=>whnf)|(refine cF (by rfl) ?_;conv=>whnf)))
        refine Does.mono (Same_does (hzs.e0 hxd) hr5) ?_
        rintro r6 w6 ⟨rfl, hx6⟩
        ((conv=>whnf);repeat(first|(refine mvT ?_;conv=>whnf)|(refine mvF ?_;conv=>whnf)|(refine cT (by rfl) ?_;conv=>whnf)|(refine cF (by rfl) ?_;conv=>whnf)))
        exact ⟨by simp [oneOr], hxd.e0 hx6⟩
      · ((conv=>whnf);repeat(first|(refine mvT ?_;conv=>whnf)|(refine mvF ?_;conv=>whnf)|(refine cT (by rfl) ?_;conv=>whnf)|(refine cF (by rfl) ?_;conv=>whnf)))
        refine ldS (ho.cell rfl) ?_;((conv=>whnf);repeat(first|(refine mvT ?_;conv=>whnf)|(refine mvF ?_;conv=>whnf)|(refine cT (by rfl) ?_;conv=>whnf)|(refine cF (by rfl) ?_;conv=>whnf)))
        refine ldS (ho.cell rfl) ?_;((conv=>whnf);repeat(first|(refine mvT ?_;conv=>whnf)|(refine mvF ?_;conv=>whnf)|(refine cT (by rfl) ?_;conv=>whnf)|(refine cF (by rfl) ?_;conv=>whnf)))
        refine ldS (ho3.cell rfl) ?_;((conv=>whnf);repeat(first|(refine mvT ?_;conv=>whnf)|(refine mvF ?_;conv=>whnf)|(refine cT (by rfl) ?_;conv=>whnf)|(refine cF (by rfl) ?_;conv=>whnf)))
        refine ldS (ho.cell rfl) ?_;((conv=>whnf);repeat(first|(refine mvT ?_;conv=>whnf)|(refine mvF ?_;conv=>whnf)|(refine cT (by rfl) ?_;conv=>whnf)|(refine cF (by rfl) ?_;conv=>whnf)))
        have hod2 := ho2.e0 (ext_drew _)
        have hod3 := ho3.e0 (ext_drew _)
        have hxd := hx.e0 (ext_drew _)
        refine VD.draw mixed (.q 0 (.q 1 (.q 2 (.q 3 (.eff 4 [1] (.eff 5 [] (.eff 6 [] (.done)))))))) (by kernel_rfl) ?_;((conv=>whnf);repeat(first|(refine mvT ?_;conv=>whnf)|(refine mvF ?_;conv=>whnf)|(refine cT (by rfl) ?_;conv=>whnf)|(refine cF (by rfl) ?_;conv=>whnf)))
        refine ldS (hod3.cell rfl) ?_;((conv=>whnf);repeat(first|(refine mvT ?_;conv=>whnf)|(refine mvF ?_;conv=>whnf)|(refine cT (by rfl) ?_;conv=>whnf)|(refine cF (by rfl) ?_;conv=>whnf)))
        refine ldS (hod2.cell rfl) ?_;((conv=>whnf);repeat(first|(refine mvT ?_;conv=>whnf)|(refine mvF ?_;conv=>whnf)|(refine cT (by rfl) ?_;conv=>whnf)|(refine cF (by rfl) ?_;conv=>whnf)))
        refine Does.mono (whole_does (hs'.e0 hxd)) ?_
        rintro r5 w5 ⟨hr5, rfl⟩
        refine ⟨by (conv => whnf); exact ⟨⟨_, hod3.cell rfl, rfl, rfl⟩, trivial⟩, ?_⟩
        ((conv=>whnf);repeat(first|(refine mvT ?_;conv=>whnf)|(refine mvF ?_;conv=>whnf)|(refine cT (by rfl) ?_;conv=>whnf)|(refine cF (by rfl) ?_;conv=>whnf)))
        refine Does.mono (Same_does (hzs.e0 hxd) hr5) ?_
        rintro r6 w6 ⟨rfl, hx6⟩
        ((conv=>whnf);repeat(first|(refine mvT ?_;conv=>whnf)|(refine mvF ?_;conv=>whnf)|(refine cT (by rfl) ?_;conv=>whnf)|(refine cF (by rfl) ?_;conv=>whnf)))
        exact ⟨by simp [oneOr], hxd.e0 hx6⟩
    · obtain ⟨rfl, rfl, hzs, _⟩ := (show TrC w G' _ (.mk 0 [] true [] []) from hz0).inv2
      cases c5
      · ((conv=>whnf);repeat(first|(refine mvT ?_;conv=>whnf)|(refine mvF ?_;conv=>whnf)|(refine cT (by rfl) ?_;conv=>whnf)|(refine cF (by rfl) ?_;conv=>whnf)))
        refine ldS (ho.cell rfl) ?_;((conv=>whnf);repeat(first|(refine mvT ?_;conv=>whnf)|(refine mvF ?_;conv=>whnf)|(refine cT (by rfl) ?_;conv=>whnf)|(refine cF (by rfl) ?_;conv=>whnf)))
        refine ldS (ho3.cell rfl) ?_;((conv=>whnf);repeat(first|(refine mvT ?_;conv=>whnf)|(refine mvF ?_;conv=>whnf)|(refine cT (by rfl) ?_;conv=>whnf)|(refine cF (by rfl) ?_;conv=>whnf)))
        exact ⟨rfl, hx⟩
      · ((conv=>whnf);repeat(first|(refine mvT ?_;conv=>whnf)|(refine mvF ?_;conv=>whnf)|(refine cT (by rfl) ?_;conv=>whnf)|(refine cF (by rfl) ?_;conv=>whnf)))
        refine ldS (ho.cell rfl) ?_;((conv=>whnf);repeat(first|(refine mvT ?_;conv=>whnf)|(refine mvF ?_;conv=>whnf)|(refine cT (by rfl) ?_;conv=>whnf)|(refine cF (by rfl) ?_;conv=>whnf)))
        refine ldS (ho.cell rfl) ?_;((conv=>whnf);repeat(first|(refine mvT ?_;conv=>whnf)|(refine mvF ?_;conv=>whnf)|(refine cT (by rfl) ?_;conv=>whnf)|(refine cF (by rfl) ?_;conv=>whnf)))
        refine ldS (ho3.cell rfl) ?_;((conv=>whnf);repeat(first|(refine mvT ?_;conv=>whnf)|(refine mvF ?_;conv=>whnf)|(refine cT (by rfl) ?_;conv=>whnf)|(refine cF (by rfl) ?_;conv=>whnf)))
        exact ⟨rfl, hx⟩
  · have hn8 : nul < 0 := by omega
    cases c5
    rotate_left
    · exact absurd (of_decide_eq_true h5) (by omega)
    obtain rfl : nb = false := hnb.symm.trans (nullF_lt hn8)
    ((conv=>whnf);repeat(first|(refine mvT ?_;conv=>whnf)|(refine mvF ?_;conv=>whnf)|(refine cT (by rfl) ?_;conv=>whnf)|(refine cF (by rfl) ?_;conv=>whnf)))
    obtain ⟨rfl, rfl, hzs, _⟩ := (show TrC w G' _ (.mk 0 (s.take most) false [] []) from hz0).inv2
    refine ldS (ho.cell rfl) ?_;((conv=>whnf);repeat(first|(refine mvT ?_;conv=>whnf)|(refine mvF ?_;conv=>whnf)|(refine cT (by rfl) ?_;conv=>whnf)|(refine cF (by rfl) ?_;conv=>whnf)))
    refine ldS (ho.cell rfl) ?_;((conv=>whnf);repeat(first|(refine mvT ?_;conv=>whnf)|(refine mvF ?_;conv=>whnf)|(refine cT (by rfl) ?_;conv=>whnf)|(refine cF (by rfl) ?_;conv=>whnf)))
    refine ldS (ho.cell rfl) ?_;((conv=>whnf);repeat(first|(refine mvT ?_;conv=>whnf)|(refine mvF ?_;conv=>whnf)|(refine cT (by rfl) ?_;conv=>whnf)|(refine cF (by rfl) ?_;conv=>whnf)))
    have hod2 := ho2.e0 (ext_drew _)
    have hod3 := ho3.e0 (ext_drew _)
    have hxd := hx.e0 (ext_drew _)
    refine VD.draw mixed (.q 0 (.q 1 (.q 2 (.q 3 (.eff 4 [1] (.eff 5 [] (.eff 6 [] (.done)))))))) (by kernel_rfl) ?_;((conv=>whnf);repeat(first|(refine mvT ?_;conv=>whnf)|(refine mvF ?_;conv=>whnf)|(refine cT (by rfl) ?_;conv=>whnf)|(refine cF (by rfl) ?_;conv=>whnf)))
    refine ldS (hod3.cell rfl) ?_;((conv=>whnf);repeat(first|(refine mvT ?_;conv=>whnf)|(refine mvF ?_;conv=>whnf)|(refine cT (by rfl) ?_;conv=>whnf)|(refine cF (by rfl) ?_;conv=>whnf)))
    refine ldS (hod2.cell rfl) ?_;((conv=>whnf);repeat(first|(refine mvT ?_;conv=>whnf)|(refine mvF ?_;conv=>whnf)|(refine cT (by rfl) ?_;conv=>whnf)|(refine cF (by rfl) ?_;conv=>whnf)))
    refine Does.mono (whole_does (hs'.e0 hxd)) ?_
    rintro r5 w5 ⟨hr5, rfl⟩
    refine ⟨by (conv => whnf); exact ⟨⟨_, hod3.cell rfl, rfl, rfl⟩, trivial⟩, ?_⟩
    ((conv=>whnf);repeat(first|(refine mvT ?_;conv=>whnf)|(refine mvF ?_;conv=>whnf)|(refine cT (by rfl) ?_;conv=>whnf)|(refine cF (by rfl) ?_;conv=>whnf)))
    refine Does.mono (Same_does (hzs.e0 hxd) hr5) ?_
    rintro r6 w6 ⟨rfl, hx6⟩
    ((conv=>whnf);repeat(first|(refine mvT ?_;conv=>whnf)|(refine mvF ?_;conv=>whnf)|(refine cT (by rfl) ?_;conv=>whnf)|(refine cF (by rfl) ?_;conv=>whnf)))
    exact ⟨by simp [oneOr], hxd.e0 hx6⟩
  · omega
  · have hn8 : nul < 0 := by omega
    cases c5
    rotate_left
    · exact absurd (of_decide_eq_true h5) (by omega)
    obtain rfl : nb = false := hnb.symm.trans (nullF_lt hn8)
    ((conv=>whnf);repeat(first|(refine mvT ?_;conv=>whnf)|(refine mvF ?_;conv=>whnf)|(refine cT (by rfl) ?_;conv=>whnf)|(refine cF (by rfl) ?_;conv=>whnf)))
    have hz1 : TrC w G' _ (toPart d v fx sub (.mk n s nl l u)) := hz0
    obtain ⟨_, rfl, _⟩ := (show TrC w G' _ (.mk 0 [] false _ _) from hz1).inv2
    refine ldS (ho.cell rfl) ?_;((conv=>whnf);repeat(first|(refine mvT ?_;conv=>whnf)|(refine mvF ?_;conv=>whnf)|(refine cT (by rfl) ?_;conv=>whnf)|(refine cF (by rfl) ?_;conv=>whnf)))
    refine ldS (ho.cell rfl) ?_;((conv=>whnf);repeat(first|(refine mvT ?_;conv=>whnf)|(refine mvF ?_;conv=>whnf)|(refine cT (by rfl) ?_;conv=>whnf)|(refine cF (by rfl) ?_;conv=>whnf)))
    refine ldS (ho3.cell rfl) ?_;((conv=>whnf);repeat(first|(refine mvT ?_;conv=>whnf)|(refine mvF ?_;conv=>whnf)|(refine cT (by rfl) ?_;conv=>whnf)|(refine cF (by rfl) ?_;conv=>whnf)))
    refine ldS (ho.cell rfl) ?_;((conv=>whnf);repeat(first|(refine mvT ?_;conv=>whnf)|(refine mvF ?_;conv=>whnf)|(refine cT (by rfl) ?_;conv=>whnf)|(refine cF (by rfl) ?_;conv=>whnf)))
    refine ldS (ho.cell rfl) ?_;((conv=>whnf);repeat(first|(refine mvT ?_;conv=>whnf)|(refine mvF ?_;conv=>whnf)|(refine cT (by rfl) ?_;conv=>whnf)|(refine cF (by rfl) ?_;conv=>whnf)))
    (refine mvB ?_;((conv=>whnf);repeat(first|(refine mvT ?_;conv=>whnf)|(refine mvF ?_;conv=>whnf)|(refine cT (by rfl) ?_;conv=>whnf)|(refine cF (by rfl) ?_;conv=>whnf))))
    refine ⟨_, rfl, ho2.cells, ?_⟩
    ((conv=>whnf);repeat(first|(refine mvT ?_;conv=>whnf)|(refine mvF ?_;conv=>whnf)|(refine cT (by rfl) ?_;conv=>whnf)|(refine cF (by rfl) ?_;conv=>whnf)))
    refine ⟨_, rfl, ho3.cells, ?_⟩
    ((conv=>whnf);repeat(first|(refine mvT ?_;conv=>whnf)|(refine mvF ?_;conv=>whnf)|(refine cT (by rfl) ?_;conv=>whnf)|(refine cF (by rfl) ?_;conv=>whnf)))
    refine Does.mono (hp (k := 0) (hfr.e0 hx) (ht.e0 hx) ⟨_, rfl, hz1.e0 hx⟩ hsub hv) ?_
    rintro r5 w5 ⟨rfl, hx5⟩
    ((conv=>whnf);repeat(first|(refine mvT ?_;conv=>whnf)|(refine mvF ?_;conv=>whnf)|(refine cT (by rfl) ?_;conv=>whnf)|(refine cF (by rfl) ?_;conv=>whnf)))
    exact ⟨rfl, hx.e0 hx5⟩
  · have hn8 : nul < 0 := by omega
    cases c5
    rotate_left
    · exact absurd (of_decide_eq_true h5) (by omega)
    obtain rfl : nb = false := hnb.symm.trans (nullF_lt hn8)
    ((conv=>whnf);repeat(first|(refine mvT ?_;conv=>whnf)|(refine mvF ?_;conv=>whnf)|(refine cT (by rfl) ?_;conv=>whnf)|(refine cF (by rfl) ?_;conv=>whnf)))
    have hkb : ∀ j : Int, j = 7 ∨ j = 8 ∨ j = 9 ∨ j = 10 → kind ≠ j := by omega
    have hz1 : TrC w G' [.int .i64 zn, zsv, .bool znl, zlv, zuv] (.mk (numK kind n) [] false [] []) := by
      rw [toV, if_neg (hkb 7 (by omega)), if_neg (by have := hkb 8 (by omega); have := hkb 9 (by omega); omega), if_neg (hkb 10 (by omega))] at hz0
      exact hz0
    obtain ⟨rfl, rfl, hzs, _⟩ := hz1.inv2
    clear hkb hz0 hz1 hz
    rcases hk with rfl | rfl | rfl | rfl | rfl | rfl
    all_goals
      have hod := ho.e0 (ext_drew _)
      have hod2 := ho2.e0 (ext_drew _)
      have hod3 := ho3.e0 (ext_drew _)
      refine ldS (ho.cell rfl) ?_;((conv=>whnf);repeat(first|(refine mvT ?_;conv=>whnf)|(refine mvF ?_;conv=>whnf)|(refine cT (by rfl) ?_;conv=>whnf)|(refine cF (by rfl) ?_;conv=>whnf)))
      refine ldS (ho.cell rfl) ?_;((conv=>whnf);repeat(first|(refine mvT ?_;conv=>whnf)|(refine mvF ?_;conv=>whnf)|(refine cT (by rfl) ?_;conv=>whnf)|(refine cF (by rfl) ?_;conv=>whnf)))
      refine ldS (ho.cell rfl) ?_;((conv=>whnf);repeat(first|(refine mvT ?_;conv=>whnf)|(refine mvF ?_;conv=>whnf)|(refine cT (by rfl) ?_;conv=>whnf)|(refine cF (by rfl) ?_;conv=>whnf)))
      refine VD.draw mixed (.q 0 (.q 1 (.q 2 (.q 3 (.q 4 (.q 5 (.eff 6 [1] (.q 7 (.eff 8 [] (.done)))))))))) (by kernel_rfl) ?_;((conv=>whnf);repeat(first|(refine mvT ?_;conv=>whnf)|(refine mvF ?_;conv=>whnf)|(refine cT (by rfl) ?_;conv=>whnf)|(refine cF (by rfl) ?_;conv=>whnf)))
      refine ldS (hod3.cell rfl) ?_;((conv=>whnf);repeat(first|(refine mvT ?_;conv=>whnf)|(refine mvF ?_;conv=>whnf)|(refine cT (by rfl) ?_;conv=>whnf)|(refine cF (by rfl) ?_;conv=>whnf)))
      refine ldS (hod.cell rfl) ?_;((conv=>whnf);repeat(first|(refine mvT ?_;conv=>whnf)|(refine mvF ?_;conv=>whnf)|(refine cT (by rfl) ?_;conv=>whnf)|(refine cF (by rfl) ?_;conv=>whnf)))
      refine ldS (hod2.cell rfl) ?_;((conv=>whnf);repeat(first|(refine mvT ?_;conv=>whnf)|(refine mvF ?_;conv=>whnf)|(refine cT (by rfl) ?_;conv=>whnf)|(refine cF (by rfl) ?_;conv=>whnf)))
      refine Does.mono (number_does ⟨by omega, by omega⟩ hn _) ?_
      rintro r5 w5 ⟨rfl, hx5⟩
      refine ⟨by (conv => whnf); exact ⟨⟨_, (hod3.e0 hx5).cell rfl, rfl, rfl⟩, trivial⟩, ?_⟩
      ((conv=>whnf);repeat(first|(refine mvT ?_;conv=>whnf)|(refine mvF ?_;conv=>whnf)|(refine cT (by rfl) ?_;conv=>whnf)|(refine cF (by rfl) ?_;conv=>whnf)))
      exact ⟨by simp [oneOr], (hx.e0 (ext_drew _)).e0 hx5⟩
theorem told_list {d : Nat} (hp : TldP d) {F G G' : Nat → Prop} {w : World} {c : List Value} {x z : Value} {fr to nul tag df of : Int} {sub : List Fd} {t : T} {v : Int} {fx nb : Bool} (hf : FdC w F c (.mk 11 fr to nul tag df of sub)) (ht : Tr w G x t)
    (hz : Tr w G' z (if nb = true then .mk 0 [] true [] [] else .mk 0 [] (if 0 ≤ nul then false else t.l.isEmpty) ((t.l.take most).map (toV (fun sub t => toPart d v fx sub t) of sub false)) []))
    (hof : 0 ≤ of ∧ of ≤ 10) (hnb : nullF (.mk 11 fr to nul tag df of sub) v t = nb) (hsub : Dok d sub) (hv : 0 ≤ v) :
    Does X.P 20 #[.agg c.toArray, .int .i64 v, .bool fx, x, z] w fun r w' => r = .bool true ∧ Ext nob w w' := by
  have hf0 := hf
  cases hf
  rename_i sv ls hl hlen2 hr
  have hfr : FdsR w F sv sub := ⟨ls, hl, hlen2, hr⟩
  obtain ⟨ct, rfl, ht0⟩ := id ht
  obtain ⟨n, s, nl, l, u⟩ := t
  obtain ⟨sv', lv, uv, ls', rfl, hn, hs', hl', hlen', hr', hu⟩ := ht0.inv
  obtain ⟨cz, rfl, hz0⟩ := id hz
  obtain ⟨zn, zsv, znl, zlv, zuv, rfl⟩ := hz0.five
  refine Does.go (X := X) (l := [_, _, _, _, _]) Tryd.func20 rfl (by kernel_rfl) (by kernel_rfl) _ rfl ?_
  ((conv=>whnf);repeat(first|(refine mvT ?_;conv=>whnf)|(refine mvF ?_;conv=>whnf)|(refine cT (by rfl) ?_;conv=>whnf)|(refine cF (by rfl) ?_;conv=>whnf)))
  intro b w1 hb ho hx
  ((conv=>whnf);repeat(first|(refine mvT ?_;conv=>whnf)|(refine mvF ?_;conv=>whnf)|(refine cT (by rfl) ?_;conv=>whnf)|(refine cF (by rfl) ?_;conv=>whnf)))
  intro b2 w2 hb2 ho2 hx2
  ((conv=>whnf);repeat(first|(refine mvT ?_;conv=>whnf)|(refine mvF ?_;conv=>whnf)|(refine cT (by rfl) ?_;conv=>whnf)|(refine cF (by rfl) ?_;conv=>whnf)))
  intro b3 w3 hb3 ho3 hx3
  ((conv=>whnf);repeat(first|(refine mvT ?_;conv=>whnf)|(refine mvF ?_;conv=>whnf)|(refine cT (by rfl) ?_;conv=>whnf)|(refine cF (by rfl) ?_;conv=>whnf)))
  have ho := (ho.e0 hx2).e0 hx3
  have ho2 := ho2.e0 hx3
  have hx := (hx.e0 hx2).e0 hx3
  refine ⟨_, rfl, ho.cells, ?_⟩
  ((conv=>whnf);repeat(first|(refine mvT ?_;conv=>whnf)|(refine mvF ?_;conv=>whnf)|(refine cT (by rfl) ?_;conv=>whnf)|(refine cF (by rfl) ?_;conv=>whnf)))
  refine ⟨_, rfl, ho2.cells, ?_⟩
  ((conv=>whnf);repeat(first|(refine mvT ?_;conv=>whnf)|(refine mvF ?_;conv=>whnf)|(refine cT (by rfl) ?_;conv=>whnf)|(refine cF (by rfl) ?_;conv=>whnf)))
  refine Does.mono (null_does (hf0.e0 hx) (ht.e0 hx) v) ?_
  rintro r4 w4 ⟨rfl, hx4⟩
  rw [hnb]
  have ho := ho.e0 hx4
  have ho2 := ho2.e0 hx4
  have ho3 := ho3.e0 hx4
  have hx := hx.e0 hx4
  ((conv=>whnf);repeat(first|(refine mvT ?_;conv=>whnf)|(refine mvF ?_;conv=>whnf)|(refine cT (by rfl) ?_;conv=>whnf)|(refine cF (by rfl) ?_;conv=>whnf)))
  refine ldS (ho.cell rfl) ?_;((conv=>whnf);repeat(first|(refine mvT ?_;conv=>whnf)|(refine mvF ?_;conv=>whnf)|(refine cT (by rfl) ?_;conv=>whnf)|(refine cF (by rfl) ?_;conv=>whnf)))
  intro c5 h5
  cases nb
  rotate_left
  · have h0 : 0 ≤ nul ∧ nul ≤ v := by
      simp only [nullF, Fd.nul, Bool.and_eq_true, decide_eq_true_eq] at hnb
      exact ⟨of_decide_eq_true hnb.2.1, of_decide_eq_true hnb.2.2⟩
    obtain ⟨rfl, rfl, hzs, _⟩ := (show TrC w G' _ (.mk 0 [] true [] []) from hz0).inv2
    cases c5
    · exact absurd h0.1 (by have := of_decide_eq_false h5; omega)
    · ((conv=>whnf);repeat(first|(refine mvT ?_;conv=>whnf)|(refine mvF ?_;conv=>whnf)|(refine cT (by rfl) ?_;conv=>whnf)|(refine cF (by rfl) ?_;conv=>whnf)))
      refine ldS (ho.cell rfl) ?_;((conv=>whnf);repeat(first|(refine mvT ?_;conv=>whnf)|(refine mvF ?_;conv=>whnf)|(refine cT (by rfl) ?_;conv=>whnf)|(refine cF (by rfl) ?_;conv=>whnf)))
      refine ldS (ho.cell rfl) ?_;((conv=>whnf);repeat(first|(refine mvT ?_;conv=>whnf)|(refine mvF ?_;conv=>whnf)|(refine cT (by rfl) ?_;conv=>whnf)|(refine cF (by rfl) ?_;conv=>whnf)))
      refine ldS (ho.cell rfl) ?_;((conv=>whnf);repeat(first|(refine mvT ?_;conv=>whnf)|(refine mvF ?_;conv=>whnf)|(refine cT (by rfl) ?_;conv=>whnf)|(refine cF (by rfl) ?_;conv=>whnf)))
      intro c6 h6
      cases c6
      · exact absurd h0.2 (by have := of_decide_eq_false h6; omega)
      · ((conv=>whnf);repeat(first|(refine mvT ?_;conv=>whnf)|(refine mvF ?_;conv=>whnf)|(refine cT (by rfl) ?_;conv=>whnf)|(refine cF (by rfl) ?_;conv=>whnf)))
        refine ldS (ho3.cell rfl) ?_;((conv=>whnf);repeat(first|(refine mvT ?_;conv=>whnf)|(refine mvF ?_;conv=>whnf)|(refine cT (by rfl) ?_;conv=>whnf)|(refine cF (by rfl) ?_;conv=>whnf)))
        exact ⟨rfl, hx⟩
  · have hz1 : TrC w G' [.int .i64 zn, zsv, .bool znl, zlv, zuv] (.mk 0 [] (if 0 ≤ nul then false else l.isEmpty) ((l.take most).map (toV (fun sub t => toPart d v fx sub t) of sub false)) []) := hz0
    obtain ⟨rfl, rfl, hzs, lz, hlz, hzlen, hzr, _⟩ := hz1.inv2
    clear hz0 hz1 hz
    obtain ⟨az, kz, rfl, hcz, hmz, hFz, _, hCz⟩ := hlz.view
    have hl6 : lz.length = (ls'.take most).length := by rw [hzlen, List.length_map, List.length_take, List.length_take, hlen']
    cases c5
    · ((conv=>whnf);repeat(first|(refine mvT ?_;conv=>whnf)|(refine mvF ?_;conv=>whnf)|(refine cT (by rfl) ?_;conv=>whnf)|(refine cF (by rfl) ?_;conv=>whnf)))
      refine ldS (ho.cell rfl) ?_;((conv=>whnf);repeat(first|(refine mvT ?_;conv=>whnf)|(refine mvF ?_;conv=>whnf)|(refine cT (by rfl) ?_;conv=>whnf)|(refine cF (by rfl) ?_;conv=>whnf)))
      refine ldS (ho.cell rfl) ?_;((conv=>whnf);repeat(first|(refine mvT ?_;conv=>whnf)|(refine mvF ?_;conv=>whnf)|(refine cT (by rfl) ?_;conv=>whnf)|(refine cF (by rfl) ?_;conv=>whnf)))
      refine ldS (ho.cell rfl) ?_;((conv=>whnf);repeat(first|(refine mvT ?_;conv=>whnf)|(refine mvF ?_;conv=>whnf)|(refine cT (by rfl) ?_;conv=>whnf)|(refine cF (by rfl) ?_;conv=>whnf)))
      refine ldS (ho2.cell rfl) ?_;((conv=>whnf);repeat(first|(refine mvT ?_;conv=>whnf)|(refine mvF ?_;conv=>whnf)|(refine cT (by rfl) ?_;conv=>whnf)|(refine cF (by rfl) ?_;conv=>whnf)))
      refine Does.mono (things_does (hl'.e0 hx)) ?_
      rintro r6 w6 ⟨hr6, rfl⟩
      obtain ⟨a6, c6', rfl, hc6, hm6, hF6, _, hC6⟩ := hr6.view
      ((conv=>whnf);repeat(first|(refine mvT ?_;conv=>whnf)|(refine mvF ?_;conv=>whnf)|(refine cT (by rfl) ?_;conv=>whnf)|(refine cF (by rfl) ?_;conv=>whnf)))
      refine ldS (ho3.cell rfl) ?_;((conv=>whnf);repeat(first|(refine mvT ?_;conv=>whnf)|(refine mvF ?_;conv=>whnf)|(refine cT (by rfl) ?_;conv=>whnf)|(refine cF (by rfl) ?_;conv=>whnf)))
      refine cI (by rfl) (fun h7=>?_) (fun h7=>?_)
      · simp [hl6] at h7
      ((conv=>whnf);repeat(first|(refine mvT ?_;conv=>whnf)|(refine mvF ?_;conv=>whnf)|(refine cT (by rfl) ?_;conv=>whnf)|(refine cF (by rfl) ?_;conv=>whnf)))
      refine ⟨_, rfl, ho.cells, ?_⟩
      ((conv=>whnf);repeat(first|(refine mvT ?_;conv=>whnf)|(refine mvF ?_;conv=>whnf)|(refine cT (by rfl) ?_;conv=>whnf)|(refine cF (by rfl) ?_;conv=>whnf)))
      intro b9 w9 hb9 ho9 hx9
      ((conv=>whnf);repeat(first|(refine mvT ?_;conv=>whnf)|(refine mvF ?_;conv=>whnf)|(refine cT (by rfl) ?_;conv=>whnf)|(refine cF (by rfl) ?_;conv=>whnf)))
      refine st_all [.int .i64 11, .int .i64 fr, .int .i64 to, .int .i64 nul, .int .i64 tag, .int .i64 df, .int .i64 of, sv] ho9 rfl rfl hf0.ok ?_
      intro w10 ho10 hx10
      have hx610 := hx9.st hx10 hb9
      ((conv=>whnf);repeat(first|(refine mvT ?_;conv=>whnf)|(refine mvF ?_;conv=>whnf)|(refine cT (by rfl) ?_;conv=>whnf)|(refine cF (by rfl) ?_;conv=>whnf)))
      refine ldS ((ho.e0 hx610).cell rfl) ?_;((conv=>whnf);repeat(first|(refine mvT ?_;conv=>whnf)|(refine mvF ?_;conv=>whnf)|(refine cT (by rfl) ?_;conv=>whnf)|(refine cF (by rfl) ?_;conv=>whnf)))
      refine ⟨_, _, ho10, rfl, rfl, rfl, ?_⟩
      intro w11 ho11 hx11
      ((conv=>whnf);repeat(first|(refine mvT ?_;conv=>whnf)|(refine mvF ?_;conv=>whnf)|(refine cT (by rfl) ?_;conv=>whnf)|(refine cF (by rfl) ?_;conv=>whnf)))
      refine ⟨_, _, ho11, rfl, rfl, rfl, ?_⟩
      intro w12 ho12 hx12
      ((conv=>whnf);repeat(first|(refine mvT ?_;conv=>whnf)|(refine mvF ?_;conv=>whnf)|(refine cT (by rfl) ?_;conv=>whnf)|(refine cF (by rfl) ?_;conv=>whnf)))
      refine ⟨_, _, ho12, rfl, rfl, rfl, ?_⟩
      intro w13 ho13 hx13
      have ho13 : Own w13 b9 45 [.int .i64 of, .int .i64 fr, .int .i64 to, .int .i64 (-1), .int .i64 (-1), .int .i64 df, .int .i64 of, sv] := ho13
      have hx613 : Ext nob w6 w13 := ((hx610.st hx11 hb9).st hx12 hb9).st hx13 hb9
      have hxw13 : Ext nob w w13 := hx.e0 hx613
      have hone : FdC w13 F [.int .i64 of, .int .i64 fr, .int .i64 to, .int .i64 (-1), .int .i64 (-1), .int .i64 df, .int .i64 of, sv] (.mk of fr to (-1) (-1) df of sub) := .mk of fr to (-1) (-1) df of sub sv ls (hl.e0 hxw13) hlen2 fun i c f h1 h2 => (hr i c f h1 h2).e0 hxw13
      ((conv=>whnf);repeat(first|(refine mvT ?_;conv=>whnf)|(refine mvF ?_;conv=>whnf)|(refine cT (by rfl) ?_;conv=>whnf)|(refine cF (by rfl) ?_;conv=>whnf)))
      refine VL.loop (fun i : Nat => [(1, .int .i64 v), (2, .bool fx), (9, .pointer (some ⟨b3, 0, none⟩)), (14, .slice a6 (ls'.take most).length c6'), (15, .pointer (some ⟨b9, 0, none⟩)), (97, .int .i64 (ls'.take most).length), (98, .int .i64 i)])
        (fun i w' => Ext nob w13 w' ∧ i ≤ (ls'.take most).length) (fun i => (ls'.take most).length - i) 0 ⟨rfl, rfl, rfl, rfl, rfl, rfl, rfl, trivial⟩ ⟨Ext.refl _ _, Nat.zero_le _⟩ ?_
      rintro i w14 ⟨hx14, hi⟩
      ((conv=>whnf);repeat(first|(refine mvT ?_;conv=>whnf)|(refine mvF ?_;conv=>whnf)|(refine cT (by rfl) ?_;conv=>whnf)|(refine cF (by rfl) ?_;conv=>whnf)))
      refine cI (by rfl) (fun h8=>?_) (fun h8=>?_)
      · have hil : i < (ls'.take most).length := by have := of_decide_eq_true h8; omega
        have hil' : i < ls'.length := by rw [List.length_take] at hil; omega
        have hill' : i < l.length := by omega
        have htr := hr' i ls'[i] l[i] (by simp [hil']) (by simp [hill'])
        have hgc : (ls'.take most)[i]? = some ls'[i] := by
          rw [List.getElem?_take, if_pos (by rw [List.length_take] at hil; omega)]
          simp [hil']
        obtain ⟨b18, o18, rfl, hc18⟩ := hC6 i ls'[i] hgc
        have hzl : i < lz.length := by omega
        have hztr := hzr i lz[i] (toV (fun sub t => toPart d v fx sub t) of sub false l[i]) (by simp [hzl]) (by
          rw [List.getElem?_map, List.getElem?_take, if_pos (by rw [List.length_take] at hil; omega), List.getElem?_eq_getElem hill']
          rfl)
        obtain ⟨bz, oz, rfl, hcz⟩ := hCz i lz[i] (by simp [hzl])
        have hxd := (hx613.e0 hx14).e0 (ext_drew _)
        have hx13d := hx14.e0 (ext_drew _)
        ((conv=>whnf);repeat(first|(refine mvT ?_;conv=>whnf)|(refine mvF ?_;conv=>whnf)|(refine cT (by rfl) ?_;conv=>whnf)|(refine cF (by rfl) ?_;conv=>whnf)))
        refine VD.draw mixed (.q 0 (.q 1 (.q 2 (.q 3 (.q 4 (.q 5 (.q 6 (.q 7 (.q 8 (.q 9 (.q 10 (.q 11 (.eff 12 [] (.q 13 (.done))))))))))))))) (by kernel_rfl) ?_;((conv=>whnf);repeat(first|(refine mvT ?_;conv=>whnf)|(refine mvF ?_;conv=>whnf)|(refine cT (by rfl) ?_;conv=>whnf)|(refine cF (by rfl) ?_;conv=>whnf)))
        refine ⟨_, rfl, (ho13.e0 hx13d).cells, ?_⟩
        ((conv=>whnf);repeat(first|(refine mvT ?_;conv=>whnf)|(refine mvF ?_;conv=>whnf)|(refine cT (by rfl) ?_;conv=>whnf)|(refine cF (by rfl) ?_;conv=>whnf)))
        (refine mvB ?_;((conv=>whnf);repeat(first|(refine mvT ?_;conv=>whnf)|(refine mvF ?_;conv=>whnf)|(refine cT (by rfl) ?_;conv=>whnf)|(refine cF (by rfl) ?_;conv=>whnf))))
        refine ⟨b18, o18, rfl, ⟨by omega, by omega⟩, ?_⟩
        ((conv=>whnf);repeat(first|(refine mvT ?_;conv=>whnf)|(refine mvF ?_;conv=>whnf)|(refine cT (by rfl) ?_;conv=>whnf)|(refine cF (by rfl) ?_;conv=>whnf)))
        refine ⟨ls'[i], htr.len, by rw [Int.toNat_natCast]; exact hc18.e0 hxd, ?_⟩
        ((conv=>whnf);repeat(first|(refine mvT ?_;conv=>whnf)|(refine mvF ?_;conv=>whnf)|(refine cT (by rfl) ?_;conv=>whnf)|(refine cF (by rfl) ?_;conv=>whnf)))
        refine ldS ((ho3.e0 hxd).cell rfl) ?_;((conv=>whnf);repeat(first|(refine mvT ?_;conv=>whnf)|(refine mvF ?_;conv=>whnf)|(refine cT (by rfl) ?_;conv=>whnf)|(refine cF (by rfl) ?_;conv=>whnf)))
        refine ⟨bz, oz, rfl, ⟨by omega, by omega⟩, ?_⟩
        ((conv=>whnf);repeat(first|(refine mvT ?_;conv=>whnf)|(refine mvF ?_;conv=>whnf)|(refine cT (by rfl) ?_;conv=>whnf)|(refine cF (by rfl) ?_;conv=>whnf)))
        refine ⟨lz[i], hztr.len, by rw [Int.toNat_natCast]; exact (hcz.e0 hx).e0 hxd, ?_⟩
        ((conv=>whnf);repeat(first|(refine mvT ?_;conv=>whnf)|(refine mvF ?_;conv=>whnf)|(refine cT (by rfl) ?_;conv=>whnf)|(refine cF (by rfl) ?_;conv=>whnf)))
        refine Does.mono (told_value hp (hone.e0 hx13d) ⟨_, rfl, htr.e0 (hx.e0 hxd)⟩ ⟨_, rfl, hztr.e0 (hx.e0 hxd)⟩ hof (nullF_neg _ _ _ _ _ _ _ _ _) (.inr (by decide)) hsub hv) ?_
        rintro r15 w15 ⟨rfl, hx15⟩
        ((conv=>whnf);repeat(first|(refine mvT ?_;conv=>whnf)|(refine mvF ?_;conv=>whnf)|(refine cT (by rfl) ?_;conv=>whnf)|(refine cF (by rfl) ?_;conv=>whnf)))
        exact ⟨i + 1, ⟨rfl, rfl, rfl, rfl, rfl, rfl, inc_eq (by have := take_most_length ls'; omega), trivial⟩, ⟨hx13d.e0 hx15, by omega⟩, by omega⟩
      · have hil : i = (ls'.take most).length := by have := of_decide_eq_false h8; omega
        ((conv=>whnf);repeat(first|(refine mvT ?_;conv=>whnf)|(refine mvF ?_;conv=>whnf)|(refine cT (by rfl) ?_;conv=>whnf)|(refine cF (by rfl) ?_;conv=>whnf)))
        exact ⟨rfl, hxw13.e0 hx14⟩
    · have h0 : 0 ≤ nul := by have := of_decide_eq_true h5; omega
      rw [if_pos h0] at ho3
      ((conv=>whnf);repeat(first|(refine mvT ?_;conv=>whnf)|(refine mvF ?_;conv=>whnf)|(refine cT (by rfl) ?_;conv=>whnf)|(refine cF (by rfl) ?_;conv=>whnf)))
      refine ldS (ho.cell rfl) ?_;((conv=>whnf);repeat(first|(refine mvT ?_;conv=>whnf)|(refine mvF ?_;conv=>whnf)|(refine cT (by rfl) ?_;conv=>whnf)|(refine cF (by rfl) ?_;conv=>whnf)))
      refine ldS (ho.cell rfl) ?_;((conv=>whnf);repeat(first|(refine mvT ?_;conv=>whnf)|(refine mvF ?_;conv=>whnf)|(refine cT (by rfl) ?_;conv=>whnf)|(refine cF (by rfl) ?_;conv=>whnf)))
      refine ldS (ho.cell rfl) ?_;((conv=>whnf);repeat(first|(refine mvT ?_;conv=>whnf)|(refine mvF ?_;conv=>whnf)|(refine cT (by rfl) ?_;conv=>whnf)|(refine cF (by rfl) ?_;conv=>whnf)))
      intro c6 h6
      cases c6
      · ((conv=>whnf);repeat(first|(refine mvT ?_;conv=>whnf)|(refine mvF ?_;conv=>whnf)|(refine cT (by rfl) ?_;conv=>whnf)|(refine cF (by rfl) ?_;conv=>whnf)))
        refine ldS (ho.cell rfl) ?_;((conv=>whnf);repeat(first|(refine mvT ?_;conv=>whnf)|(refine mvF ?_;conv=>whnf)|(refine cT (by rfl) ?_;conv=>whnf)|(refine cF (by rfl) ?_;conv=>whnf)))
        refine ldS (ho2.cell rfl) ?_;((conv=>whnf);repeat(first|(refine mvT ?_;conv=>whnf)|(refine mvF ?_;conv=>whnf)|(refine cT (by rfl) ?_;conv=>whnf)|(refine cF (by rfl) ?_;conv=>whnf)))
        refine Does.mono (things_does (hl'.e0 hx)) ?_
        rintro r6 w6 ⟨hr6, rfl⟩
        obtain ⟨a6, c6', rfl, hc6, hm6, hF6, _, hC6⟩ := hr6.view
        ((conv=>whnf);repeat(first|(refine mvT ?_;conv=>whnf)|(refine mvF ?_;conv=>whnf)|(refine cT (by rfl) ?_;conv=>whnf)|(refine cF (by rfl) ?_;conv=>whnf)))
        refine ldS (ho3.cell rfl) ?_;((conv=>whnf);repeat(first|(refine mvT ?_;conv=>whnf)|(refine mvF ?_;conv=>whnf)|(refine cT (by rfl) ?_;conv=>whnf)|(refine cF (by rfl) ?_;conv=>whnf)))
        refine cI (by rfl) (fun h7=>?_) (fun h7=>?_)
        · simp [hl6] at h7
        ((conv=>whnf);repeat(first|(refine mvT ?_;conv=>whnf)|(refine mvF ?_;conv=>whnf)|(refine cT (by rfl) ?_;conv=>whnf)|(refine cF (by rfl) ?_;conv=>whnf)))
        refine ⟨_, rfl, ho.cells, ?_⟩
        ((conv=>whnf);repeat(first|(refine mvT ?_;conv=>whnf)|(refine mvF ?_;conv=>whnf)|(refine cT (by rfl) ?_;conv=>whnf)|(refine cF (by rfl) ?_;conv=>whnf)))
        intro b9 w9 hb9 ho9 hx9
        ((conv=>whnf);repeat(first|(refine mvT ?_;conv=>whnf)|(refine mvF ?_;conv=>whnf)|(refine cT (by rfl) ?_;conv=>whnf)|(refine cF (by rfl) ?_;conv=>whnf)))
        refine st_all [.int .i64 11, .int .i64 fr, .int .i64 to, .int .i64 nul, .int .i64 tag, .int .i64 df, .int .i64 of, sv] ho9 rfl rfl hf0.ok ?_
        intro w10 ho10 hx10
        have hx610 := hx9.st hx10 hb9
        ((conv=>whnf);repeat(first|(refine mvT ?_;conv=>whnf)|(refine mvF ?_;conv=>whnf)|(refine cT (by rfl) ?_;conv=>whnf)|(refine cF (by rfl) ?_;conv=>whnf)))
        refine ldS ((ho.e0 hx610).cell rfl) ?_;((conv=>whnf);repeat(first|(refine mvT ?_;conv=>whnf)|(refine mvF ?_;conv=>whnf)|(refine cT (by rfl) ?_;conv=>whnf)|(refine cF (by rfl) ?_;conv=>whnf)))
        refine ⟨_, _, ho10, rfl, rfl, rfl, ?_⟩
        intro w11 ho11 hx11
        ((conv=>whnf);repeat(first|(refine mvT ?_;conv=>whnf)|(refine mvF ?_;conv=>whnf)|(refine cT (by rfl) ?_;conv=>whnf)|(refine cF (by rfl) ?_;conv=>whnf)))
        refine ⟨_, _, ho11, rfl, rfl, rfl, ?_⟩
        intro w12 ho12 hx12
        ((conv=>whnf);repeat(first|(refine mvT ?_;conv=>whnf)|(refine mvF ?_;conv=>whnf)|(refine cT (by rfl) ?_;conv=>whnf)|(refine cF (by rfl) ?_;conv=>whnf)))
        refine ⟨_, _, ho12, rfl, rfl, rfl, ?_⟩
        intro w13 ho13 hx13
        have ho13 : Own w13 b9 45 [.int .i64 of, .int .i64 fr, .int .i64 to, .int .i64 (-1), .int .i64 (-1), .int .i64 df, .int .i64 of, sv] := ho13
        have hx613 : Ext nob w6 w13 := ((hx610.st hx11 hb9).st hx12 hb9).st hx13 hb9
        have hxw13 : Ext nob w w13 := hx.e0 hx613
        have hone : FdC w13 F [.int .i64 of, .int .i64 fr, .int .i64 to, .int .i64 (-1), .int .i64 (-1), .int .i64 df, .int .i64 of, sv] (.mk of fr to (-1) (-1) df of sub) := .mk of fr to (-1) (-1) df of sub sv ls (hl.e0 hxw13) hlen2 fun i c f h1 h2 => (hr i c f h1 h2).e0 hxw13
        ((conv=>whnf);repeat(first|(refine mvT ?_;conv=>whnf)|(refine mvF ?_;conv=>whnf)|(refine cT (by rfl) ?_;conv=>whnf)|(refine cF (by rfl) ?_;conv=>whnf)))
        refine VL.loop (fun i : Nat => [(1, .int .i64 v), (2, .bool fx), (9, .pointer (some ⟨b3, 0, none⟩)), (14, .slice a6 (ls'.take most).length c6'), (15, .pointer (some ⟨b9, 0, none⟩)), (97, .int .i64 (ls'.take most).length), (98, .int .i64 i)])
          (fun i w' => Ext nob w13 w' ∧ i ≤ (ls'.take most).length) (fun i => (ls'.take most).length - i) 0 ⟨rfl, rfl, rfl, rfl, rfl, rfl, rfl, trivial⟩ ⟨Ext.refl _ _, Nat.zero_le _⟩ ?_
        rintro i w14 ⟨hx14, hi⟩
        ((conv=>whnf);repeat(first|(refine mvT ?_;conv=>whnf)|(refine mvF ?_;conv=>whnf)|(refine cT (by rfl) ?_;conv=>whnf)|(refine cF (by rfl) ?_;conv=>whnf)))
        refine cI (by rfl) (fun h8=>?_) (fun h8=>?_)
        · have hil : i < (ls'.take most).length := by have := of_decide_eq_true h8; omega
          have hil' : i < ls'.length := by rw [List.length_take] at hil; omega
          have hill' : i < l.length := by omega
          have htr := hr' i ls'[i] l[i] (by simp [hil']) (by simp [hill'])
          have hgc : (ls'.take most)[i]? = some ls'[i] := by
            rw [List.getElem?_take, if_pos (by rw [List.length_take] at hil; omega)]
            simp [hil']
          obtain ⟨b18, o18, rfl, hc18⟩ := hC6 i ls'[i] hgc
          have hzl : i < lz.length := by omega
          have hztr := hzr i lz[i] (toV (fun sub t => toPart d v fx sub t) of sub false l[i]) (by simp [hzl]) (by
            rw [List.getElem?_map, List.getElem?_take, if_pos (by rw [List.length_take] at hil; omega), List.getElem?_eq_getElem hill']
            rfl)
          obtain ⟨bz, oz, rfl, hcz⟩ := hCz i lz[i] (by simp [hzl])
          have hxd := (hx613.e0 hx14).e0 (ext_drew _)
          have hx13d := hx14.e0 (ext_drew _)
          ((conv=>whnf);repeat(first|(refine mvT ?_;conv=>whnf)|(refine mvF ?_;conv=>whnf)|(refine cT (by rfl) ?_;conv=>whnf)|(refine cF (by rfl) ?_;conv=>whnf)))
          refine VD.draw mixed (.q 0 (.q 1 (.q 2 (.q 3 (.q 4 (.q 5 (.q 6 (.q 7 (.q 8 (.q 9 (.q 10 (.q 11 (.eff 12 [] (.q 13 (.done))))))))))))))) (by kernel_rfl) ?_;((conv=>whnf);repeat(first|(refine mvT ?_;conv=>whnf)|(refine mvF ?_;conv=>whnf)|(refine cT (by rfl) ?_;conv=>whnf)|(refine cF (by rfl) ?_;conv=>whnf)))
          refine ⟨_, rfl, (ho13.e0 hx13d).cells, ?_⟩
          ((conv=>whnf);repeat(first|(refine mvT ?_;conv=>whnf)|(refine mvF ?_;conv=>whnf)|(refine cT (by rfl) ?_;conv=>whnf)|(refine cF (by rfl) ?_;conv=>whnf)))
          (refine mvB ?_;((conv=>whnf);repeat(first|(refine mvT ?_;conv=>whnf)|(refine mvF ?_;conv=>whnf)|(refine cT (by rfl) ?_;conv=>whnf)|(refine cF (by rfl) ?_;conv=>whnf))))
          refine ⟨b18, o18, rfl, ⟨by omega, by omega⟩, ?_⟩
          ((conv=>whnf);repeat(first|(refine mvT ?_;conv=>whnf)|(refine mvF ?_;conv=>whnf)|(refine cT (by rfl) ?_;conv=>whnf)|(refine cF (by rfl) ?_;conv=>whnf)))
          refine ⟨ls'[i], htr.len, by rw [Int.toNat_natCast]; exact hc18.e0 hxd, ?_⟩
          ((conv=>whnf);repeat(first|(refine mvT ?_;conv=>whnf)|(refine mvF ?_;conv=>whnf)|(refine cT (by rfl) ?_;conv=>whnf)|(refine cF (by rfl) ?_;conv=>whnf)))
          refine ldS ((ho3.e0 hxd).cell rfl) ?_;((conv=>whnf);repeat(first|(refine mvT ?_;conv=>whnf)|(refine mvF ?_;conv=>whnf)|(refine cT (by rfl) ?_;conv=>whnf)|(refine cF (by rfl) ?_;conv=>whnf)))
          refine ⟨bz, oz, rfl, ⟨by omega, by omega⟩, ?_⟩
          ((conv=>whnf);repeat(first|(refine mvT ?_;conv=>whnf)|(refine mvF ?_;conv=>whnf)|(refine cT (by rfl) ?_;conv=>whnf)|(refine cF (by rfl) ?_;conv=>whnf)))
          refine ⟨lz[i], hztr.len, by rw [Int.toNat_natCast]; exact (hcz.e0 hx).e0 hxd, ?_⟩
          ((conv=>whnf);repeat(first|(refine mvT ?_;conv=>whnf)|(refine mvF ?_;conv=>whnf)|(refine cT (by rfl) ?_;conv=>whnf)|(refine cF (by rfl) ?_;conv=>whnf)))
          refine Does.mono (told_value hp (hone.e0 hx13d) ⟨_, rfl, htr.e0 (hx.e0 hxd)⟩ ⟨_, rfl, hztr.e0 (hx.e0 hxd)⟩ hof (nullF_neg _ _ _ _ _ _ _ _ _) (.inr (by decide)) hsub hv) ?_
          rintro r15 w15 ⟨rfl, hx15⟩
          ((conv=>whnf);repeat(first|(refine mvT ?_;conv=>whnf)|(refine mvF ?_;conv=>whnf)|(refine cT (by rfl) ?_;conv=>whnf)|(refine cF (by rfl) ?_;conv=>whnf)))
          exact ⟨i + 1, ⟨rfl, rfl, rfl, rfl, rfl, rfl, inc_eq (by have := take_most_length ls'; omega), trivial⟩, ⟨hx13d.e0 hx15, by omega⟩, by omega⟩
        · have hil : i = (ls'.take most).length := by have := of_decide_eq_false h8; omega
          ((conv=>whnf);repeat(first|(refine mvT ?_;conv=>whnf)|(refine mvF ?_;conv=>whnf)|(refine cT (by rfl) ?_;conv=>whnf)|(refine cF (by rfl) ?_;conv=>whnf)))
          exact ⟨rfl, hxw13.e0 hx14⟩
      · ((conv=>whnf);repeat(first|(refine mvT ?_;conv=>whnf)|(refine mvF ?_;conv=>whnf)|(refine cT (by rfl) ?_;conv=>whnf)|(refine cF (by rfl) ?_;conv=>whnf)))
        refine ldS (ho3.cell rfl) ?_;((conv=>whnf);repeat(first|(refine mvT ?_;conv=>whnf)|(refine mvF ?_;conv=>whnf)|(refine cT (by rfl) ?_;conv=>whnf)|(refine cF (by rfl) ?_;conv=>whnf)))
        refine ldS (ho.cell rfl) ?_;((conv=>whnf);repeat(first|(refine mvT ?_;conv=>whnf)|(refine mvF ?_;conv=>whnf)|(refine cT (by rfl) ?_;conv=>whnf)|(refine cF (by rfl) ?_;conv=>whnf)))
        refine ldS (ho2.cell rfl) ?_;((conv=>whnf);repeat(first|(refine mvT ?_;conv=>whnf)|(refine mvF ?_;conv=>whnf)|(refine cT (by rfl) ?_;conv=>whnf)|(refine cF (by rfl) ?_;conv=>whnf)))
        refine Does.mono (things_does (hl'.e0 hx)) ?_
        rintro r6 w6 ⟨hr6, rfl⟩
        obtain ⟨a6, c6', rfl, hc6, hm6, hF6, _, hC6⟩ := hr6.view
        ((conv=>whnf);repeat(first|(refine mvT ?_;conv=>whnf)|(refine mvF ?_;conv=>whnf)|(refine cT (by rfl) ?_;conv=>whnf)|(refine cF (by rfl) ?_;conv=>whnf)))
        refine ldS (ho3.cell rfl) ?_;((conv=>whnf);repeat(first|(refine mvT ?_;conv=>whnf)|(refine mvF ?_;conv=>whnf)|(refine cT (by rfl) ?_;conv=>whnf)|(refine cF (by rfl) ?_;conv=>whnf)))
        refine cI (by rfl) (fun h7=>?_) (fun h7=>?_)
        · simp [hl6] at h7
        ((conv=>whnf);repeat(first|(refine mvT ?_;conv=>whnf)|(refine mvF ?_;conv=>whnf)|(refine cT (by rfl) ?_;conv=>whnf)|(refine cF (by rfl) ?_;conv=>whnf)))
        refine ⟨_, rfl, ho.cells, ?_⟩
        ((conv=>whnf);repeat(first|(refine mvT ?_;conv=>whnf)|(refine mvF ?_;conv=>whnf)|(refine cT (by rfl) ?_;conv=>whnf)|(refine cF (by rfl) ?_;conv=>whnf)))
        intro b9 w9 hb9 ho9 hx9
        ((conv=>whnf);repeat(first|(refine mvT ?_;conv=>whnf)|(refine mvF ?_;conv=>whnf)|(refine cT (by rfl) ?_;conv=>whnf)|(refine cF (by rfl) ?_;conv=>whnf)))
        refine st_all [.int .i64 11, .int .i64 fr, .int .i64 to, .int .i64 nul, .int .i64 tag, .int .i64 df, .int .i64 of, sv] ho9 rfl rfl hf0.ok ?_
        intro w10 ho10 hx10
        have hx610 := hx9.st hx10 hb9
        ((conv=>whnf);repeat(first|(refine mvT ?_;conv=>whnf)|(refine mvF ?_;conv=>whnf)|(refine cT (by rfl) ?_;conv=>whnf)|(refine cF (by rfl) ?_;conv=>whnf)))
        refine ldS ((ho.e0 hx610).cell rfl) ?_;((conv=>whnf);repeat(first|(refine mvT ?_;conv=>whnf)|(refine mvF ?_;conv=>whnf)|(refine cT (by rfl) ?_;conv=>whnf)|(refine cF (by rfl) ?_;conv=>whnf)))
        refine ⟨_, _, ho10, rfl, rfl, rfl, ?_⟩
        intro w11 ho11 hx11
        ((conv=>whnf);repeat(first|(refine mvT ?_;conv=>whnf)|(refine mvF ?_;conv=>whnf)|(refine cT (by rfl) ?_;conv=>whnf)|(refine cF (by rfl) ?_;conv=>whnf)))
        refine ⟨_, _, ho11, rfl, rfl, rfl, ?_⟩
        intro w12 ho12 hx12
        ((conv=>whnf);repeat(first|(refine mvT ?_;conv=>whnf)|(refine mvF ?_;conv=>whnf)|(refine cT (by rfl) ?_;conv=>whnf)|(refine cF (by rfl) ?_;conv=>whnf)))
        refine ⟨_, _, ho12, rfl, rfl, rfl, ?_⟩
        intro w13 ho13 hx13
        have ho13 : Own w13 b9 45 [.int .i64 of, .int .i64 fr, .int .i64 to, .int .i64 (-1), .int .i64 (-1), .int .i64 df, .int .i64 of, sv] := ho13
        have hx613 : Ext nob w6 w13 := ((hx610.st hx11 hb9).st hx12 hb9).st hx13 hb9
        have hxw13 : Ext nob w w13 := hx.e0 hx613
        have hone : FdC w13 F [.int .i64 of, .int .i64 fr, .int .i64 to, .int .i64 (-1), .int .i64 (-1), .int .i64 df, .int .i64 of, sv] (.mk of fr to (-1) (-1) df of sub) := .mk of fr to (-1) (-1) df of sub sv ls (hl.e0 hxw13) hlen2 fun i c f h1 h2 => (hr i c f h1 h2).e0 hxw13
        ((conv=>whnf);repeat(first|(refine mvT ?_;conv=>whnf)|(refine mvF ?_;conv=>whnf)|(refine cT (by rfl) ?_;conv=>whnf)|(refine cF (by rfl) ?_;conv=>whnf)))
        refine VL.loop (fun i : Nat => [(1, .int .i64 v), (2, .bool fx), (9, .pointer (some ⟨b3, 0, none⟩)), (14, .slice a6 (ls'.take most).length c6'), (15, .pointer (some ⟨b9, 0, none⟩)), (97, .int .i64 (ls'.take most).length), (98, .int .i64 i)])
          (fun i w' => Ext nob w13 w' ∧ i ≤ (ls'.take most).length) (fun i => (ls'.take most).length - i) 0 ⟨rfl, rfl, rfl, rfl, rfl, rfl, rfl, trivial⟩ ⟨Ext.refl _ _, Nat.zero_le _⟩ ?_
        rintro i w14 ⟨hx14, hi⟩
        ((conv=>whnf);repeat(first|(refine mvT ?_;conv=>whnf)|(refine mvF ?_;conv=>whnf)|(refine cT (by rfl) ?_;conv=>whnf)|(refine cF (by rfl) ?_;conv=>whnf)))
        refine cI (by rfl) (fun h8=>?_) (fun h8=>?_)
        · have hil : i < (ls'.take most).length := by have := of_decide_eq_true h8; omega
          have hil' : i < ls'.length := by rw [List.length_take] at hil; omega
          have hill' : i < l.length := by omega
          have htr := hr' i ls'[i] l[i] (by simp [hil']) (by simp [hill'])
          have hgc : (ls'.take most)[i]? = some ls'[i] := by
            rw [List.getElem?_take, if_pos (by rw [List.length_take] at hil; omega)]
            simp [hil']
          obtain ⟨b18, o18, rfl, hc18⟩ := hC6 i ls'[i] hgc
          have hzl : i < lz.length := by omega
          have hztr := hzr i lz[i] (toV (fun sub t => toPart d v fx sub t) of sub false l[i]) (by simp [hzl]) (by
            rw [List.getElem?_map, List.getElem?_take, if_pos (by rw [List.length_take] at hil; omega), List.getElem?_eq_getElem hill']
            rfl)
          obtain ⟨bz, oz, rfl, hcz⟩ := hCz i lz[i] (by simp [hzl])
          have hxd := (hx613.e0 hx14).e0 (ext_drew _)
          have hx13d := hx14.e0 (ext_drew _)
          ((conv=>whnf);repeat(first|(refine mvT ?_;conv=>whnf)|(refine mvF ?_;conv=>whnf)|(refine cT (by rfl) ?_;conv=>whnf)|(refine cF (by rfl) ?_;conv=>whnf)))
          refine VD.draw mixed (.q 0 (.q 1 (.q 2 (.q 3 (.q 4 (.q 5 (.q 6 (.q 7 (.q 8 (.q 9 (.q 10 (.q 11 (.eff 12 [] (.q 13 (.done))))))))))))))) (by kernel_rfl) ?_;((conv=>whnf);repeat(first|(refine mvT ?_;conv=>whnf)|(refine mvF ?_;conv=>whnf)|(refine cT (by rfl) ?_;conv=>whnf)|(refine cF (by rfl) ?_;conv=>whnf)))
          refine ⟨_, rfl, (ho13.e0 hx13d).cells, ?_⟩
          ((conv=>whnf);repeat(first|(refine mvT ?_;conv=>whnf)|(refine mvF ?_;conv=>whnf)|(refine cT (by rfl) ?_;conv=>whnf)|(refine cF (by rfl) ?_;conv=>whnf)))
          (refine mvB ?_;((conv=>whnf);repeat(first|(refine mvT ?_;conv=>whnf)|(refine mvF ?_;conv=>whnf)|(refine cT (by rfl) ?_;conv=>whnf)|(refine cF (by rfl) ?_;conv=>whnf))))
          refine ⟨b18, o18, rfl, ⟨by omega, by omega⟩, ?_⟩
          ((conv=>whnf);repeat(first|(refine mvT ?_;conv=>whnf)|(refine mvF ?_;conv=>whnf)|(refine cT (by rfl) ?_;conv=>whnf)|(refine cF (by rfl) ?_;conv=>whnf)))
          refine ⟨ls'[i], htr.len, by rw [Int.toNat_natCast]; exact hc18.e0 hxd, ?_⟩
          ((conv=>whnf);repeat(first|(refine mvT ?_;conv=>whnf)|(refine mvF ?_;conv=>whnf)|(refine cT (by rfl) ?_;conv=>whnf)|(refine cF (by rfl) ?_;conv=>whnf)))
          refine ldS ((ho3.e0 hxd).cell rfl) ?_;((conv=>whnf);repeat(first|(refine mvT ?_;conv=>whnf)|(refine mvF ?_;conv=>whnf)|(refine cT (by rfl) ?_;conv=>whnf)|(refine cF (by rfl) ?_;conv=>whnf)))
          refine ⟨bz, oz, rfl, ⟨by omega, by omega⟩, ?_⟩
          ((conv=>whnf);repeat(first|(refine mvT ?_;conv=>whnf)|(refine mvF ?_;conv=>whnf)|(refine cT (by rfl) ?_;conv=>whnf)|(refine cF (by rfl) ?_;conv=>whnf)))
          refine ⟨lz[i], hztr.len, by rw [Int.toNat_natCast]; exact (hcz.e0 hx).e0 hxd, ?_⟩
          ((conv=>whnf);repeat(first|(refine mvT ?_;conv=>whnf)|(refine mvF ?_;conv=>whnf)|(refine cT (by rfl) ?_;conv=>whnf)|(refine cF (by rfl) ?_;conv=>whnf)))
          refine Does.mono (told_value hp (hone.e0 hx13d) ⟨_, rfl, htr.e0 (hx.e0 hxd)⟩ ⟨_, rfl, hztr.e0 (hx.e0 hxd)⟩ hof (nullF_neg _ _ _ _ _ _ _ _ _) (.inr (by decide)) hsub hv) ?_
          rintro r15 w15 ⟨rfl, hx15⟩
          ((conv=>whnf);repeat(first|(refine mvT ?_;conv=>whnf)|(refine mvF ?_;conv=>whnf)|(refine cT (by rfl) ?_;conv=>whnf)|(refine cF (by rfl) ?_;conv=>whnf)))
          exact ⟨i + 1, ⟨rfl, rfl, rfl, rfl, rfl, rfl, inc_eq (by have := take_most_length ls'; omega), trivial⟩, ⟨hx13d.e0 hx15, by omega⟩, by omega⟩
        · have hil : i = (ls'.take most).length := by have := of_decide_eq_false h8; omega
          ((conv=>whnf);repeat(first|(refine mvT ?_;conv=>whnf)|(refine mvF ?_;conv=>whnf)|(refine cT (by rfl) ?_;conv=>whnf)|(refine cF (by rfl) ?_;conv=>whnf)))
          exact ⟨rfl, hxw13.e0 hx14⟩
theorem ok_parts {d : Nat} {kind fr to nul tag df of : Int} {sub : List Fd} (h1 : okF (d + 1) (.mk kind fr to nul tag df of sub) = true) (h2 : ntF (d + 1) (.mk kind fr to nul tag df of sub) = true) (h3 : okW (d + 1) (.mk kind fr to nul tag df of sub) = true) (h4 : okN (d + 1) (.mk kind fr to nul tag df of sub) = true) :
    tag = -1 ∧ (0 ≤ kind ∧ kind ≤ 11) ∧ (0 ≤ of ∧ of ≤ 10) ∧ (kind = 8 ∨ kind = 11 ∨ nul < 0) ∧ IntKind.i64.wrap df = df ∧ (kind = 10 → fr ≤ 0 ∧ to < 0) ∧ Dok d sub := by
  obtain ⟨_, hk, ho, hl, hs⟩ := okF_parts h1
  rw [ntF, Bool.and_eq_true] at h2
  rw [okW, Bool.and_eq_true] at h3
  rw [okN, Bool.and_eq_true, Bool.and_eq_true, Bool.and_eq_true] at h4
  have h31 : kind ≠ 10 ∨ (nul < 0 ∧ fr ≤ 0 ∧ to < 0) := of_decide_eq_true h3.1
  exact ⟨of_decide_eq_true h2.1, hk, ho, of_decide_eq_true h4.1.1, i64_of (of_decide_eq_true h4.1.2.1) (of_decide_eq_true h4.1.2.2), fun e => h31.elim (fun h => absurd e h) fun h => ⟨h.2.1, h.2.2⟩, hs, List.all_eq_true.1 h2.2, List.all_eq_true.1 h3.2, List.all_eq_true.1 h4.2, hl⟩
def TldF (d : Nat) : Prop := ∀ {F G G' : Nat → Prop} {w : World} {c : List Value} {x z : Value} {f : Fd} {t : T} {v : Int} {fx : Bool}, FdC w F c f → Tr w G x t → Tr w G' z (toField d v fx f t) → okF d f = true → ntF d f = true → okW d f = true → okN d f = true → 0 ≤ v →
  Does X.P 20 #[.agg c.toArray, .int .i64 v, .bool fx, x, z] w fun r w' => r = .bool true ∧ Ext nob w w'
theorem told_field {d : Nat} (hp : TldP d) : TldF (d + 1) := by
  intro F G G' w c x z f t v fx hf ht hz h1 h2 h3 h4 hv
  obtain ⟨kind, fr, to, nul, tag, df, of, sub⟩ := f
  obtain ⟨_, hk, ho, hn, _, _, hsub⟩ := ok_parts h1 h2 h3 h4
  by_cases hk11 : kind = 11
  · subst hk11
    exact told_list hp hf ht hz ho rfl hsub hv
  · have hz : Tr w G' z (toFW (fun sub t => toPart d v fx sub t) (.mk kind fr to nul tag df of sub) v t) := hz
    rw [toFW, if_neg (show ¬ (Fd.mk kind fr to nul tag df of sub).kind = 11 from hk11)] at hz
    exact told_value hp hf ht hz ⟨hk.1, by omega⟩ rfl (by omega) hsub hv
theorem told_part {d : Nat} (hfd : TldF d) : TldP d := by
  intro F G G' w y x z fs t v fx k hf ht hz hok hv
  have hf0 := hf
  obtain ⟨fl, hsl, hfl, hfr⟩ := hf
  obtain ⟨a, c, rfl, hc, hm, _, _, hC⟩ := hsl.view
  obtain ⟨n, s, nl, l, u⟩ := t
  obtain ⟨ct, rfl, ht0⟩ := id ht
  obtain ⟨sv', lv, uv, ls', rfl, hn, hs', hl', hlen', hr', hu⟩ := ht0.inv
  obtain ⟨cz, rfl, hz0⟩ := id hz
  obtain ⟨zn, zsv, znl, zlv, zuv, rfl⟩ := hz0.five
  obtain ⟨_, _, hzs, lz, hlz, hzlen, hzr, hzu⟩ := (show TrC w G' _ (.mk k [] false (toAll (toField d v fx) (dfT d) v (.mk n s nl l u) 0 fs) (if fx = true then (unknownT fs u).map cutT else [])) from hz0).inv2
  obtain ⟨az, kz, rfl, hcz, hmz, hFz, _, hCz⟩ := hlz.view
  rw [toAll_length] at hzlen
  obtain ⟨lu, hlu, hlul, hlur⟩ := hzu
  obtain ⟨au, ku, rfl, hcu, hmu, hFu, _, hCu⟩ := hlu.view
  refine Does.go (X := X) (l := [_, _, _, _, _]) Tryd.func8 rfl (by kernel_rfl) (by kernel_rfl) _ rfl ?_
  ((conv=>whnf);repeat(first|(refine mvT ?_;conv=>whnf)|(refine mvF ?_;conv=>whnf)|(refine cT (by rfl) ?_;conv=>whnf)|(refine cF (by rfl) ?_;conv=>whnf)))
  intro b w1 hb ho hx
  ((conv=>whnf);repeat(first|(refine mvT ?_;conv=>whnf)|(refine mvF ?_;conv=>whnf)|(refine cT (by rfl) ?_;conv=>whnf)|(refine cF (by rfl) ?_;conv=>whnf)))
  intro b2 w2 hb2 ho2 hx2
  have ho := ho.e0 hx2
  have hx := hx.e0 hx2
  ((conv=>whnf);repeat(first|(refine mvT ?_;conv=>whnf)|(refine mvF ?_;conv=>whnf)|(refine cT (by rfl) ?_;conv=>whnf)|(refine cF (by rfl) ?_;conv=>whnf)))
  refine ldS (ho2.cell rfl) ?_;((conv=>whnf);repeat(first|(refine mvT ?_;conv=>whnf)|(refine mvF ?_;conv=>whnf)|(refine cT (by rfl) ?_;conv=>whnf)|(refine cF (by rfl) ?_;conv=>whnf)))
  refine cI (by rfl) (fun h0=>?_) (fun h0=>?_)
  · simp [hzlen, hfl] at h0
  ((conv=>whnf);repeat(first|(refine mvT ?_;conv=>whnf)|(refine mvF ?_;conv=>whnf)|(refine cT (by rfl) ?_;conv=>whnf)|(refine cF (by rfl) ?_;conv=>whnf)))
  refine VL.loop (fun i : Nat => [(0, .slice a fl.length c), (1, .int .i64 v), (2, .bool fx), (8, .pointer (some ⟨b, 0, none⟩)), (9, .pointer (some ⟨b2, 0, none⟩)), (23, .slice a fl.length c), (24, .int .i64 fl.length), (25, .int .i64 i)])
    (fun i w' => Ext nob w2 w' ∧ i ≤ fl.length) (fun i => fl.length - i) 0 ⟨rfl, rfl, rfl, rfl, rfl, rfl, rfl, rfl, trivial⟩ ⟨Ext.refl _ _, Nat.zero_le _⟩ ?_
  rintro i w3 ⟨hx3, hi⟩
  ((conv=>whnf);repeat(first|(refine mvT ?_;conv=>whnf)|(refine mvF ?_;conv=>whnf)|(refine cT (by rfl) ?_;conv=>whnf)|(refine cF (by rfl) ?_;conv=>whnf)))
  refine cI (by rfl) (fun h1=>?_) (fun h1=>?_)
  · have hil : i < fl.length := by have := of_decide_eq_true h1; omega
    have his : i < fs.length := by omega
    have hfd' := hfr i fl[i] fs[i] (by simp [hil]) (by simp [his])
    have hg := List.getElem_mem his
    have ok1 := hok.f _ hg
    have ok2 := hok.t _ hg
    have ok3 := hok.w _ hg
    have ok4 := hok.n _ hg
    obtain ⟨b4, o4, rfl, hc4⟩ := hC i fl[i] (by simp [hil])
    have hzl : i < lz.length := by omega
    have hzt := hzr i lz[i] _ (by simp [hzl]) (toAll_get (toField d v fx) (dfT d) v (.mk n s nl l u) fs 0 i fs[i] (by simp [his]))
    rw [Nat.zero_add] at hzt
    obtain ⟨bz, oz, rfl, hcz'⟩ := hCz i lz[i] (by simp [hzl])
    ((conv=>whnf);repeat(first|(refine mvT ?_;conv=>whnf)|(refine mvF ?_;conv=>whnf)|(refine cT (by rfl) ?_;conv=>whnf)|(refine cF (by rfl) ?_;conv=>whnf)))
    refine ⟨b4, o4, rfl, ⟨by omega, by omega⟩, ?_⟩
    ((conv=>whnf);repeat(first|(refine mvT ?_;conv=>whnf)|(refine mvF ?_;conv=>whnf)|(refine cT (by rfl) ?_;conv=>whnf)|(refine cF (by rfl) ?_;conv=>whnf)))
    refine ⟨fl[i], hfd'.len, (hc4.e0 hx).e0 hx3, ?_⟩
    ((conv=>whnf);repeat(first|(refine mvT ?_;conv=>whnf)|(refine mvF ?_;conv=>whnf)|(refine cT (by rfl) ?_;conv=>whnf)|(refine cF (by rfl) ?_;conv=>whnf)))
    generalize fl[i] = ci at hfd' hc4
    generalize fs[i] = f at hfd' ok1 ok2 ok3 ok4 hzt
    obtain ⟨d', rfl⟩ : ∃ d', d = d' + 1 := by
      cases d with
      | zero => simp [okF] at ok1
      | succ d' => exact ⟨d', rfl⟩
    obtain ⟨kind, fr, to, nul, tag, df, of, sub⟩ := f
    obtain ⟨rfl, hk, hof, hn8, hdf, h10, hsub⟩ := ok_parts ok1 ok2 ok3 ok4
    have hfd0 := hfd'
    cases hfd'
    rename_i sv ls hl hlen2 hr
    intro b5 w5 hb5 ho5 hx5
    ((conv=>whnf);repeat(first|(refine mvT ?_;conv=>whnf)|(refine mvF ?_;conv=>whnf)|(refine cT (by rfl) ?_;conv=>whnf)|(refine cF (by rfl) ?_;conv=>whnf)))
    refine st_all [.int .i64 kind, .int .i64 fr, .int .i64 to, .int .i64 nul, .int .i64 (-1), .int .i64 df, .int .i64 of, sv] ho5 rfl rfl hfd0.ok ?_
    intro w6 ho6 hx6
    have hx26 : Ext nob w2 w6 := hx3.e0 (hx5.st hx6 hb5)
    ((conv=>whnf);repeat(first|(refine mvT ?_;conv=>whnf)|(refine mvF ?_;conv=>whnf)|(refine cT (by rfl) ?_;conv=>whnf)|(refine cF (by rfl) ?_;conv=>whnf)))
    refine ⟨_, rfl, (ho.e0 hx26).cells, ?_⟩
    ((conv=>whnf);repeat(first|(refine mvT ?_;conv=>whnf)|(refine mvF ?_;conv=>whnf)|(refine cT (by rfl) ?_;conv=>whnf)|(refine cF (by rfl) ?_;conv=>whnf)))
    refine Does.mono (at_does (ht.e0 (hx.e0 hx26)) i) ?_
    rintro r7 w7 ⟨⟨cx, rfl, hcx⟩, hx7⟩
    obtain ⟨xn, xsv, xnl, xlv, xuv, rfl⟩ := hcx.five
    have hokx := hcx.ok
    ((conv=>whnf);repeat(first|(refine mvT ?_;conv=>whnf)|(refine mvF ?_;conv=>whnf)|(refine cT (by rfl) ?_;conv=>whnf)|(refine cF (by rfl) ?_;conv=>whnf)))
    intro b8 w8 hb8 ho8 hx8
    ((conv=>whnf);repeat(first|(refine mvT ?_;conv=>whnf)|(refine mvF ?_;conv=>whnf)|(refine cT (by rfl) ?_;conv=>whnf)|(refine cF (by rfl) ?_;conv=>whnf)))
    refine st_all [.int .i64 xn, xsv, .bool xnl, xlv, xuv] ho8 rfl rfl hokx ?_
    intro w9 ho9 hx9
    have hx69 : Ext nob w6 w9 := hx7.e0 (hx8.st hx9 hb8)
    have ho6 := ho6.e0 hx69
    have hx29 := hx26.e0 hx69
    have hcx := hcx.e0 (hx8.st hx9 hb8)
    ((conv=>whnf);repeat(first|(refine mvT ?_;conv=>whnf)|(refine mvF ?_;conv=>whnf)|(refine cT (by rfl) ?_;conv=>whnf)|(refine cF (by rfl) ?_;conv=>whnf)))
    refine ldS (ho6.cell rfl) ?_;((conv=>whnf);repeat(first|(refine mvT ?_;conv=>whnf)|(refine mvF ?_;conv=>whnf)|(refine cT (by rfl) ?_;conv=>whnf)|(refine cF (by rfl) ?_;conv=>whnf)))
    refine ⟨_, rfl, ho6.cells, ?_⟩
    ((conv=>whnf);repeat(first|(refine mvT ?_;conv=>whnf)|(refine mvF ?_;conv=>whnf)|(refine cT (by rfl) ?_;conv=>whnf)|(refine cF (by rfl) ?_;conv=>whnf)))
    refine Does.mono (has_does (hfd0.e0 (hx.e0 hx29)) v) ?_
    rintro r10 w10 ⟨rfl, hx10⟩
    have ho6 := ho6.e0 hx10
    have ho9 := ho9.e0 hx10
    have hx210 := hx29.e0 hx10
    have hcx := hcx.e0 hx10
    ((conv=>whnf);repeat(first|(refine mvT ?_;conv=>whnf)|(refine mvF ?_;conv=>whnf)|(refine cT (by rfl) ?_;conv=>whnf)|(refine cF (by rfl) ?_;conv=>whnf)))
    intro c2 h2
    cases c2
    · have hno : ¬ ((Fd.mk kind fr to nul (-1) df of sub).tag < 0 ∧ hasF (Fd.mk kind fr to nul (-1) df of sub) v = true) := fun h => by rw [h2] at h; exact absurd h.2 (by decide)
      rw [if_neg hno] at hzt
      have hk10 : kind ≠ 10 := fun e => by
        obtain ⟨e1, e2⟩ := h10 e
        refine hno ⟨by show (-1 : Int) < 0; decide, ?_⟩
        simp only [hasF, Fd.fr, Fd.to, Bool.and_eq_true, Bool.or_eq_true, decide_eq_true_eq]
        exact ⟨decide_eq_true (by omega), .inl (decide_eq_true e2)⟩
      ((conv=>whnf);repeat(first|(refine mvT ?_;conv=>whnf)|(refine mvF ?_;conv=>whnf)|(refine cT (by rfl) ?_;conv=>whnf)|(refine cF (by rfl) ?_;conv=>whnf)))
      refine ldS (ho6.cell rfl) ?_;((conv=>whnf);repeat(first|(refine mvT ?_;conv=>whnf)|(refine mvF ?_;conv=>whnf)|(refine cT (by rfl) ?_;conv=>whnf)|(refine cF (by rfl) ?_;conv=>whnf)))
      have ho6 := ho6.e0 (ext_drew _)
      have hx210 := hx210.e0 (ext_drew _)
      have ho2d := ho2.e0 hx210
      have hzok := hzt.ok
      refine VD.draw mixed (.q 0 (.q 2 (.q 3 (.q 4 (.q 5 (.q 6 (.alt (.eff 1 [3, 6] (.eff 7 [0] (.q 8 (.eff 9 [] (.q 10 (.done)))))) (.eff 7 [0] (.q 8 (.eff 1 [3, 6] (.eff 9 [] (.q 10 (.done))))))))))))) (by kernel_rfl) ?_;((conv=>whnf);repeat(first|(refine mvT ?_;conv=>whnf)|(refine mvF ?_;conv=>whnf)|(refine cT (by rfl) ?_;conv=>whnf)|(refine cF (by rfl) ?_;conv=>whnf)))
      refine ⟨_, rfl, ho6.cells, ?_⟩
      ((conv=>whnf);repeat(first|(refine mvT ?_;conv=>whnf)|(refine mvF ?_;conv=>whnf)|(refine cT (by rfl) ?_;conv=>whnf)|(refine cF (by rfl) ?_;conv=>whnf)))
      refine ldS (ho2d.cell rfl) ?_;((conv=>whnf);repeat(first|(refine mvT ?_;conv=>whnf)|(refine mvF ?_;conv=>whnf)|(refine cT (by rfl) ?_;conv=>whnf)|(refine cF (by rfl) ?_;conv=>whnf)))
      refine ⟨bz, oz, rfl, ⟨by omega, by omega⟩, ?_⟩
      ((conv=>whnf);repeat(first|(refine mvT ?_;conv=>whnf)|(refine mvF ?_;conv=>whnf)|(refine cT (by rfl) ?_;conv=>whnf)|(refine cF (by rfl) ?_;conv=>whnf)))
      generalize lz[i] = czz at hzt hcz' hzok
      obtain ⟨en, esv, enl, elv, euv, rfl⟩ := hzt.five
      have hfin : ∀ w', Ext nob w10.drew w' → Ext nob w2 w' := fun w' h => hx210.e0 h
      have hU : ∀ {w20 : World} {b20 b21 : Nat} {T1 T2 : TypeId}, Ext nob w10.drew w20 → Own w20 b20 T1 [.int .i64 kind, .int .i64 fr, .int .i64 to, .int .i64 nul, .int .i64 (-1), .int .i64 df, .int .i64 of, sv] → Own w20 b21 T2 [.int .i64 en, esv, .bool enl, elv, euv] →
          Does X.P 21 #[.slice (some ⟨b20, 0, none⟩) 1 1, .agg #[.int .i64 0, .slice none 0 0, .bool false, .slice (some ⟨b21, 0, none⟩) 1 1, .slice none 0 0]] w20 fun r w' => r = .bool true ∧ Ext nob w20 w' := by
        intro w20 b20 b21 T1 T2 h1 h2 h3
        have hxx := (hx.e0 hx210).e0 h1
        have g1 : FdsR w20 anyB (.slice (some ⟨b20, 0, none⟩) 1 1) [.mk kind fr to nul (-1) df of sub] := FdL.fds (cs := [[.int .i64 kind, .int .i64 fr, .int .i64 to, .int .i64 nul, .int .i64 (-1), .int .i64 df, .int .i64 of, sv]]) ⟨(hfd0.e0 hxx).mono fun _ _ _ => trivial, trivial⟩ h2 rfl (by decide) trivial
        have g2 : TrC w20 anyB [.int .i64 0, .slice none 0 0, .bool false, .slice (some ⟨b21, 0, none⟩) 1 1, .slice none 0 0] (.mk 0 [] false [dfT (d' + 1) (.mk kind fr to nul (-1) df of sub)] []) := by
          refine .mk 0 [] false [_] [] _ _ _ [[.int .i64 en, esv, .bool enl, elv, euv]] rfl (Bytes.nil _ _) ((rows_sl (rows := [[.int .i64 en, esv, .bool enl, elv, euv]]) (n := 1) (B := 0) h3 (by simp) rfl (by rw [maxLen_eq]; decide) (Nat.zero_le _)).mono fun _ _ _ => trivial) rfl ?_ (TgsR.nil _ _)
          intro j c t e1 e2
          cases j with
          | zero =>
            simp only [List.getElem?_cons_zero, Option.some.injEq] at e1 e2
            subst e1
            subst e2
            exact (hzt.e0 hxx).mono fun _ _ _ => trivial
          | succ j => simp at e1
        exact usual1_does g1 ⟨_, rfl, g2⟩ ok1 hk10 hdf
      have hcz2 := (hcz'.e0 hx).e0 hx210
      refine ⟨_, rfl, by rw [Int.toNat_natCast]; exact hcz2, ?_⟩
      ((conv=>whnf);repeat(first|(refine mvT ?_;conv=>whnf)|(refine mvF ?_;conv=>whnf)|(refine cT (by rfl) ?_;conv=>whnf)|(refine cF (by rfl) ?_;conv=>whnf)))
      constructor
      · conv => whnf
        intro b20 w20 hb20 ho20 hx20
        refine ⟨by (conv => whnf); exact ⟨⟨_, (ho2d.e0 hx20).cell rfl, rfl, rfl⟩, ⟨_, rfl, by rw [Int.toNat_natCast]; exact hcz2.e0 hx20, rfl, rfl⟩, trivial⟩, ?_⟩
        conv => whnf
        intro b21 w21 hb21 ho21 hx21
        refine ⟨by (conv => whnf); exact ⟨⟨_, rfl, ((ho6.e0 hx20).e0 hx21).cells, rfl, rfl⟩, trivial⟩, ?_⟩
        ((conv=>whnf);repeat(first|(refine mvT ?_;conv=>whnf)|(refine mvF ?_;conv=>whnf)|(refine cT (by rfl) ?_;conv=>whnf)|(refine cF (by rfl) ?_;conv=>whnf)))
        refine Does.mono (hU (hx20.e0 hx21) (ho20.e0 hx21) ho21) ?_
        rintro r22 w22 ⟨rfl, hx22⟩
        ((conv=>whnf);repeat(first|(refine mvT ?_;conv=>whnf)|(refine mvF ?_;conv=>whnf)|(refine cT (by rfl) ?_;conv=>whnf)|(refine cF (by rfl) ?_;conv=>whnf)))
        exact ⟨i + 1, ⟨rfl, rfl, rfl, rfl, rfl, rfl, rfl, inc_eq (by rw [maxLen_eq] at hm; omega), trivial⟩, ⟨hfin _ ((hx20.e0 hx21).e0 hx22), by omega⟩, by omega⟩
      · conv => whnf
        intro b21 w21 hb21 ho21 hx21
        refine ⟨by (conv => whnf); exact ⟨⟨_, rfl, (ho6.e0 hx21).cells, rfl, rfl⟩, trivial⟩, ?_⟩
        ((conv=>whnf);repeat(first|(refine mvT ?_;conv=>whnf)|(refine mvF ?_;conv=>whnf)|(refine cT (by rfl) ?_;conv=>whnf)|(refine cF (by rfl) ?_;conv=>whnf)))
        intro b20 w20 hb20 ho20 hx20
        refine ⟨by (conv => whnf); exact ⟨⟨_, ((ho2d.e0 hx21).e0 hx20).cell rfl, rfl, rfl⟩, ⟨_, rfl, by rw [Int.toNat_natCast]; exact (hcz2.e0 hx21).e0 hx20, rfl, rfl⟩, trivial⟩, ?_⟩
        ((conv=>whnf);repeat(first|(refine mvT ?_;conv=>whnf)|(refine mvF ?_;conv=>whnf)|(refine cT (by rfl) ?_;conv=>whnf)|(refine cF (by rfl) ?_;conv=>whnf)))
        refine Does.mono (hU (hx21.e0 hx20) ho20 (ho21.e0 hx20)) ?_
        rintro r22 w22 ⟨rfl, hx22⟩
        ((conv=>whnf);repeat(first|(refine mvT ?_;conv=>whnf)|(refine mvF ?_;conv=>whnf)|(refine cT (by rfl) ?_;conv=>whnf)|(refine cF (by rfl) ?_;conv=>whnf)))
        exact ⟨i + 1, ⟨rfl, rfl, rfl, rfl, rfl, rfl, rfl, inc_eq (by rw [maxLen_eq] at hm; omega), trivial⟩, ⟨hfin _ ((hx21.e0 hx20).e0 hx22), by omega⟩, by omega⟩
    · have hyes : (Fd.mk kind fr to nul (-1) df of sub).tag < 0 ∧ hasF (Fd.mk kind fr to nul (-1) df of sub) v = true := ⟨by show (-1 : Int) < 0; decide, h2⟩
      rw [if_pos hyes] at hzt
      ((conv=>whnf);repeat(first|(refine mvT ?_;conv=>whnf)|(refine mvF ?_;conv=>whnf)|(refine cT (by rfl) ?_;conv=>whnf)|(refine cF (by rfl) ?_;conv=>whnf)))
      have ho6 := ho6.e0 (ext_drew _)
      have ho9 := ho9.e0 (ext_drew _)
      have hx210 := hx210.e0 (ext_drew _)
      have hcx := hcx.e0 (ext_drew _)
      have ho2d := ho2.e0 hx210
      refine VD.draw mixed (.q 0 (.q 1 (.q 2 (.q 3 (.q 4 (.q 5 (.q 6 (.q 7 (.q 8 (.eff 9 [] (.q 10 (.done)))))))))))) (by kernel_rfl) ?_;((conv=>whnf);repeat(first|(refine mvT ?_;conv=>whnf)|(refine mvF ?_;conv=>whnf)|(refine cT (by rfl) ?_;conv=>whnf)|(refine cF (by rfl) ?_;conv=>whnf)))
      refine ⟨_, rfl, ho6.cells, ?_⟩
      ((conv=>whnf);repeat(first|(refine mvT ?_;conv=>whnf)|(refine mvF ?_;conv=>whnf)|(refine cT (by rfl) ?_;conv=>whnf)|(refine cF (by rfl) ?_;conv=>whnf)))
      (refine mvB ?_;((conv=>whnf);repeat(first|(refine mvT ?_;conv=>whnf)|(refine mvF ?_;conv=>whnf)|(refine cT (by rfl) ?_;conv=>whnf)|(refine cF (by rfl) ?_;conv=>whnf))))
      refine ⟨_, rfl, ho9.cells, ?_⟩
      ((conv=>whnf);repeat(first|(refine mvT ?_;conv=>whnf)|(refine mvF ?_;conv=>whnf)|(refine cT (by rfl) ?_;conv=>whnf)|(refine cF (by rfl) ?_;conv=>whnf)))
      refine ldS (ho2d.cell rfl) ?_;((conv=>whnf);repeat(first|(refine mvT ?_;conv=>whnf)|(refine mvF ?_;conv=>whnf)|(refine cT (by rfl) ?_;conv=>whnf)|(refine cF (by rfl) ?_;conv=>whnf)))
      refine ⟨bz, oz, rfl, ⟨by omega, by omega⟩, ?_⟩
      ((conv=>whnf);repeat(first|(refine mvT ?_;conv=>whnf)|(refine mvF ?_;conv=>whnf)|(refine cT (by rfl) ?_;conv=>whnf)|(refine cF (by rfl) ?_;conv=>whnf)))
      refine ⟨lz[i], hzt.len, by rw [Int.toNat_natCast]; exact (hcz'.e0 hx).e0 hx210, ?_⟩
      ((conv=>whnf);repeat(first|(refine mvT ?_;conv=>whnf)|(refine mvF ?_;conv=>whnf)|(refine cT (by rfl) ?_;conv=>whnf)|(refine cF (by rfl) ?_;conv=>whnf)))
      refine Does.mono (hfd (hfd0.e0 (hx.e0 hx210)) ⟨_, rfl, hcx⟩ ⟨_, rfl, hzt.e0 (hx.e0 hx210)⟩ ok1 ok2 ok3 ok4 hv) ?_
      rintro r11 w11 ⟨rfl, hx11⟩
      ((conv=>whnf);repeat(first|(refine mvT ?_;conv=>whnf)|(refine mvF ?_;conv=>whnf)|(refine cT (by rfl) ?_;conv=>whnf)|(refine cF (by rfl) ?_;conv=>whnf)))
      exact ⟨i + 1, ⟨rfl, rfl, rfl, rfl, rfl, rfl, rfl, inc_eq (by rw [maxLen_eq] at hm; omega), trivial⟩, ⟨hx210.e0 hx11, by omega⟩, by omega⟩
  · have hil : i = fl.length := by have := of_decide_eq_false h1; omega
    ((conv=>whnf);repeat(first|(refine mvT ?_;conv=>whnf)|(refine mvF ?_;conv=>whnf)|(refine cT (by rfl) ?_;conv=>whnf)|(refine cF (by rfl) ?_;conv=>whnf)))
    refine ldS ((ho.e0 hx3).cell rfl) ?_;((conv=>whnf);repeat(first|(refine mvT ?_;conv=>whnf)|(refine mvF ?_;conv=>whnf)|(refine cT (by rfl) ?_;conv=>whnf)|(refine cF (by rfl) ?_;conv=>whnf)))
    refine Does.mono (unknown_does ((hf0.e0 hx).e0 hx3) (fun f hf => okF_tag (hok.f f hf)) ((hu.e0 hx).e0 hx3)) ?_
    rintro r4 w4 ⟨hr4, hx4⟩
    have hx24 := hx3.e0 hx4
    have hx04 := hx.e0 hx24
    obtain ⟨l4, hl4s, hl4, hr4'⟩ := hr4.tgs (G := anyB) (fun _ _ => trivial) (fun _ _ => trivial)
    obtain ⟨a4, c4, rfl, hc4, hm4, _, _, hC4⟩ := hl4s.view
    ((conv=>whnf);repeat(first|(refine mvT ?_;conv=>whnf)|(refine mvF ?_;conv=>whnf)|(refine cT (by rfl) ?_;conv=>whnf)|(refine cF (by rfl) ?_;conv=>whnf)))
    cases fx
    · have hlu0 : lu.length = 0 := by rw [hlul]; rfl
      ((conv=>whnf);repeat(first|(refine mvT ?_;conv=>whnf)|(refine mvF ?_;conv=>whnf)|(refine cT (by rfl) ?_;conv=>whnf)|(refine cF (by rfl) ?_;conv=>whnf)))
      refine ldS ((ho2.e0 hx24).cell rfl) ?_;((conv=>whnf);repeat(first|(refine mvT ?_;conv=>whnf)|(refine mvF ?_;conv=>whnf)|(refine cT (by rfl) ?_;conv=>whnf)|(refine cF (by rfl) ?_;conv=>whnf)))
      refine cI (by rfl) (fun h2=>?_) (fun h2=>?_)
      · simp [hlu0] at h2
      ((conv=>whnf);repeat(first|(refine mvT ?_;conv=>whnf)|(refine mvF ?_;conv=>whnf)|(refine cT (by rfl) ?_;conv=>whnf)|(refine cF (by rfl) ?_;conv=>whnf)))
      refine VL.loop (fun _ : Unit => [(9, .pointer (some ⟨b2, 0, none⟩)), (90, .slice none 0 0), (91, .int .i64 0), (92, .int .i64 0)]) (fun _ w' => Ext nob w4 w') (fun _ => 0) () ⟨rfl, rfl, rfl, rfl, trivial⟩ (Ext.refl _ _) ?_
      rintro _ w5 hx5
      ((conv=>whnf);repeat(first|(refine mvT ?_;conv=>whnf)|(refine mvF ?_;conv=>whnf)|(refine cT (by rfl) ?_;conv=>whnf)|(refine cF (by rfl) ?_;conv=>whnf)))
      exact ⟨rfl, hx04.e0 hx5⟩
    · have hul : lu.length = l4.length := by rw [hlul, hl4]; simp
      ((conv=>whnf);repeat(first|(refine mvT ?_;conv=>whnf)|(refine mvF ?_;conv=>whnf)|(refine cT (by rfl) ?_;conv=>whnf)|(refine cF (by rfl) ?_;conv=>whnf)))
      refine ldS ((ho2.e0 hx24).cell rfl) ?_;((conv=>whnf);repeat(first|(refine mvT ?_;conv=>whnf)|(refine mvF ?_;conv=>whnf)|(refine cT (by rfl) ?_;conv=>whnf)|(refine cF (by rfl) ?_;conv=>whnf)))
      refine cI (by rfl) (fun h2=>?_) (fun h2=>?_)
      · simp [hul] at h2
      ((conv=>whnf);repeat(first|(refine mvT ?_;conv=>whnf)|(refine mvF ?_;conv=>whnf)|(refine cT (by rfl) ?_;conv=>whnf)|(refine cF (by rfl) ?_;conv=>whnf)))
      refine VL.loop (fun i : Nat => [(9, .pointer (some ⟨b2, 0, none⟩)), (90, .slice a4 l4.length c4), (91, .int .i64 l4.length), (92, .int .i64 i)]) (fun i w' => Ext nob w4 w' ∧ i ≤ l4.length) (fun i => l4.length - i) 0 ⟨rfl, rfl, rfl, rfl, trivial⟩ ⟨Ext.refl _ _, Nat.zero_le _⟩ ?_
      rintro i w5 ⟨hx5, hi⟩
      ((conv=>whnf);repeat(first|(refine mvT ?_;conv=>whnf)|(refine mvF ?_;conv=>whnf)|(refine cT (by rfl) ?_;conv=>whnf)|(refine cF (by rfl) ?_;conv=>whnf)))
      refine cI (by rfl) (fun h3=>?_) (fun h3=>?_)
      · have hil : i < l4.length := by have := of_decide_eq_true h3; omega
        have hiu : i < (unknownT fs u).length := by omega
        have hilu : i < lu.length := by omega
        obtain ⟨b6, o6, rfl, hc6⟩ := hC4 i l4[i] (by simp [hil])
        obtain ⟨hk1, bv, hbv, hbb⟩ := hr4' i l4[i] (unknownT fs u)[i] (by simp [hil]) (by simp [hiu])
        obtain ⟨bq, oq, rfl, hcq⟩ := hCu i lu[i] (by simp [hilu])
        obtain ⟨hk2, bv2, hbv2, hbb2⟩ := hlur i lu[i] (cutT (unknownT fs u)[i]) (by simp [hilu]) (by
          show ((unknownT fs u).map cutT)[i]? = _
          rw [List.getElem?_map, List.getElem?_eq_getElem hiu]
          rfl)
        rw [hbv] at hc6
        rw [hbv2] at hcq
        generalize (unknownT fs u)[i] = x at hk1 hk2 hbb hbb2 hc6 hcq hbv hbv2
        have hcq : Cells w bq (oq + i * 2) [.int .u32 (x.1 : Int), bv2] := hcq
        have hbb2 : Bytes w G' bv2 (x.2.take most) := hbb2
        have hob := Sl.one hbb
        ((conv=>whnf);repeat(first|(refine mvT ?_;conv=>whnf)|(refine mvF ?_;conv=>whnf)|(refine cT (by rfl) ?_;conv=>whnf)|(refine cF (by rfl) ?_;conv=>whnf)))
        refine ⟨b6, o6, rfl, ⟨by omega, by omega⟩, ?_⟩
        ((conv=>whnf);repeat(first|(refine mvT ?_;conv=>whnf)|(refine mvF ?_;conv=>whnf)|(refine cT (by rfl) ?_;conv=>whnf)|(refine cF (by rfl) ?_;conv=>whnf)))
        refine ⟨_, rfl, by rw [Int.toNat_natCast]; exact hc6.e0 hx5, ?_⟩
        ((conv=>whnf);repeat(first|(refine mvT ?_;conv=>whnf)|(refine mvF ?_;conv=>whnf)|(refine cT (by rfl) ?_;conv=>whnf)|(refine cF (by rfl) ?_;conv=>whnf)))
        intro b7 w7 hb7 ho7 hx7
        ((conv=>whnf);repeat(first|(refine mvT ?_;conv=>whnf)|(refine mvF ?_;conv=>whnf)|(refine cT (by rfl) ?_;conv=>whnf)|(refine cF (by rfl) ?_;conv=>whnf)))
        refine st_all [.int .u32 (x.1 : Int), bv] ho7 rfl rfl (ok_cons rfl (ok_cons hob ok_nil)) ?_
        intro w8 ho8 hx8
        ((conv=>whnf);repeat(first|(refine mvT ?_;conv=>whnf)|(refine mvF ?_;conv=>whnf)|(refine cT (by rfl) ?_;conv=>whnf)|(refine cF (by rfl) ?_;conv=>whnf)))
        have hx58 : Ext nob w5 w8.drew := (hx7.st hx8 hb7).e0 (ext_drew _)
        have ho8 := ho8.e0 (ext_drew _)
        have hx48 := hx5.e0 hx58
        have hx08 := hx04.e0 hx48
        have ho2d := ho2.e0 (hx24.e0 hx48)
        have hcqd := hcq.e0 hx08
        refine VD.draw mixed (.q 0 (.q 1 (.q 2 (.q 3 (.q 4 (.q 5 (.q 6 (.q 7 (.q 8 (.q 9 (.q 10 (.q 11 (.q 12 (.q 13 (.q 14 (.q 15 (.q 16 (.q 17 (.eff 18 [11, 15] (.eff 19 [] (.q 20 (.q 21 (.done))))))))))))))))))))))) (by kernel_rfl) ?_;((conv=>whnf);repeat(first|(refine mvT ?_;conv=>whnf)|(refine mvF ?_;conv=>whnf)|(refine cT (by rfl) ?_;conv=>whnf)|(refine cF (by rfl) ?_;conv=>whnf)))
        refine ldS (ho2d.cell rfl) ?_;((conv=>whnf);repeat(first|(refine mvT ?_;conv=>whnf)|(refine mvF ?_;conv=>whnf)|(refine cT (by rfl) ?_;conv=>whnf)|(refine cF (by rfl) ?_;conv=>whnf)))
        refine ⟨bq, oq, rfl, ⟨by omega, by omega⟩, ?_⟩
        ((conv=>whnf);repeat(first|(refine mvT ?_;conv=>whnf)|(refine mvF ?_;conv=>whnf)|(refine cT (by rfl) ?_;conv=>whnf)|(refine cF (by rfl) ?_;conv=>whnf)))
        refine ⟨_, ld (hcqd.cell (j := 0) rfl) (by simp), ?_⟩
        ((conv=>whnf);repeat(first|(refine mvT ?_;conv=>whnf)|(refine mvF ?_;conv=>whnf)|(refine cT (by rfl) ?_;conv=>whnf)|(refine cF (by rfl) ?_;conv=>whnf)))
        refine ldS (ho8.cell rfl) ?_;((conv=>whnf);repeat(first|(refine mvT ?_;conv=>whnf)|(refine mvF ?_;conv=>whnf)|(refine cT (by rfl) ?_;conv=>whnf)|(refine cF (by rfl) ?_;conv=>whnf)))
        intro cq hq
        cases cq
        · ((conv=>whnf);repeat(first|(refine mvT ?_;conv=>whnf)|(refine mvF ?_;conv=>whnf)|(refine cT (by rfl) ?_;conv=>whnf)|(refine cF (by rfl) ?_;conv=>whnf)))
          refine ldS (ho2d.cell rfl) ?_;((conv=>whnf);repeat(first|(refine mvT ?_;conv=>whnf)|(refine mvF ?_;conv=>whnf)|(refine cT (by rfl) ?_;conv=>whnf)|(refine cF (by rfl) ?_;conv=>whnf)))
          refine ⟨bq, oq, rfl, ⟨by omega, by omega⟩, ?_⟩
          ((conv=>whnf);repeat(first|(refine mvT ?_;conv=>whnf)|(refine mvF ?_;conv=>whnf)|(refine cT (by rfl) ?_;conv=>whnf)|(refine cF (by rfl) ?_;conv=>whnf)))
          refine ⟨_, ld (hcqd.cell (j := 1) rfl) (by simp), ?_⟩
          ((conv=>whnf);repeat(first|(refine mvT ?_;conv=>whnf)|(refine mvF ?_;conv=>whnf)|(refine cT (by rfl) ?_;conv=>whnf)|(refine cF (by rfl) ?_;conv=>whnf)))
          refine ldS (ho8.cell rfl) ?_;((conv=>whnf);repeat(first|(refine mvT ?_;conv=>whnf)|(refine mvF ?_;conv=>whnf)|(refine cT (by rfl) ?_;conv=>whnf)|(refine cF (by rfl) ?_;conv=>whnf)))
          refine Does.mono (whole_does (hbb.e0 hx48)) ?_
          rintro r9 w9 ⟨hr9, rfl⟩
          refine ⟨by (conv => whnf); exact ⟨⟨_, ho2d.cell rfl, rfl, rfl⟩, ⟨_, ld (hcqd.cell (j := 1) rfl) (by simp), rfl, rfl⟩, trivial⟩, ?_⟩
          ((conv=>whnf);repeat(first|(refine mvT ?_;conv=>whnf)|(refine mvF ?_;conv=>whnf)|(refine cT (by rfl) ?_;conv=>whnf)|(refine cF (by rfl) ?_;conv=>whnf)))
          refine Does.mono (Same_does (hbb2.e0 hx08) hr9) ?_
          rintro r10 w10 ⟨rfl, hx10⟩
          ((conv=>whnf);repeat(first|(refine mvT ?_;conv=>whnf)|(refine mvF ?_;conv=>whnf)|(refine cT (by rfl) ?_;conv=>whnf)|(refine cF (by rfl) ?_;conv=>whnf)))
          refine cI (by rfl) (fun h9=>?_) (fun h9=>?_)
          · simp at h9
          · ((conv=>whnf);repeat(first|(refine mvT ?_;conv=>whnf)|(refine mvF ?_;conv=>whnf)|(refine cT (by rfl) ?_;conv=>whnf)|(refine cF (by rfl) ?_;conv=>whnf)))
            exact ⟨i + 1, ⟨rfl, rfl, rfl, inc_eq (by rw [maxLen_eq] at hm4; omega), trivial⟩, ⟨hx48.e0 hx10, by omega⟩, by omega⟩
        · simp at hq
      · ((conv=>whnf);repeat(first|(refine mvT ?_;conv=>whnf)|(refine mvF ?_;conv=>whnf)|(refine cT (by rfl) ?_;conv=>whnf)|(refine cF (by rfl) ?_;conv=>whnf)))
        exact ⟨rfl, hx04.e0 hx5⟩
theorem Told_do : ∀ d, TldP d
  | 0 => told_part fun _ _ _ h1 => by simp [okF] at h1
  | d + 1 => told_part (told_field (Told_do d))
theorem Told_does (d : Nat) {F G G' : Nat → Prop} {w : World} {y x z : Value} {fs : List Fd} {t : T} {v : Int} {fx : Bool} (hf : FdsR w F y fs) (ht : Tr w G x t) (hz : Tr w G' z (toPart (d + 1) v fx fs t)) (h1 : ∀ f, f ∈ fs → okF (d + 1) f = true) (h2 : ∀ f, f ∈ fs → ntF (d + 1) f = true) (h3 : ∀ f, f ∈ fs → okW (d + 1) f = true) (h4 : ∀ f, f ∈ fs → okN (d + 1) f = true) (hl : fs.length ≤ 1000) (hv : 0 ≤ v) :
    Does X.P 8 #[y, .int .i64 v, .bool fx, x, z] w fun r w' => r = .bool true ∧ Ext nob w w' := Told_do (d + 1) (k := 0) hf ht hz ⟨h1, h2, h3, h4, hl⟩ hv
theorem ToldN_does (d : Nat) (k : Int) {F G G' : Nat → Prop} {w : World} {y x z : Value} {fs : List Fd} {t : T} {v : Int} {fx : Bool} (hf : FdsR w F y fs) (ht : Tr w G x t) (hz : Tr w G' z (withN k (toPart (d + 1) v fx fs t))) (h1 : ∀ f, f ∈ fs → okF (d + 1) f = true) (h2 : ∀ f, f ∈ fs → ntF (d + 1) f = true) (h3 : ∀ f, f ∈ fs → okW (d + 1) f = true) (h4 : ∀ f, f ∈ fs → okN (d + 1) f = true) (hl : fs.length ≤ 1000) (hv : 0 ≤ v) :
    Does X.P 8 #[y, .int .i64 v, .bool fx, x, z] w fun r w' => r = .bool true ∧ Ext nob w w' := Told_do (d + 1) hf ht hz ⟨h1, h2, h3, h4, hl⟩ hv
end Go.Proofs.YtgajnmbjchdioaaDoor.K
