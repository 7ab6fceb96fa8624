/- Appending one tag; going over the tags by rising numbers. -/
import Derived.Test.YtibbkhcdplijdaaGreatDoorB9
set_option linter.unusedVariables false
set_option linter.unusedSimpArgs false
namespace Go.Proofs.YtibbkhcdplijdaaGreatDoor.K
open Go
set_option maxHeartbeats 800000

/-- What block p holds has grown from v, of l, to v', of l and m. -/
structure Grew (w : World) (B p : Nat) (v : Value) (l m : List UInt8) (v' : Value) (w' : World) : Prop where
  ob : OB w' B v' (l ++ m)
  ext : Ext (fun j => j = p ∨ v.ownBlock = some j) w w'
  blk : v'.ownBlock = v.ownBlock ∨ ∃ k, v'.ownBlock = some k ∧ w.heap.size ≤ k
theorem Grew.start {w : World} {B p : Nat} {v : Value} {l : List UInt8} (h : OB w B v l) : Grew w B p v l [] v w := ⟨by rw [List.append_nil]; exact h, Ext.refl _ _, .inl rfl⟩
theorem Grew.pre0 {w w1 w2 : World} {B p : Nat} {v r : Value} {l m : List UInt8} (h : Grew w1 B p v l m r w2) (x : Ext nob w w1) : Grew w B p v l m r w2 := ⟨h.ob, (x.mono fun _ _ f => f.elim).trans h.ext fun _ _ h => h, h.blk.imp id fun ⟨k, h1, h2⟩ => ⟨k, h1, Nat.le_trans x.size h2⟩⟩
theorem Grew.tr {w w1 w2 : World} {B p : Nat} {v r r2 : Value} {l m m2 : List UInt8} (h : Grew w B p v l m r w1) (h2 : Grew w1 B p r (l ++ m) m2 r2 w2) : Grew w B p v l (m ++ m2) r2 w2 := by
  refine ⟨by rw [← List.append_assoc]; exact h2.ob, h.ext.trans h2.ext fun k hk hr => ?_, ?_⟩
  · rcases hr with hr | hr
    · exact .inl hr
    rcases h.blk with e | ⟨q, hq, hle⟩
    · rw [← e]; exact .inr hr
    · rw [hq, Option.some.injEq] at hr
      omega
  · rcases h2.blk with e | ⟨q, hq, hle⟩
    · rw [e]
      exact h.blk
    · exact .inr ⟨q, hq, Nat.le_trans h.ext.size hle⟩
theorem Apd.grew {w w1 w2 : World} {B p : Nat} {v r : Value} {l m : List UInt8} (h : Apd w B v l m r w1) (x : Ext (fun k => k = p) w1 w2) (hp : p < w.heap.size) (hv : v.ownBlock ≠ some p) : Grew w B p v l m r w2 := by
  refine ⟨h.ob.ext x fun j hj e => ?_, (h.ext.mono fun _ _ h => .inr h).trans x fun _ _ h => .inl h, h.blk⟩
  rcases h.blk with g | ⟨q, hq, hle⟩
  · exact hv (g ▸ e ▸ hj)
  · rw [hq, Option.some.injEq] at hj
    omega
theorem Grew.ne {w w' : World} {B p : Nat} {v r : Value} {l m : List UInt8} (h : Grew w B p v l m r w') {j : Nat} (hv : v.ownBlock ≠ some j) (hj : j < w.heap.size) : r.ownBlock ≠ some j := by
  intro hr
  rcases h.blk with e | ⟨q, hq, hle⟩
  · exact hv (e ▸ hr)
  · rw [hq, Option.some.injEq] at hr
    omega
theorem each1_does {w : World} {F : Nat → Prop} {B p : Nat} {Ty : TypeId} {v x : Value} {l m : List UInt8} {k : Nat} (hp : Own w p Ty [v]) (h : OB w B v l) (hB : B ≤ w.heap.size) (hpv : v.ownBlock ≠ some p) (hx : Bytes w F x m) (hF : ∀ j, j < w.heap.size → F j → j ≠ p ∧ v.ownBlock ≠ some j) (hk : k < 2 ^ 32) (hm : m.length < 2 ^ 32) (hl : l.length + (10 + m.length) ≤ 105000000000000) :
    Does X.P 112 #[.int .u32 (k : Int), x, .pointer (some ⟨p, 0, none⟩)] w fun r w' => ∃ v', Own w' p Ty [v'] ∧ Grew w B p v l (tagB (k, m)) v' w' := by
  have hplt := hp.lt
  obtain ⟨a, c, rfl, _⟩ := hx.view
  refine Does.go (X := X) (l := [_, _, _]) Tryz.func112 rfl (by kernel_rfl) (by kernel_rfl) _ rfl ?_
  ((conv=>whnf);repeat((first|refine mvT ?_|refine mvF ?_|refine yT ?_|refine yF ?_);conv=>whnf))
  refine ldS (hp.cell rfl) ?_;((conv=>whnf);repeat((first|refine mvT ?_|refine mvF ?_|refine yT ?_|refine yF ?_);conv=>whnf))
  refine Does.mono (AppendUvarint_does h hB k hk (by omega)) ?_;rintro r1 w1 h1;((conv=>whnf);repeat((first|refine mvT ?_|refine mvF ?_|refine yT ?_|refine yF ?_);conv=>whnf))
  have hp1 : Own w1 p Ty [v] := hp.ext h1.ext hpv
  have hu1 : (uvar k).length ≤ 10 := by rcases uvar_length k with h | h <;> omega
  have hu2 : (uvar m.length).length ≤ 10 := by rcases uvar_length m.length with h | h <;> omega
  have nb1 : ∀ {v r : Value} {w w' : World} {l m : List UInt8}, Apd w B v l m r w' → v.ownBlock ≠ some p → p < w.heap.size → r.ownBlock ≠ some p := by
    intro v r w w' l m h hv hp hr
    rcases h.blk with e | ⟨q, hq, hle⟩
    · exact hv (e ▸ hr)
    · rw [hq, Option.some.injEq] at hr
      omega
  have hs1 : w.heap.size ≤ w1.heap.size := h1.size
  have hv1 := nb1 h1 hpv hplt
  obtain ⟨a1, c1, rfl, _⟩ := h1.ob.shape
  refine st_cell (o := 0) (v := .slice a1 (l ++ uvar k).length c1) hp1 rfl (by omega) rfl (by simp) rfl ?_
  intro w2 ho2 hx2
  have hs2 : w1.heap.size ≤ w2.heap.size := hx2.size
  have g2 := h1.grew hx2 hplt hpv
  ((conv=>whnf);repeat((first|refine mvT ?_|refine mvF ?_|refine yT ?_|refine yF ?_);conv=>whnf))
  refine ldS (ho2.cell rfl) ?_;((conv=>whnf);repeat((first|refine mvT ?_|refine mvF ?_|refine yT ?_|refine yF ?_);conv=>whnf))
  have hmw : IntKind.u32.wrap (m.length : Int) = (m.length : Int) := u32_nat (by omega)
  rw [hmw]
  refine Does.mono (AppendUvarint_does g2.ob (by omega) m.length hm (by rw [List.length_append]; omega)) ?_;rintro r3 w3 h3;((conv=>whnf);repeat((first|refine mvT ?_|refine mvF ?_|refine yT ?_|refine yF ?_);conv=>whnf))
  have hs3 : w2.heap.size ≤ w3.heap.size := h3.size
  have hv3 := nb1 h3 hv1 (by omega)
  have hp3 : Own w3 p Ty _ := ho2.ext h3.ext hv1
  obtain ⟨a3, c3, rfl, _⟩ := h3.ob.shape
  refine st_cell (o := 0) (v := .slice a3 (l ++ uvar k ++ uvar m.length).length c3) hp3 rfl (by omega) rfl (by simp) rfl ?_
  intro w4 ho4 hx4
  have hs4 : w3.heap.size ≤ w4.heap.size := hx4.size
  have g4 := g2.tr (h3.grew hx4 (by omega) hv1)
  rw [List.append_assoc] at ho4 g4
  have hx4b : Bytes w4 (fun j => F j ∧ j < w.heap.size) (.slice a m.length c) m := (Sl.mono hx fun j hj hf => ⟨hf, hj⟩).ext g4.ext fun j _ ⟨h1, h2⟩ h3 => by
    obtain ⟨h4, h5⟩ := hF j h2 h1
    rcases h3 with h3 | h3
    · exact h4 h3
    · exact h5 h3
  ((conv=>whnf);repeat((first|refine mvT ?_|refine mvF ?_|refine yT ?_|refine yF ?_);conv=>whnf))
  refine ldS (ho4.cell rfl) ?_;((conv=>whnf);repeat((first|refine mvT ?_|refine mvF ?_|refine yT ?_|refine yF ?_);conv=>whnf))
  refine app_apd rfl rfl g4.ob hx4b.src rfl (by simp only [List.length_append]; omega) (by omega) ?_
  intro r5 w5 h5
  ((conv=>whnf);repeat((first|refine mvT ?_|refine mvF ?_|refine yT ?_|refine yF ?_);conv=>whnf))
  have hv4 := g4.ne hpv hplt
  have hp5 : Own w5 p Ty _ := ho4.ext h5.ext hv4
  obtain ⟨a5, c5, rfl, _⟩ := h5.ob.shape
  refine st_cell (o := 0) (v := .slice a5 (l ++ (uvar k ++ uvar m.length) ++ m).length c5) hp5 rfl (by omega) rfl (by simp) rfl ?_
  intro w6 ho6 hx6
  ((conv=>whnf);repeat((first|refine mvT ?_|refine mvF ?_|refine yT ?_|refine yF ?_);conv=>whnf))
  exact ⟨_, ho6, g4.tr (h5.grew hx6 (by omega) hv4)⟩
end Go.Proofs.YtibbkhcdplijdaaGreatDoor.K
