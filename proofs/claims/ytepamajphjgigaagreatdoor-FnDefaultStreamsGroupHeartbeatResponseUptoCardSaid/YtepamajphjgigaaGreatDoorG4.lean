
/- Slices of structs that are our own. -/
import Derived.Test.YtepamajphjgigaaGreatDoorG3
set_option linter.unusedVariables false
set_option linter.unusedSimpArgs false
namespace Go.Proofs.YtepamajphjgigaaGreatDoor.K
open Go
set_option maxHeartbeats 400000

/-- v is a slice of our own, from block B on: its things' cells. -/
structure OSl (w : World) (B : Nat) (e : TypeId) (sz : Nat) (v : Value) (ls : List (List Value)) : Prop where
  own : OwnSl w e sz v ls.length ls.flatten
  len : ∀ c, c ∈ ls → c.length = sz
  blk : ∀ k, v.ownBlock = some k → B ≤ k
theorem OSl.nil (w : World) (B : Nat) (e : TypeId) (sz : Nat) : OSl w B e sz (.slice none 0 0) [] := ⟨OwnSl.nil w e sz, by simp, by simp [Value.ownBlock]⟩
theorem OSl.ext {M : Nat → Prop} {w w' : World} {B : Nat} {e : TypeId} {sz : Nat} {v : Value} {ls : List (List Value)} (h : OSl w B e sz v ls) (x : Ext M w w') (hb : ∀ k, v.ownBlock = some k → ¬ M k) : OSl w' B e sz v ls := ⟨h.own.ext x hb, h.len, h.blk⟩
theorem OSl.e0 {w w' : World} {B : Nat} {e : TypeId} {sz : Nat} {v : Value} {ls : List (List Value)} (h : OSl w B e sz v ls) (x : Ext nob w w') : OSl w' B e sz v ls := h.ext x fun _ _ f => f
theorem OSl.sl {w : World} {B : Nat} {e : TypeId} {sz : Nat} {v : Value} {ls : List (List Value)} (h : OSl w B e sz v ls) {F : Nat → Prop} (hF : ∀ k, B ≤ k → F k) : SlE w F sz v ls := ⟨h.own.sl fun k hk => hF k (h.blk k hk), h.len⟩
theorem OSl.mono {w : World} {B B' : Nat} {e : TypeId} {sz : Nat} {v : Value} {ls : List (List Value)} (h : OSl w B e sz v ls) (hB : B' ≤ B) : OSl w B' e sz v ls := ⟨h.own, h.len, fun k hk => Nat.le_trans hB (h.blk k hk)⟩
theorem take_add' {α : Type} {c r : List α} {s k : Nat} (h : c.length = s) : (c ++ r).take (s + k) = c ++ r.take k := by
  subst h
  exact List.take_length_add_append k
theorem drop_add' {α : Type} {c r : List α} {s k : Nat} (h : c.length = s) : (c ++ r).drop (s + k) = r.drop k := by
  subst h
  exact List.drop_length_add_append k
theorem set_flatten {α : Type} (sz : Nat) : ∀ (ls : List (List α)) (i : Nat) (m : List α), (∀ c, c ∈ ls → c.length = sz) → m.length = sz → i < ls.length → (ls.set i m).flatten = ls.flatten.take (i * sz) ++ m ++ ls.flatten.drop (i * sz + sz)
  | [], i, m, _, _, h => by simp at h
  | c :: r, 0, m, hu, hm, _ => by
    have hc := hu c (by simp)
    simp [← hc]
  | c :: r, i + 1, m, hu, hm, hi => by
    have hc := hu c (by simp)
    have ih := set_flatten sz r i m (fun c hc => hu c (by simp [hc])) hm (by simpa using hi)
    rw [List.set_cons_succ, List.flatten_cons, ih, List.flatten_cons, show (i + 1) * sz = sz + i * sz from by rw [Nat.add_mul]; omega, take_add' hc, show sz + i * sz + sz = sz + (i * sz + sz) from by omega, drop_add' hc]
    simp
theorem OSl.put {w : World} {B : Nat} {e : TypeId} {sz : Nat} {v : Value} {ls : List (List Value)} (h : OSl w B e sz v ls) {i : Nat} (hi : i < ls.length) :
    ∃ g cap, v = .slice (some ⟨g, 0, none⟩) ls.length cap ∧ B ≤ g ∧ g < w.heap.size ∧ ∀ (m : List Value) (sz' p : Nat) (K : World → Prop), m.length = sz → sz' = sz → p = i * sz → okCells m = true →
      (∀ w', OSl w' B e sz v (ls.set i m) → Ext (fun k => k = g) w w' → K w') →
      ∃ T l, Own w g T l ∧ m.length.beq sz' = true ∧ okCells m = true ∧ (p + sz').ble l.length = true ∧ ∀ w', Own w' g T (splice l p m) → Ext (fun k => k = g) w w' → K w' := by
  obtain ⟨⟨hl, hc⟩, hu, hb⟩ := h
  rcases hc with ⟨rfl, h0⟩ | ⟨g, cap, cur, rfl, h0, hg, hn, hm, hcur, hp⟩
  · omega
  · have hlen : g < w.heap.size := (Array.getElem?_eq_some_iff.1 hg).1
    refine ⟨g, cap, rfl, hb g rfl, hlen, fun m sz' p K h1 h2 h3 h4 k => ?_⟩
    subst h2
    subst h3
    have hfit : i * sz' + sz' ≤ cur.toList.length := by
      rw [Array.length_toList, hcur]
      have : (i + 1) * sz' ≤ cap * sz' := Nat.mul_le_mul_right _ (by omega)
      rw [Nat.add_mul] at this
      omega
    refine ⟨e, cur.toList, by simpa [Own] using hg, by rw [h1]; exact Nat.beq_refl _, h4, by rw [Nat.ble_eq]; exact hfit, fun w' ho x => k w' ⟨⟨?_, .inr ⟨g, cap, (splice cur.toList (i * sz') m).toArray, ?_, Nat.zero_le _, ho, ?_, hm, ?_, ?_⟩⟩, ?_, hb⟩ x⟩
    · rw [set_flatten sz' ls i m hu h1 hi]
      simp only [List.length_append, List.length_take, List.length_drop, hl, List.length_set, h1]
      have : (i + 1) * sz' ≤ ls.length * sz' := Nat.mul_le_mul_right _ hi
      rw [Nat.add_mul] at this
      omega
    · rw [List.length_set]
    · rw [List.length_set]; exact hn
    · rw [List.size_toArray, splice_length (by rw [h1]; exact hfit), Array.length_toList, hcur]
    · rw [List.length_set, set_flatten sz' ls i m hu h1 hi, ← hp]
      have e1 : (i + 1) * sz' ≤ ls.length * sz' := Nat.mul_le_mul_right _ hi
      rw [Nat.add_mul] at e1
      have e2 : ls.length * sz' = (i * sz' + sz') + (ls.length * sz' - (i * sz' + sz')) := by omega
      have e3 : (cur.toList.take (i * sz') ++ m).length = i * sz' + sz' := by rw [List.length_append, List.length_take, h1]; omega
      simp only [splice, h1]
      rw [List.take_take, Nat.min_eq_left (by omega : i * sz' ≤ ls.length * sz'), List.drop_take]
      conv => lhs; rw [e2]
      rw [take_add' e3]
    · intro c hc
      rcases List.mem_or_eq_of_mem_set hc with h | h
      · exact hu c h
      · rw [h]; exact h1
theorem OSl.elem {w : World} {B : Nat} {e : TypeId} {sz : Nat} {g n cap : Nat} {ls : List (List Value)} (h : OSl w B e sz (.slice (some ⟨g, 0, none⟩) n cap) ls) {i : Nat} {c : List Value} (hi : ls[i]? = some c) : Cells w g (0 + i * sz) c := by
  obtain ⟨a, cp, ha, _, _, _, _, hC⟩ := (h.sl (F := anyB) fun _ _ => trivial).view
  obtain ⟨b, o, hb, hc⟩ := hC i c hi
  injection ha with h1
  rw [← h1] at hb
  injection hb with hb
  injection hb with e1 e2
  rw [e1, e2]
  exact hc
theorem app_struct {w : World} {B : Nat} {e : TypeId} {sz sz' by0 : Nat} {v x : Value} {ls ms : List (List Value)} {K : Value → World → Prop} {z : List Value} (hsz : sz' = sz) (h : OSl w B e sz v ls) (hs : Src w sz x ms.length ms.flatten) (hms : ∀ c, c ∈ ms → c.length = sz)
    (hok : okCells ms.flatten = true) (hz : z.length = sz) (hl : ls.length + ms.length ≤ 9223372036854775807 ∧ (ls.length + ms.length) * by0 ≤ 140737488355328) (hB : B ≤ w.heap.size)
    (k : ∀ v' w', OSl w' B e sz v' (ls ++ ms) → Ext (fun k => v.ownBlock = some k) w w' → (v'.ownBlock = v.ownBlock ∨ ∃ k, v'.ownBlock = some k ∧ w.heap.size ≤ k) → (v ≠ .slice none 0 0 → v' ≠ .slice none 0 0) → K v' w') :
    ∃ n xs m news, OwnSl w e sz' v n xs ∧ Src w sz' x m news ∧ (z.length = sz' ∧ okCells news = true) ∧ (n + m ≤ maxLen ∧ (n + m) * by0 ≤ 140737488355328) ∧
      ∀ v' w', OwnSl w' e sz' v' (n + m) (xs ++ news) → Appended w w' v v' → K v' w' := by
  subst hsz
  refine ⟨ls.length, ls.flatten, ms.length, ms.flatten, h.own, hs, ⟨hz, hok⟩, ⟨by rw [maxLen_eq]; exact hl.1, hl.2⟩, fun v' w' ho ha => k v' w' ⟨?_, ?_, fun j hj => ?_⟩ ha.ext ha.blk ha.nil⟩
  · rw [List.length_append, List.flatten_append]
    exact ho
  · intro c hc
    rcases List.mem_append.1 hc with hc | hc
    · exact h.len c hc
    · exact hms c hc
  · rcases ha.blk with hb | ⟨q, hq, hle⟩
    · rw [hb] at hj; exact h.blk j hj
    · rw [hq, Option.some.injEq] at hj
      omega
/-- One thing that a slice literal holds. -/
theorem src_one {w : World} {b : Nat} {Ty : TypeId} {m : List Value} {sz n c : Nat} (h : Own w b Ty m) (hm : m.length = sz) (hn : n = 1) : Src w sz (.slice (some ⟨b, 0, none⟩) n c) [m].length [m].flatten := by
  subst hn
  have := Src.some (sz := sz) b 0 1 c m (by omega) h.cells
  simpa using this
theorem knownN_le : ∀ (fs : List Fd) (n : Nat), (∀ f, f ∈ fs → f.tag ≤ 1000000) → n ≤ 1000001 → knownN fs n ≤ 1000001
  | [], n, _, h => h
  | f :: r, n, hf, h => by
    have h1 := hf f (by simp)
    refine knownN_le r _ (fun g hg => hf g (by simp [hg])) ?_
    split <;> omega
theorem u32_of {n : Int} (h0 : 0 ≤ n) (h : n < 4294967296) : IntKind.u32.wrap n = n := by
  simp [IntKind.wrap, IntKind.bits, IntKind.signed]
  omega
theorem known_does {F : Nat → Prop} {w : World} {x : Value} {fs : List Fd} (hf : FdsR w F x fs) (hok : ∀ f, f ∈ fs → f.tag ≤ 1000000) : Does X.P 40 #[x] w fun r w' => r = .int .u32 (knownN fs 0 : Nat) ∧ Ext nob w w' := by
  obtain ⟨ls, hsl, hlen, hr⟩ := hf
  obtain ⟨a, c, rfl, hc, hm, hF, hS, hC⟩ := hsl.view
  refine Does.go (X := X) (l := [_]) Tryz.func40 rfl (by kernel_rfl) (by kernel_rfl) _ rfl ?_
  ((conv=>whnf);repeat((first|refine mvT ?_|refine mvF ?_|refine yT ?_|refine yF ?_);conv=>whnf))
  refine VL.loop (fun i : Nat × Nat => [(3, .int .u32 i.2), (6, .slice a ls.length c), (7, .int .i64 ls.length), (8, .int .i64 i.1)]) (fun i w' => Ext nob w w' ∧ i.1 ≤ ls.length ∧ i.2 ≤ 1000001 ∧ knownN (fs.drop i.1) i.2 = knownN fs 0) (fun i => ls.length - i.1) (0, 0)
    ⟨rfl, rfl, rfl, rfl, trivial⟩ ⟨Ext.refl _ _, Nat.zero_le _, Nat.zero_le _, rfl⟩ ?_
  rintro ⟨i, n⟩ w1 ⟨hx, hi, hn, hk⟩
  dsimp only at hi hn hk
  ((conv=>whnf);repeat((first|refine mvT ?_|refine mvF ?_|refine yT ?_|refine yF ?_);conv=>whnf))
  refine cI (by rfl) (fun h1=>?_) (fun h1=>?_)
  · have hil : i < ls.length := by have := of_decide_eq_true h1; simp only at this; omega
    have hfl : i < fs.length := by omega
    have hfd := hr i ls[i] fs[i] (by simp [hil]) (by simp [hfl])
    have htag := hok fs[i] (by simp)
    have hk' : knownN (fs.drop (i + 1)) (if 0 ≤ (fs[i]).tag then max n ((fs[i]).tag.toNat + 1) else n) = knownN fs 0 := by
      rw [← hk, List.drop_eq_getElem_cons hfl]; rfl
    obtain ⟨b, o, rfl, hcc⟩ := hC i ls[i] (by simp [hil])
    ((conv=>whnf);repeat((first|refine mvT ?_|refine mvF ?_|refine yT ?_|refine yF ?_);conv=>whnf))
    refine ⟨b, o, rfl, ⟨by omega, by omega⟩, ?_⟩
    ((conv=>whnf);repeat((first|refine mvT ?_|refine mvF ?_|refine yT ?_|refine yF ?_);conv=>whnf))
    refine ⟨ls[i], hfd.len, hcc.e0 hx, ?_⟩
    ((conv=>whnf);repeat((first|refine mvT ?_|refine mvF ?_|refine yT ?_|refine yF ?_);conv=>whnf))
    intro b2 w2 hb2 ho2 hx2
    ((conv=>whnf);repeat((first|refine mvT ?_|refine mvF ?_|refine yT ?_|refine yF ?_);conv=>whnf))
    refine st_all ls[i] ho2 hfd.len rfl hfd.ok ?_
    intro w3 ho3 hx3
    ((conv=>whnf);repeat((first|refine mvT ?_|refine mvF ?_|refine yT ?_|refine yF ?_);conv=>whnf))
    have hx' := (hx.e0 hx2).st hx3 (by have := hx.size; omega)
    generalize ls[i] = ci at hfd ho3
    generalize fs[i] = f at hfd htag hk'
    cases hfd
    rename_i kind fr to nul tag df of sub sv ls2 hl2 hlen2 hr2
    dsimp only [Fd.tag] at htag hk'
    refine ldS (ho3.cell rfl) ?_;((conv=>whnf);repeat((first|refine mvT ?_|refine mvF ?_|refine yT ?_|refine yF ?_);conv=>whnf))
    refine cI (by rfl) (fun h2=>?_) (fun h2=>?_)
    · have htag0 : 0 ≤ tag := by have := of_decide_eq_true h2; omega
      have hk2 : knownN (fs.drop (i + 1)) (max n (tag.toNat + 1)) = knownN fs 0 := by rw [← hk']; congr 1; exact (if_pos htag0).symm
      ((conv=>whnf);repeat((first|refine mvT ?_|refine mvF ?_|refine yT ?_|refine yF ?_);conv=>whnf))
      refine ldS (ho3.cell rfl) ?_;((conv=>whnf);repeat((first|refine mvT ?_|refine mvF ?_|refine yT ?_|refine yF ?_);conv=>whnf))
      refine ⟨(i + 1, max n (tag.toNat + 1)), ⟨?_, rfl, rfl, inc_eq (by rw [maxLen_eq] at hm; omega), trivial⟩, ⟨hx', by simp only; omega, by simp only; omega, hk2⟩, by simp only; omega⟩
      show some (Value.int _ _) = some (Value.int _ _)
      dsimp only
      rw [u32_of (n := tag) (by omega) (by omega), u32_of (by omega) (by omega)]
      congr 2
      split <;> omega
    · have htag0 : ¬ 0 ≤ tag := by have := of_decide_eq_false h2; omega
      have hk2 : knownN (fs.drop (i + 1)) n = knownN fs 0 := by rw [← hk']; congr 1; exact (if_neg htag0).symm
      ((conv=>whnf);repeat((first|refine mvT ?_|refine mvF ?_|refine yT ?_|refine yF ?_);conv=>whnf))
      exact ⟨(i + 1, n), ⟨rfl, rfl, rfl, inc_eq (by rw [maxLen_eq] at hm; omega), trivial⟩, ⟨hx', by simp only; omega, hn, hk2⟩, by simp only; omega⟩
  · have hil : i = ls.length := by have := of_decide_eq_false h1; simp only at this; omega
    ((conv=>whnf);repeat((first|refine mvT ?_|refine mvF ?_|refine yT ?_|refine yF ?_);conv=>whnf))
    refine ⟨?_, hx⟩
    subst hil
    rw [hlen, List.drop_length] at hk
    simp only [knownN] at hk
    rw [← hk]
    rfl
end Go.Proofs.YtepamajphjgigaaGreatDoor.K
