
/- Maps of tags. -/
import Derived.Test.YtepamajphjgigaaGreatDoorB3
import Derived.Test.YtepamajphjgigaaGreatDoorG15
set_option linter.unusedVariables false
set_option linter.unusedSimpArgs false
namespace Go.Proofs.YtepamajphjgigaaGreatDoor.K
open Go
set_option maxHeartbeats 800000

def ent (x : (Nat × Value) × Nat) : MapEntry := { key := .int .u32 (x.1.1 : Int), val := x.1.2, born := x.2 }
/-- Block b is a map of these keys and values, laid in this order. -/
def MapO (w : World) (b : Nat) (kvs : List (Nat × Value)) : Prop := w.heap[b]? = some (.map (kvs.zipIdx.map ent).toArray kvs.length)
theorem MapO.lt {w : World} {b : Nat} {kvs : List (Nat × Value)} (h : MapO w b kvs) : b < w.heap.size := (Array.getElem?_eq_some_iff.1 h).1
theorem MapO.ext {M : Nat → Prop} {w w' : World} {b : Nat} {kvs : List (Nat × Value)} (h : MapO w b kvs) (x : Ext M w w') (hb : ¬ M b) : MapO w' b kvs := x.obj h hb
theorem findNow_none {kd : IntKind} {P : Program} (key : Nat) : ∀ (kvs : List (Nat × Value)) (i j : Nat), (∀ y, y ∈ kvs → y.1 ≠ key) → Instr.findNow (.int kd) (.int .u32 (key : Int)) ((kvs.zipIdx i).map ent) j = some none
  | [], i, j, _ => by simp [Instr.findNow]
  | y :: r, i, j, h => by
    have h1 : y.1 ≠ key := h y (by simp)
    have h2 : ((key : Int) == (y.1 : Int)) = false := by
      rw [Bool.eq_false_iff]
      intro h
      have := eq_of_beq h
      omega
    rw [List.zipIdx_cons, List.map_cons, Instr.findNow]
    simp only [ent, Instr.sameNow, if_true, h2]
    exact findNow_none (P := P) key r (i + 1) (j + 1) fun z hz => h z (by simp [hz])
theorem make_map {o : Oper} {e : Env} {w : World} {K : Value → World → Prop} {t : TypeId} (ho : o.op = .makeMap t none) (hk : ∀ b w', w.heap.size ≤ b → MapO w' b [] → Ext nob w w' → K (.map (some b)) w') : semVC X o e w K := by
  refine .inl ⟨.map (some w.heap.size), w.alloc (.map #[] 0), fun ρ hρ => .inl ?_, hk _ _ (Nat.le_refl _) ?_ (Ext.alloc w _)⟩
  · have : (Instr.makeMap t none).run X.P w = .ok (.map (some w.heap.size)) (w.alloc (.map #[] 0)) := rfl
    simp [execOp, ho, this]
  · show (w.heap.push _)[w.heap.size]? = _
    simp
theorem set_map {o : Oper} {e : Env} {w : World} {K : Value → World → Prop} {t kt et : TypeId} {m x y : Operand} {b key : Nat} {val : Value} {kvs : List (Nat × Value)} {s1 b1 s2 b2 : Nat} {z1 z2 : List Value} (ho : o.op = .mapUpdate t m x y) (hm : ev e m = some (.map (some b))) (hx : ev e x = some (.int .u32 (key : Int))) (hy : ev e y = some val)
    (ht : tlook X.tab t = some ⟨.map kt et, s1, b1, z1⟩) (hkt : tlook X.tab kt = some ⟨.int .u32, s2, b2, z2⟩) (hb : MapO w b kvs) (hn : ∀ y, y ∈ kvs → y.1 ≠ key) (hk : ∀ w', MapO w' b (kvs ++ [(key, val)]) → Ext (fun k => k = b) w w' → K undef w') : semVC X o e w K := by
  obtain ⟨d, inf, zv, hr⟩ := X.row ht
  have hd := hr.desc
  cases d <;> simp [descOf] at hd
  obtain ⟨hd1, hd2⟩ := hd
  have hd1 := hd1.symm
  have hd2 := hd2.symm
  subst hd1
  subst hd2
  obtain ⟨dk, infk, zk, hrk⟩ := X.row hkt
  have hdk := hrk.desc
  cases dk <;> simp [descOf] at hdk
  subst hdk
  refine .inl ⟨undef, { w with heap := w.heap.setIfInBounds b (.map ((kvs ++ [(key, val)]).zipIdx.map ent).toArray (kvs.length + 1)) }, fun ρ hρ => .inr ⟨?_, rfl⟩, hk _ ?_ ⟨rfl, rfl, rfl, by simp, fun k hk hn => ?_⟩⟩
  · have h1 := hρ m _ hm
    have h2 := hρ x _ hx
    have h3 := hρ y _ hy
    have hf := findNow_none (kd := .u32) (P := X.P) key kvs 0 0 hn
    have hb' : w.heap[b]? = some (.map (kvs.zipIdx.map ent).toArray kvs.length) := hb
    have hck : (Instr.checkKey false 10000 kt (.int .u32 (key : Int))).run X.P w = .ok () w := by
      show (Instr.checkKey false (9999 + 1) kt (.int .u32 (key : Int))).run X.P w = .ok () w
      unfold Instr.checkKey
      simp [hrk.run_und]
    have hfk : (Instr.findKey kt (.int .u32 (key : Int)) (kvs.zipIdx.map ent)).run X.P w = .ok none w := by
      simp [Instr.findKey, hrk.run_und, hf]
    have hrun : (Instr.mapUpdate t (.map (some b)) (.int .u32 (key : Int)) val).run X.P w = .ok () { w with heap := w.heap.setIfInBounds b (.map ((kvs.zipIdx.map ent).toArray.push { key := .int .u32 (key : Int), val := val, born := kvs.length }) (kvs.length + 1)) } := by
      have hg : (getObj b).run X.P w = .ok (.map (kvs.zipIdx.map ent).toArray kvs.length) w := by simp [getObj, Sem.run, hb']
      unfold Instr.mapUpdate
      simp only [Sem.run_bind, hr.run_und, Result.andThen_ok, hg, hck, hfk]
      simp [setObj, Sem.run, hb']
    unfold execOp
    rw [ho]
    dsimp only
    rw [h1, h2, h3]
    have e : ((kvs.zipIdx.map ent).toArray.push { key := .int .u32 (key : Int), val := val, born := kvs.length }) = ((kvs ++ [(key, val)]).zipIdx.map ent).toArray := by
      rw [List.zipIdx_append, List.map_append]
      simp [ent]
    rw [e] at hrun
    rw [Sem.run_bind, hrun]
    rfl
  · have hlt := hb.lt
    show (w.heap.setIfInBounds b _)[b]? = _
    rw [Array.getElem?_setIfInBounds_self_of_lt hlt]
    simp
  · show (w.heap.setIfInBounds b _)[k]? = _
    rw [Array.getElem?_setIfInBounds_ne (fun h => hn h.symm)]
theorem splice_one {l : List Value} {o : Nat} (v : Value) (h : o < l.length) : splice l o [v] = l.set o v := by
  unfold splice
  rw [List.set_eq_take_append_cons_drop, if_pos h]
  simp
theorem st_cell {w : World} {b o o' : Nat} {Ty : TypeId} {l m : List Value} {v : Value} {sz : Nat} {K : World → Prop} (ho : Own w b Ty l) (hm : m = [v]) (ho' : o' = o) (hs : sz = 1) (hl : o < l.length) (hok : v.oneCell' = true) (k : ∀ w', Own w' b Ty (l.set o v) → Ext (fun k => k = b) w w' → K w') :
    ∃ T l1, Own w b T l1 ∧ m.length.beq sz = true ∧ okCells m = true ∧ (o' + sz).ble l1.length = true ∧ ∀ w', Own w' b T (splice l1 o' m) → Ext (fun k => k = b) w w' → K w' := by
  subst hm
  subst ho'
  subst hs
  refine ⟨Ty, l, ho, rfl, by simp only [okCells, List.all_cons, List.all_nil, hok]; rfl, by rw [Nat.ble_eq]; omega, fun w' h x => k w' (by rwa [splice_one v hl] at h) x⟩
theorem Tags_Set_nil {w : World} {p o : Nat} {ty : TypeId} {cs : List Value} {key : Nat} {a : Option Addr} {n c : Nat} (hp : Own w p ty cs) (ho : cs[o]? = some (.map none)) :
    Does X.P 91 #[.pointer (some ⟨p, o, none⟩), .int .u32 (key : Int), .slice a n c] w fun r w' => ∃ b, w.heap.size ≤ b ∧ Own w' p ty (cs.set o (.map (some b))) ∧ MapO w' b [(key, .slice a n c)] ∧ Ext (fun k => k = p) w w' := by
  have hol := (List.getElem?_eq_some_iff.1 ho).1
  have hpl := hp.lt
  refine Does.go (X := X) (l := [_, _, _]) Tryz.func91 rfl (by kernel_rfl) (by kernel_rfl) _ rfl ?_
  ((conv=>whnf);repeat((first|refine mvT ?_|refine mvF ?_|refine yT ?_|refine yF ?_);conv=>whnf))
  refine ⟨_, ld (hp.cell ho) (by omega), ?_⟩
  ((conv=>whnf);repeat((first|refine mvT ?_|refine mvF ?_|refine yT ?_|refine yF ?_);conv=>whnf))
  refine make_map rfl fun b w1 hb hm hx => ?_
  ((conv=>whnf);repeat((first|refine mvT ?_|refine mvF ?_|refine yT ?_|refine yF ?_);conv=>whnf))
  refine st_cell (o := o) (v := .map (some b)) (hp.e0 hx) rfl (by omega) rfl hol rfl ?_
  intro w2 ho2 hx2
  have hm2 := hm.ext hx2 (by omega)
  ((conv=>whnf);repeat((first|refine mvT ?_|refine mvF ?_|refine yT ?_|refine yF ?_);conv=>whnf))
  refine ⟨.map (some b), ld (ho2.cell (o := o) (v := .map (some b)) (by simp [hol])) (by omega), ?_⟩
  ((conv=>whnf);repeat((first|refine mvT ?_|refine mvF ?_|refine yT ?_|refine yF ?_);conv=>whnf))
  refine set_map rfl rfl rfl rfl rfl rfl hm2 (by simp) fun w3 hm3 hx3 => ?_
  ((conv=>whnf);repeat((first|refine mvT ?_|refine mvF ?_|refine yT ?_|refine yF ?_);conv=>whnf))
  refine ⟨b, hb, ho2.ext hx3 (by omega), hm3, ((hx.mono fun _ _ f => f.elim).trans hx2 fun _ _ h => h).trans hx3 fun k hk h => by omega⟩
theorem MapO.len {w : World} {b : Nat} {kvs : List (Nat × Value)} (h : MapO w b kvs) : mapLen w (some b) = some kvs.length := by
  have hb : w.heap[b]? = some (.map (kvs.zipIdx.map ent).toArray kvs.length) := h
  simp [mapLen, hb]
end Go.Proofs.YtepamajphjgigaaGreatDoor.K
