/- A whole request: the formatter, its octets ahead. -/
import Derived.Test.YtibbkhcdplijdaaGreatDoorH0
set_option linter.unusedVariables false
set_option linter.unusedSimpArgs false
namespace Go.Proofs.YtibbkhcdplijdaaGreatDoor.K
open Go
set_option maxHeartbeats 1600000
set_option maxRecDepth 100000

/-- The first four octets of a buffer are written anew. -/
theorem app_in {w : World} {B g cap : Nat} {x : Value} {l m : List UInt8} {K : Value → World → Prop} {z : List Value} {sz by0 : Nat} (hsz : sz = 1) (hby : by0 = 1) (h : OB w B (.slice (some ⟨g, 0, none⟩) l.length cap) l) (hs : Src w 1 x m.length (m.map bcell)) (hz : z.length = 1) (h4 : 0 < m.length) (hl : m.length ≤ l.length) (hm : m.length ≤ 140737488355328)
    (k : ∀ v' w', OB w' B (.slice (some ⟨g, 0, none⟩) l.length cap) (m ++ l.drop m.length) → Ext (fun k => k = g) w w' → K v' w') :
    ∃ n xs m' news, OwnSl w U8 sz (.slice (some ⟨g, 0, none⟩) 0 cap) n xs ∧ Src w sz x m' news ∧ (z.length = sz ∧ okCells news = true) ∧ (n + m' ≤ maxLen ∧ (n + m') * by0 ≤ 140737488355328) ∧
      ∀ v' w', OwnSl w' U8 sz v' (n + m') (xs ++ news) → Appended w w' (.slice (some ⟨g, 0, none⟩) 0 cap) v' → K v' w' := by
  subst hsz
  subst hby
  rcases h.own.2 with ⟨e, _⟩ | ⟨g2, cap2, cur, e, _, hg, hnc, hcm, hcs, htake⟩
  · cases e
  · injection e with e1 e2 e3
    simp only [Option.some.injEq, Addr.mk.injEq, and_true] at e1
    subst e1
    subst e3
    have hcs : cur.size = cap := by simpa using hcs
    have htake : cur.toList.take l.length = l.map bcell := by simpa using htake
    refine ⟨0, [], m.length, m.map bcell, ⟨by simp, .inr ⟨g, cap, cur, rfl, Nat.zero_le _, hg, Nat.zero_le _, hcm, by simpa using hcs, by simp⟩⟩, hs, ⟨hz, okCells_bytes m⟩, ⟨by rw [maxLen_eq]; omega, by omega⟩, fun v' w' ho ha => ?_⟩
    rw [List.nil_append, Nat.zero_add] at ho
    rcases ho.2 with ⟨_, e0⟩ | ⟨g3, cap3, cur3, rfl, _, hg3, hnc3, hcm3, hcs3, htake3⟩
    · omega
    · obtain ⟨h1, h2, h3⟩ := ha.inp g 0 cap rfl (some ⟨g3, 0, none⟩) m.length cap3 rfl (by omega)
      simp only [Option.some.injEq, Addr.mk.injEq, and_true] at h1
      subst h1
      subst h2
      have hown : Own w g3 U8 cur.toList := by unfold Own; simpa using hg
      obtain ⟨p, q, hq, hle, hall⟩ := h3 U8 cur.toList hown
      obtain ⟨hp, hpq⟩ := hall 1 (by simpa using hcs) (by omega)
      have hp : p = 0 := by simpa using hp
      subst hp
      have hpq : q.length = m.length := by simpa using hpq
      rw [List.take_zero, List.nil_append, Nat.zero_add, hpq] at hq
      have hqm : q = m.map bcell := by
        unfold Own at hq
        rw [hg3] at hq
        simp only [Option.some.injEq, Obj.cells.injEq, and_true] at hq
        rw [hq] at htake3
        simp only [Nat.mul_one, List.toList_toArray] at htake3
        rw [← hpq, List.take_left] at htake3
        exact htake3
      subst hqm
      have hlen : (m ++ l.drop m.length).length = l.length := by simp; omega
      have hob : OwnSl w' U8 1 (.slice (some ⟨g3, 0, none⟩) l.length cap3) l.length ((m ++ l.drop m.length).map bcell) := by
        refine ⟨by rw [List.length_map, hlen]; omega, .inr ⟨g3, cap3, _, rfl, Nat.zero_le _, hq, hnc, hcm, ?_, ?_⟩⟩
        · simp
          omega
        · simp only [Nat.mul_one, List.toList_toArray]
          rw [List.take_append, List.take_of_length_le (by simp; omega), List.map_append]
          congr 1
          rw [List.length_map, List.take_drop, show m.length + (l.length - m.length) = l.length by omega, htake, List.map_drop]
      exact k _ w' ⟨by rw [hlen]; exact hob, h.blk⟩ (ha.ext.mono fun k _ e => by simpa [Value.ownBlock] using e.symm)
theorem AppendInt32_in {w : World} {B g cap : Nat} {l : List UInt8} (h : OB w B (.slice (some ⟨g, 0, none⟩) l.length cap) l) (hl : 4 ≤ l.length) (n : Int) : Does X.P 64 #[.slice (some ⟨g, 0, none⟩) 0 cap, .int .i32 n] w fun r w' => OB w' B (.slice (some ⟨g, 0, none⟩) l.length cap) (fixed n 4 ++ l.drop 4) ∧ Ext (fun k => k = g) w w' := by
  have hu : ∀ n : Int, Does X.P 75 #[.slice (some ⟨g, 0, none⟩) 0 cap, .int .u32 n] w fun r w' => OB w' B (.slice (some ⟨g, 0, none⟩) l.length cap) (fixed n 4 ++ l.drop 4) ∧ Ext (fun k => k = g) w w' := by
    intro n
    refine Does.go (X := X) (l := [_, _]) Tryz.func75 rfl (by kernel_rfl) (by kernel_rfl) _ rfl ?_
    ((conv=>whnf);repeat((first|refine mvT ?_|refine mvF ?_|refine yT ?_|refine yF ?_);conv=>whnf))
    refine ⟨by decide, ?_⟩
    ((conv=>whnf);repeat((first|refine mvT ?_|refine mvF ?_|refine yT ?_|refine yF ?_);conv=>whnf))
    refine ⟨by decide, ?_⟩
    ((conv=>whnf);repeat((first|refine mvT ?_|refine mvF ?_|refine yT ?_|refine yF ?_);conv=>whnf))
    refine ⟨by decide, ?_⟩
    ((conv=>whnf);repeat((first|refine mvT ?_|refine mvF ?_|refine yT ?_|refine yF ?_);conv=>whnf))
    intro b w1 hb ho hx
    have ho : Own w1 b U8 ((fixed n 4).map bcell) := by
      rw [wrap_u8, wrap_u8, wrap_u8, wrap_u8] at ho
      rw [fixed4]
      rw [show (n.fdiv (2 ^ min (8 : Int).toNat IntKind.u32.bits)) = n / 256 from fd n 8, show (n.fdiv (2 ^ min (16 : Int).toNat IntKind.u32.bits)) = n / 65536 from fd n 16, show (n.fdiv (2 ^ min (24 : Int).toNat IntKind.u32.bits)) = n / 16777216 from fd n 24] at ho
      exact ho
    ((conv=>whnf);repeat((first|refine mvT ?_|refine mvF ?_|refine yT ?_|refine yF ?_);conv=>whnf))
    refine app_in rfl rfl (h.e0 hx) (src_own ho rfl) rfl (by rw [fixed_length]; omega) (by rw [fixed_length]; omega) (by rw [fixed_length]; omega) ?_
    intro r w2 h2 hx2
    ((conv=>whnf);repeat((first|refine mvT ?_|refine mvF ?_|refine yT ?_|refine yF ?_);conv=>whnf))
    rw [fixed_length] at h2
    exact ⟨h2, (hx.mono fun _ _ f => f.elim).trans hx2 fun _ _ h => h⟩
  refine Does.go (X := X) (l := [_, _]) Tryz.func64 rfl (by kernel_rfl) (by kernel_rfl) _ rfl ?_
  ((conv=>whnf);repeat((first|refine mvT ?_|refine mvF ?_|refine yT ?_|refine yF ?_);conv=>whnf))
  refine Does.mono (hu _) ?_;rintro r w1 ⟨h1, hx⟩;((conv=>whnf);repeat((first|refine mvT ?_|refine mvF ?_|refine yT ?_|refine yF ?_);conv=>whnf))
  rw [fixed4_mod (n := IntKind.u32.wrap n) (m := n) (by rw [wrap_u32]; omega)] at h1
  exact ⟨h1, hx⟩
/-- The formatter: with a client's name, or none. -/
theorem NewFormatter_nil (w : World) : Does X.P 36 #[.slice none 0 0] w fun r w' => ∃ q T, r = .pointer (some ⟨q, 0, none⟩) ∧ w.heap.size ≤ q ∧ Own w' q T [.pointer none] ∧ Ext nob w w' := by
  refine Does.go (X := X) (l := [_]) Tryz.func36 rfl (by kernel_rfl) (by kernel_rfl) _ rfl ?_
  ((conv=>whnf);repeat((first|refine mvT ?_|refine mvF ?_|refine yT ?_|refine yF ?_);conv=>whnf))
  intro q w1 hq ho hx
  ((conv=>whnf);repeat((first|refine mvT ?_|refine mvF ?_|refine yT ?_|refine yF ?_);conv=>whnf))
  refine VL.loop (fun i : Nat => [(3, .pointer (some ⟨q, 0, none⟩)), (7, .slice none 0 0), (8, .int .i64 0), (9, .int .i64 i)]) (fun i w' => i = 0 ∧ w' = w1) (fun i => 0) 0 ⟨rfl, rfl, rfl, rfl, trivial⟩ ⟨rfl, rfl⟩ ?_
  rintro i w2 ⟨rfl, rfl⟩
  ((conv=>whnf);repeat((first|refine mvT ?_|refine mvF ?_|refine yT ?_|refine yF ?_);conv=>whnf))
  exact ⟨q, _, rfl, hq, ho, hx⟩
theorem FormatterClientID_does (s : List UInt8) (w : World) : Does X.P 37 #[str s] w fun r w' => ∃ b T, r = .iface 120 (.agg #[.func (.func 62) #[] #[.pointer (some ⟨b, 0, none⟩)]]) ∧ w.heap.size ≤ b ∧ Own w' b T [str s] ∧ Ext nob w w' := by
  refine Does.go (X := X) (l := [_]) Tryz.func37 rfl (by kernel_rfl) (by kernel_rfl) _ rfl ?_
  ((conv=>whnf);repeat((first|refine mvT ?_|refine mvF ?_|refine yT ?_|refine yF ?_);conv=>whnf))
  intro b w1 hb ho hx
  ((conv=>whnf);repeat((first|refine mvT ?_|refine mvF ?_|refine yT ?_|refine yF ?_);conv=>whnf))
  exact ⟨b, _, rfl, hb, ho, hx⟩
theorem formatter_apply {w : World} {b q : Nat} {T2 : TypeId} {cur : Value} (hq : Own w q T2 [cur]) : Does X.P 148 #[.agg #[.func (.func 62) #[] #[.pointer (some ⟨b, 0, none⟩)]], .pointer (some ⟨q, 0, none⟩)] w fun r w' => Own w' q T2 [.pointer (some ⟨b, 0, none⟩)] ∧ Ext (fun k => k = q) w w' := by
  refine Does.go (X := X) (l := [_, _]) Tryz.func148 rfl (by kernel_rfl) (by kernel_rfl) _ rfl ?_
  ((conv=>whnf);repeat((first|refine mvT ?_|refine mvF ?_|refine yT ?_|refine yF ?_);conv=>whnf))
  intro x w1 hx1 ho hx
  ((conv=>whnf);repeat((first|refine mvT ?_|refine mvF ?_|refine yT ?_|refine yF ?_);conv=>whnf))
  refine ldS (ho.cell rfl) ?_;((conv=>whnf);repeat((first|refine mvT ?_|refine mvF ?_|refine yT ?_|refine yF ?_);conv=>whnf))
  have hcl : Does X.P 62 #[.pointer (some ⟨q, 0, none⟩), .pointer (some ⟨b, 0, none⟩)] w1 fun r w' => Own w' q T2 [.pointer (some ⟨b, 0, none⟩)] ∧ Ext (fun k => k = q) w1 w' := by
    refine Does.go (X := X) (l := [_, _]) Tryz.func62 rfl (by kernel_rfl) (by kernel_rfl) _ rfl ?_
    ((conv=>whnf);repeat((first|refine mvT ?_|refine mvF ?_|refine yT ?_|refine yF ?_);conv=>whnf))
    refine st_all [.pointer (some ⟨b, 0, none⟩)] (hq.e0 hx) rfl rfl rfl ?_
    intro w2 ho2 hx2
    ((conv=>whnf);repeat((first|refine mvT ?_|refine mvF ?_|refine yT ?_|refine yF ?_);conv=>whnf))
    exact ⟨ho2, hx2⟩
  refine Does.mono (hcl) ?_;rintro r w2 ⟨ho2, hx2⟩;((conv=>whnf);repeat((first|refine mvT ?_|refine mvF ?_|refine yT ?_|refine yF ?_);conv=>whnf))
  exact ⟨ho2, (hx.mono fun _ _ f => f.elim).trans hx2 fun _ _ h => h⟩
theorem NewFormatter_one {w : World} {g b : Nat} {T : TypeId} (hg : Own w g T [.iface 120 (.agg #[.func (.func 62) #[] #[.pointer (some ⟨b, 0, none⟩)]])]) : Does X.P 36 #[.slice (some ⟨g, 0, none⟩) 1 1] w fun r w' => ∃ q T, r = .pointer (some ⟨q, 0, none⟩) ∧ w.heap.size ≤ q ∧ Own w' q T [.pointer (some ⟨b, 0, none⟩)] ∧ Ext nob w w' := by
  refine Does.go (X := X) (l := [_]) Tryz.func36 rfl (by kernel_rfl) (by kernel_rfl) _ rfl ?_
  ((conv=>whnf);repeat((first|refine mvT ?_|refine mvF ?_|refine yT ?_|refine yF ?_);conv=>whnf))
  intro q w1 hq ho hx
  have hgl := hg.lt
  obtain ⟨T2, ho⟩ : ∃ T2, Own w1 q T2 [.pointer none] := ⟨_, ho⟩
  ((conv=>whnf);repeat((first|refine mvT ?_|refine mvF ?_|refine yT ?_|refine yF ?_);conv=>whnf))
  refine VL.loop (fun i : Nat => [(3, .pointer (some ⟨q, 0, none⟩)), (7, .slice (some ⟨g, 0, none⟩) 1 1), (8, .int .i64 1), (9, .int .i64 i)]) (fun i w' => i ≤ 1 ∧ Ext nob w w' ∧ (i = 0 → Own w' q T2 [.pointer none]) ∧ (i = 1 → Own w' q T2 [.pointer (some ⟨b, 0, none⟩)])) (fun i => 1 - i) 0 ⟨rfl, rfl, rfl, rfl, trivial⟩ ⟨by omega, hx, fun _ => ho, fun h => by omega⟩ ?_
  rintro i w2 ⟨hi, hx2, h0, h1⟩
  ((conv=>whnf);repeat((first|refine mvT ?_|refine mvF ?_|refine yT ?_|refine yF ?_);conv=>whnf))
  refine cI (by rfl) (fun h9=>?_) (fun h9=>?_)
  · have hi0 : i = 0 := by have := of_decide_eq_true h9; omega
    subst hi0
    have ho2 := h0 rfl
    ((conv=>whnf);repeat((first|refine mvT ?_|refine mvF ?_|refine yT ?_|refine yF ?_);conv=>whnf))
    refine ⟨g, 0, rfl, ⟨by omega, by omega⟩, ?_⟩
    ((conv=>whnf);repeat((first|refine mvT ?_|refine mvF ?_|refine yT ?_|refine yF ?_);conv=>whnf))
    refine ldS ((hg.e0 hx2).cell rfl) ?_;((conv=>whnf);repeat((first|refine mvT ?_|refine mvF ?_|refine yT ?_|refine yF ?_);conv=>whnf))
    refine inv_vc (g := 148) (r := .agg #[.func (.func 62) #[] #[.pointer (some ⟨b, 0, none⟩)]]) rfl rfl rfl (by kernel_rfl) ((formatter_apply ho2).mono ?_)
    rintro r w3 ⟨ho3, hx3⟩
    ((conv=>whnf);repeat((first|refine mvT ?_|refine mvF ?_|refine yT ?_|refine yF ?_);conv=>whnf))
    exact ⟨1, ⟨rfl, rfl, rfl, rfl, trivial⟩, ⟨by omega, hx2.trans hx3 fun k hk e => by omega, fun h => by omega, fun _ => ho3⟩, by omega⟩
  have hi1 : i = 1 := by have := of_decide_eq_false h9; omega
  subst hi1
  ((conv=>whnf);repeat((first|refine mvT ?_|refine mvF ?_|refine yT ?_|refine yF ?_);conv=>whnf))
  exact ⟨q, _, rfl, hq, h1 rfl, hx2⟩
/-- What stands ahead of a request's body. -/
def headB (key v num : Int) (fx : Bool) (id : T) : List UInt8 := fixed key 2 ++ fixed v 2 ++ fixed num 4 ++ ntA false id.nl id.s ++ (if fx = true then [0] else [])
/-- The methods of a request, as the formatter calls them. -/
structure ReqM (w : World) (T : TypeId) (p : Nat) (key v : Int) (fx : Bool) (body : List UInt8) (gK gV gF gA : FuncId) : Prop where
  mK : ∀ w, (method (X.P.types.size + Made.depth) T (.pointer (some ⟨p, 0, none⟩)) "Key").run X.P w = .ok (gK, .pointer (some ⟨p, 0, none⟩)) w
  mV : ∀ w, (method (X.P.types.size + Made.depth) T (.pointer (some ⟨p, 0, none⟩)) "GetVersion").run X.P w = .ok (gV, .pointer (some ⟨p, 0, none⟩)) w
  mF : ∀ w, (method (X.P.types.size + Made.depth) T (.pointer (some ⟨p, 0, none⟩)) "IsFlexible").run X.P w = .ok (gF, .pointer (some ⟨p, 0, none⟩)) w
  mA : ∀ w, (method (X.P.types.size + Made.depth) T (.pointer (some ⟨p, 0, none⟩)) "AppendTo").run X.P w = .ok (gA, .pointer (some ⟨p, 0, none⟩)) w
  dK : ∀ w, Does X.P gK #[.pointer (some ⟨p, 0, none⟩)] w fun r w' => r = .int .i16 key ∧ w' = w
  dV : ∀ w', Ext nob w w' → Does X.P gV #[.pointer (some ⟨p, 0, none⟩)] w' fun r w2 => r = .int .i16 v ∧ w2 = w'
  dF : ∀ w', Ext nob w w' → Does X.P gF #[.pointer (some ⟨p, 0, none⟩)] w' fun r w2 => r = .bool fx ∧ w2 = w'
  dA : ∀ w' x l, Ext nob w w' → OB w' w.heap.size x l → l.length ≤ 1000000 → Does X.P gA #[.pointer (some ⟨p, 0, none⟩), x] w' fun r w2 => Apd w' w.heap.size x l body r w2
theorem ReqM.at {w w1 : World} {T : TypeId} {p : Nat} {key v : Int} {fx : Bool} {body : List UInt8} {gK gV gF gA : FuncId} (h : ReqM w T p key v fx body gK gV gF gA) (x : Ext nob w w1) : ReqM w1 T p key v fx body gK gV gF gA :=
  ⟨h.mK, h.mV, h.mF, h.mA, h.dK, fun w' y => h.dV w' (x.e0 y), fun w' y => h.dF w' (x.e0 y), fun w' r l y ho hl => (h.dA w' r l (x.e0 y) (ho.mono x.size) hl).mono fun r2 w2 ha => ⟨⟨ha.ob.own, fun k hk => by
    rcases ha.blk with e | ⟨q, e, hle⟩
    · exact ho.blk k (by rw [← e]; exact hk)
    · rw [hk, Option.some.injEq] at e
      have := y.size
      omega⟩, ha.ext, ha.blk⟩⟩
theorem AppendRequest_does {w : World} {F : Nat → Prop} {Ty T2 : TypeId} {p q : Nat} {key v num : Int} {fx : Bool} {body : List UInt8} {gK gV gF gA : FuncId} {cid : Value} {id : T} (hM : ReqM w Ty p key v fx body gK gV gF gA) (hk : key ≠ 7) (hq : Own w q T2 [cid]) (hid : NTextR w F cid id) (hids : id.s.length ≤ 32767) (hb : body.length ≤ 100000000000000) :
    Does X.P 38 #[.pointer (some ⟨q, 0, none⟩), .slice none 0 0, .iface Ty (.pointer (some ⟨p, 0, none⟩)), .int .i32 num] w fun r w' => OB w' w.heap.size r (fixed (headB key v num fx id ++ body).length 4 ++ (headB key v num fx id ++ body)) ∧ Ext nob w w' := by
  refine Does.go (X := X) (l := [_, _, _, _]) Tryz.func38 rfl (by kernel_rfl) (by kernel_rfl) _ rfl ?_
  ((conv=>whnf);repeat((first|refine mvT ?_|refine mvF ?_|refine yT ?_|refine yF ?_);conv=>whnf))
  intro b w1 hbn ho hx
  ((conv=>whnf);repeat((first|refine mvT ?_|refine mvF ?_|refine yT ?_|refine yF ?_);conv=>whnf))
  have ho : Own w1 b U8 (([0, 0, 0, 0] : List UInt8).map bcell) := ho
  refine app_apd (l := []) (m := [0, 0, 0, 0]) rfl rfl (OB.nil w1 w.heap.size) (src_own ho rfl) rfl (by simp) hx.size ?_
  intro r w2 hA
  have hxx : ∀ {m : List UInt8} {r : Value} {w' : World}, Apd w1 w.heap.size (.slice none 0 0) [] m r w' → Ext nob w w' := fun h => hx.own h.ext (B := w.heap.size) (by simp [Value.ownBlock]) (Nat.le_refl _)
  have hszx : ∀ {m : List UInt8} {r : Value} {w' : World}, Apd w1 w.heap.size (.slice none 0 0) [] m r w' → w.heap.size ≤ w'.heap.size := fun h => Nat.le_trans hx.size h.size
  ((conv=>whnf);repeat((first|refine mvT ?_|refine mvF ?_|refine yT ?_|refine yF ?_);conv=>whnf))
  refine inv_vc (g := gK) (r := .pointer (some ⟨p, 0, none⟩)) rfl rfl rfl (hM.mK _) ((hM.dK _).mono ?_)
  rintro rk wk ⟨rfl, rfl⟩
  ((conv=>whnf);repeat((first|refine mvT ?_|refine mvF ?_|refine yT ?_|refine yF ?_);conv=>whnf))
  refine inv_vc (g := gV) (r := .pointer (some ⟨p, 0, none⟩)) rfl rfl rfl (hM.mV _) ((hM.dV _ (hxx hA)).mono ?_)
  rintro rk wk ⟨rfl, rfl⟩
  ((conv=>whnf);repeat((first|refine mvT ?_|refine mvF ?_|refine yT ?_|refine yF ?_);conv=>whnf))
  refine Does.mono (AppendInt16_does hA.ob (hszx hA) (by simp) _) ?_;rintro r w3 h;((conv=>whnf);repeat((first|refine mvT ?_|refine mvF ?_|refine yT ?_|refine yF ?_);conv=>whnf))
  replace hA := hA.tr h
  clear h
  refine Does.mono (AppendInt16_does hA.ob (hszx hA) (by simp [fixed_length]) _) ?_;rintro r w3 h;((conv=>whnf);repeat((first|refine mvT ?_|refine mvF ?_|refine yT ?_|refine yF ?_);conv=>whnf))
  replace hA := hA.tr h
  clear h
  refine Does.mono (AppendInt32_does hA.ob (hszx hA) (by simp [fixed_length]) _) ?_;rintro r w3 h;((conv=>whnf);repeat((first|refine mvT ?_|refine mvF ?_|refine yT ?_|refine yF ?_);conv=>whnf))
  replace hA := hA.tr h
  clear h
  intro cq hcq
  obtain rfl : cq = false := by rw [← hcq]; exact decide_eq_false hk
  ((conv=>whnf);repeat((first|refine mvT ?_|refine mvF ?_|refine yT ?_|refine yF ?_);conv=>whnf))
  refine ldS ((hq.e0 (hxx hA)).cell rfl) ?_;((conv=>whnf);repeat((first|refine mvT ?_|refine mvF ?_|refine yT ?_|refine yF ?_);conv=>whnf))
  refine Does.mono (AppendNullableString_R hA.ob (hszx hA) (hid.ext (hxx hA) fun _ _ _ f => f) (by simp only [List.length_append, List.length_nil, fixed_length, List.length_cons]; omega)) ?_;rintro r w3 h;((conv=>whnf);repeat((first|refine mvT ?_|refine mvF ?_|refine yT ?_|refine yF ?_);conv=>whnf))
  replace hA := hA.tr h
  clear h
  refine inv_vc (g := gF) (r := .pointer (some ⟨p, 0, none⟩)) rfl rfl rfl (hM.mF _) ((hM.dF _ (hxx hA)).mono ?_)
  rintro rk wk ⟨rfl, rfl⟩
  ((conv=>whnf);repeat((first|refine mvT ?_|refine mvF ?_|refine yT ?_|refine yF ?_);conv=>whnf))
  obtain ⟨m0, hm0⟩ : ∃ m0 : List UInt8, m0 = [0, 0, 0, 0] ++ fixed key 2 ++ fixed v 2 ++ fixed num 4 ++ ntA false id.nl id.s := ⟨_, rfl⟩
  rw [← hm0] at hA
  have hl0 : m0.length ≤ 100000 := by
    have hn : (ntA false id.nl id.s).length ≤ 2 + id.s.length := by
      unfold ntA txA
      split
      · simp [fixed_length]
      · simp [fixed_length]
    rw [hm0]
    simp only [List.length_append, fixed_length, List.length_cons, List.length_nil]
    omega
  have hl4 : 4 ≤ m0.length := by
    rw [hm0]
    simp only [List.length_append, fixed_length, List.length_cons, List.length_nil]
    omega
  refine VC.cutE (fun r => [(1, r), (2, .iface Ty (.pointer (some ⟨p, 0, none⟩)))]) (fun r w' => Apd w1 w.heap.size (.slice none 0 0) [] (m0 ++ (if fx = true then [0] else [])) r w') ?_ ?_
  · refine cI (by rfl) (fun hc=>?_) (fun hc=>?_)
    · ((conv=>whnf);repeat((first|refine mvT ?_|refine mvF ?_|refine yT ?_|refine yF ?_);conv=>whnf))
      intro b2 w4 hb2 ho2 hx2
      ((conv=>whnf);repeat((first|refine mvT ?_|refine mvF ?_|refine yT ?_|refine yF ?_);conv=>whnf))
      have ho2 : Own w4 b2 U8 (([0] : List UInt8).map bcell) := ho2
      refine app_apd (m := [0]) rfl rfl (hA.ob.e0 hx2) (src_own ho2 rfl) rfl (by simp only [List.length_append, List.length_nil, List.length_cons]; omega) (Nat.le_trans (hszx hA) hx2.size) ?_
      intro r w5 h
      replace hA := (hA.e0 hx2).tr h
      ((conv=>whnf);repeat((first|refine mvT ?_|refine mvF ?_|refine yT ?_|refine yF ?_);conv=>whnf))
      exact ⟨_, ⟨rfl, rfl, trivial⟩, by rw [if_pos hc]; exact hA⟩
    · ((conv=>whnf);repeat((first|refine mvT ?_|refine mvF ?_|refine yT ?_|refine yF ?_);conv=>whnf))
      exact ⟨_, ⟨rfl, rfl, trivial⟩, by rw [if_neg (by rw [hc]; decide), List.append_nil]; exact hA⟩
  clear hA
  rintro r w5 hA
  ((conv=>whnf);repeat((first|refine mvT ?_|refine mvF ?_|refine yT ?_|refine yF ?_);conv=>whnf))
  have hl1 : (if fx = true then ([0] : List UInt8) else []).length ≤ 1 := by split <;> simp
  refine inv_vc (g := gA) (r := .pointer (some ⟨p, 0, none⟩)) rfl rfl rfl (hM.mA _) ((hM.dA _ _ _ (hxx hA) hA.ob (by simp only [List.length_append, List.length_nil]; omega)).mono ?_)
  rintro r w6 h
  replace hA := hA.tr h
  clear h
  ((conv=>whnf);repeat((first|refine mvT ?_|refine mvF ?_|refine yT ?_|refine yF ?_);conv=>whnf))
  have hob := hA.ob
  rw [List.nil_append] at hob
  have hxw := hxx hA
  obtain ⟨L, hL⟩ : ∃ L : List UInt8, L = m0 ++ (if fx = true then [0] else []) ++ body := ⟨_, rfl⟩
  rw [← hL] at hob
  have hLl : 4 ≤ L.length := by rw [hL]; simp only [List.length_append]; omega
  have hLb : L.length ≤ 100000000200000 := by rw [hL]; simp only [List.length_append]; omega
  obtain ⟨g, cap, rfl, hgc⟩ : ∃ g cap, r = .slice (some ⟨g, 0, none⟩) L.length cap ∧ L.length ≤ cap := by
    rcases hob.own.2 with ⟨_, e⟩ | ⟨g, cap, cur, e, _, _, h, _⟩
    · omega
    · exact ⟨g, cap, e, h⟩
  have hgB : w.heap.size ≤ g := hob.blk g rfl
  clear hA
  refine VD.draw mixed (.q 0 (.q 1 (.q 2 (.q 3 (.q 4 (.q 5 (.eff 6 [] (.done)))))))) (by kernel_rfl) ?_;((conv=>whnf);repeat((first|refine mvT ?_|refine mvF ?_|refine yT ?_|refine yF ?_);conv=>whnf))
  refine ⟨.inr fun q hq => by simp only [Option.some.injEq] at hq; rw [← hq], fun _ => rfl, ⟨by simp, by simp, by simp, by simp⟩, ?_⟩
  intro r1 hr1
  obtain rfl : r1 = .slice (some ⟨g, 0, none⟩) 0 cap := by
    rw [← hr1]
    simp [cutAddr]
  ((conv=>whnf);repeat((first|refine mvT ?_|refine mvF ?_|refine yT ?_|refine yF ?_);conv=>whnf))
  refine ⟨.inr fun q hq => by simp only [Option.some.injEq] at hq; rw [← hq], fun h => by simp at h, ⟨by simp, by simp; omega, by simp; omega, by simp⟩, ?_⟩
  intro r2 hr2
  obtain ⟨a2, rfl⟩ : ∃ a2, r2 = .slice a2 (L.length - 4) (cap - 4) := by
    rw [← hr2]
    exact ⟨_, by simp; rfl⟩
  ((conv=>whnf);repeat((first|refine mvT ?_|refine mvF ?_|refine yT ?_|refine yF ?_);conv=>whnf))
  refine Does.mono (AppendInt32_in (hob.e0 (ext_drew _)) hLl _) ?_
  rintro rz w7 ⟨hob7, hx7⟩
  ((conv=>whnf);repeat((first|refine mvT ?_|refine mvF ?_|refine yT ?_|refine yF ?_);conv=>whnf))
  have hfin : fixed (IntKind.i32.wrap ((L.length - 4 : Nat) : Int)) 4 ++ L.drop 4 = fixed (headB key v num fx id ++ body).length 4 ++ (headB key v num fx id ++ body) := by
    have hd : L.drop 4 = headB key v num fx id ++ body := by
      rw [hL, hm0]
      unfold headB
      simp only [List.append_assoc]
      rfl
    rw [hd, fixed4_mod (wrap_i32m _), ← hd, List.length_drop]
  rw [hfin] at hob7
  exact ⟨hob7, (hxw.e0 (ext_drew _)).trans hx7 fun k hk e => by omega⟩
/-- A whole request, by the client's id. -/
theorem framed_does {w : World} {Ty : TypeId} {p : Nat} {key v num : Int} {fx : Bool} {body : List UInt8} {gK gV gF gA : FuncId} {has : Bool} {s : List UInt8} (hM : ReqM w Ty p key v fx body gK gV gF gA) (hk : key ≠ 7) (hs : s.length ≤ 32767) (hb : body.length ≤ 100000000000000) :
    Does X.P 21 #[.agg #[.bool has, str s], .iface Ty (.pointer (some ⟨p, 0, none⟩)), .int .i32 num] w fun r w' => OB w' w.heap.size r (fixed (headB key v num fx (.mk 0 s (!has) [] []) ++ body).length 4 ++ (headB key v num fx (.mk 0 s (!has) [] []) ++ body)) ∧ Ext nob w w' := by
  refine Does.go (X := X) (l := [_, _, _]) Tryz.func21 rfl (by kernel_rfl) (by kernel_rfl) _ rfl ?_
  ((conv=>whnf);repeat((first|refine mvT ?_|refine mvF ?_|refine yT ?_|refine yF ?_);conv=>whnf))
  intro b w1 hbn ho hx
  have ho : Own w1 b 23 [.bool has, str s] := ho
  ((conv=>whnf);repeat((first|refine mvT ?_|refine mvF ?_|refine yT ?_|refine yF ?_);conv=>whnf))
  refine Does.mono (NewFormatter_nil w1) ?_;rintro r w2 ⟨q, T2, rfl, hq, ho2, hx2⟩;((conv=>whnf);repeat((first|refine mvT ?_|refine mvF ?_|refine yT ?_|refine yF ?_);conv=>whnf))
  refine ldS ((ho.e0 hx2).cell rfl) ?_;((conv=>whnf);repeat((first|refine mvT ?_|refine mvF ?_|refine yT ?_|refine yF ?_);conv=>whnf))
  have hx02 := hx.e0 hx2
  refine VC.cutE (fun q : Nat => [(7, .pointer (some ⟨q, 0, none⟩)), (1, .iface Ty (.pointer (some ⟨p, 0, none⟩))), (2, .int .i32 num)]) (fun q w' => ∃ T2 cid, Own w' q T2 [cid] ∧ NTextR w' anyB cid (.mk 0 s (!has) [] []) ∧ Ext nob w w') ?_ ?_
  · refine cI (by rfl) (fun hc=>?_) (fun hc=>?_)
    · subst hc
      ((conv=>whnf);repeat((first|refine mvT ?_|refine mvF ?_|refine yT ?_|refine yF ?_);conv=>whnf))
      refine ldS ((ho.e0 hx2).cell rfl) ?_;((conv=>whnf);repeat((first|refine mvT ?_|refine mvF ?_|refine yT ?_|refine yF ?_);conv=>whnf))
      refine Does.mono (FormatterClientID_does s w2) ?_;rintro r w3 ⟨b3, T3, rfl, hb3, ho3, hx3⟩;((conv=>whnf);repeat((first|refine mvT ?_|refine mvF ?_|refine yT ?_|refine yF ?_);conv=>whnf))
      intro g w4 hg ho4 hx4
      ((conv=>whnf);repeat((first|refine mvT ?_|refine mvF ?_|refine yT ?_|refine yF ?_);conv=>whnf))
      refine Does.mono (NewFormatter_one ho4) ?_;rintro r w5 ⟨q5, T5, rfl, hq5, ho5, hx5⟩;((conv=>whnf);repeat((first|refine mvT ?_|refine mvF ?_|refine yT ?_|refine yF ?_);conv=>whnf))
      have ho3 := (ho3.e0 hx4).e0 hx5
      exact ⟨q5, ⟨rfl, rfl, rfl, trivial⟩, T5, _, ho5, .inr ⟨rfl, b3, 0, rfl, trivial, ho3.lt, ho3.cell rfl⟩, ((hx02.e0 hx3).e0 hx4).e0 hx5⟩
    · subst hc
      ((conv=>whnf);repeat((first|refine mvT ?_|refine mvF ?_|refine yT ?_|refine yF ?_);conv=>whnf))
      exact ⟨q, ⟨rfl, rfl, rfl, trivial⟩, T2, _, ho2, .inl ⟨rfl, rfl⟩, hx02⟩
  rintro q6 w6 ⟨T6, cid, ho6, hid, hx6⟩
  ((conv=>whnf);repeat((first|refine mvT ?_|refine mvF ?_|refine yT ?_|refine yF ?_);conv=>whnf))
  refine Does.mono (AppendRequest_does (w := w6) (hM.at hx6) hk ho6 hid hs hb) ?_
  rintro r w7 ⟨hr, hx7⟩
  ((conv=>whnf);repeat((first|refine mvT ?_|refine mvF ?_|refine yT ?_|refine yF ?_);conv=>whnf))
  exact ⟨hr.mono hx6.size, hx6.e0 hx7⟩
theorem zzFits4_does {w : World} {has : Bool} {s : List UInt8} : Does X.P 4 #[.agg #[.bool has, str s]] w fun r w' => (∃ b, r = .bool b) ∧ Ext nob w w' := by
  refine Does.go (X := X) (l := [_]) Tryz.func4 rfl (by kernel_rfl) (by kernel_rfl) _ rfl ?_
  ((conv=>whnf);repeat((first|refine mvT ?_|refine mvF ?_|refine yT ?_|refine yF ?_);conv=>whnf))
  intro b w1 hb ho hx
  ((conv=>whnf);repeat((first|refine mvT ?_|refine mvF ?_|refine yT ?_|refine yF ?_);conv=>whnf))
  have ho : Own w1 b 23 [.bool has, str s] := ho
  refine ldS (ho.cell rfl) ?_;((conv=>whnf);repeat((first|refine mvT ?_|refine mvF ?_|refine yT ?_|refine yF ?_);conv=>whnf))
  refine cI (by rfl) (fun h=>?_) (fun h=>?_)
  · ((conv=>whnf);repeat((first|refine mvT ?_|refine mvF ?_|refine yT ?_|refine yF ?_);conv=>whnf))
    exact ⟨⟨_, rfl⟩, hx⟩
  · ((conv=>whnf);repeat((first|refine mvT ?_|refine mvF ?_|refine yT ?_|refine yF ?_);conv=>whnf))
    exact ⟨⟨_, rfl⟩, hx⟩
theorem Flexible_does {w : World} {a : Option Addr} {n c : Nat} {fl v : Int} : Does X.P 13 #[.agg #[.slice a n c, .int .i64 fl], .int .i64 v] w fun r w' => r = .bool (flexB fl v) ∧ Ext nob w w' := by
  refine Does.go (X := X) (l := [_, _]) Tryz.func13 rfl (by kernel_rfl) (by kernel_rfl) _ rfl ?_
  ((conv=>whnf);repeat((first|refine mvT ?_|refine mvF ?_|refine yT ?_|refine yF ?_);conv=>whnf))
  intro b w1 hb ho hx
  ((conv=>whnf);repeat((first|refine mvT ?_|refine mvF ?_|refine yT ?_|refine yF ?_);conv=>whnf))
  have ho : Own w1 b 34 [.slice a n c, .int .i64 fl] := ho
  refine ldS (ho.cell rfl) ?_;((conv=>whnf);repeat((first|refine mvT ?_|refine mvF ?_|refine yT ?_|refine yF ?_);conv=>whnf))
  intro cq hcq
  cases cq with
  | true =>
    ((conv=>whnf);repeat((first|refine mvT ?_|refine mvF ?_|refine yT ?_|refine yF ?_);conv=>whnf))
    refine ldS (ho.cell rfl) ?_;((conv=>whnf);repeat((first|refine mvT ?_|refine mvF ?_|refine yT ?_|refine yF ?_);conv=>whnf))
    refine ⟨?_, hx⟩
    have : 0 ≤ fl := of_decide_eq_true hcq
    simp [oneOr, flexB, this]
  | false =>
    ((conv=>whnf);repeat((first|refine mvT ?_|refine mvF ?_|refine yT ?_|refine yF ?_);conv=>whnf))
    refine ⟨?_, hx⟩
    have : ¬ 0 ≤ fl := of_decide_eq_false hcq
    simp [oneOr, flexB, this]
theorem Frame_does {F G : Nat → Prop} {w : World} {key v num : Int} {has fx : Bool} {x y : Value} {s body : List UInt8} (hx : Bytes w F x s) (hy : Bytes w G y body) (hs : s.length ≤ 32767) (hb : body.length ≤ 100000000000000) :
    Does X.P 12 #[.int .i64 key, .int .i64 v, .int .i32 num, .bool has, x, .bool fx, y] w fun r w' => OB w' w.heap.size r (fixed (headB key v num fx (.mk 0 s (!has) [] []) ++ body).length 4 ++ (headB key v num fx (.mk 0 s (!has) [] []) ++ body)) ∧ Ext nob w w' := by
  obtain ⟨ax, cx, rfl, _⟩ := hx.view
  obtain ⟨ay, cy, rfl, _⟩ := hy.view
  refine Does.go (X := X) (l := [_, _, _, _, _, _, _]) Tryz.func12 rfl (by kernel_rfl) (by kernel_rfl) _ rfl ?_
  ((conv=>whnf);repeat((first|refine mvT ?_|refine mvF ?_|refine yT ?_|refine yF ?_);conv=>whnf))
  refine Does.mono (Fixed_does key 2 (by omega) _) ?_;rintro r1 w1 ⟨h1, hx1⟩;((conv=>whnf);repeat((first|refine mvT ?_|refine mvF ?_|refine yT ?_|refine yF ?_);conv=>whnf))
  refine Does.mono (Fixed_does v 2 (by omega) _) ?_;rintro r2 w2 ⟨h2, hx2⟩;((conv=>whnf);repeat((first|refine mvT ?_|refine mvF ?_|refine yT ?_|refine yF ?_);conv=>whnf))
  refine app_apd rfl rfl ((h1.e0 hx2).mono (Nat.le_refl _)) h2.bytesAny.src rfl (by rw [fixed_length, fixed_length]; omega) (Nat.le_trans hx1.size hx2.size) ?_
  intro r3 w3 h3
  have hx3 : Ext nob w w3 := (hx1.e0 hx2).own h3.ext (B := w.heap.size) h1.blk (Nat.le_refl _)
  have h3 : OB w3 w.heap.size r3 (fixed key 2 ++ fixed v 2) := h3.ob
  ((conv=>whnf);repeat((first|refine mvT ?_|refine mvF ?_|refine yT ?_|refine yF ?_);conv=>whnf))
  refine Does.mono (Fixed_does _ 4 (by omega) _) ?_
  rintro r4 w4 ⟨h4, hx4⟩
  rw [fixed4_mod (n := IntKind.i64.wrap num) (m := num) (by have := wrap_i64m num; omega)] at h4
  ((conv=>whnf);repeat((first|refine mvT ?_|refine mvF ?_|refine yT ?_|refine yF ?_);conv=>whnf))
  refine app_apd rfl rfl (h3.e0 hx4) h4.bytesAny.src rfl (by simp only [List.length_append, fixed_length]; omega) (Nat.le_trans hx3.size hx4.size) ?_
  intro r5 w5 h5
  have hx5 : Ext nob w w5 := (hx3.e0 hx4).own h5.ext (B := w.heap.size) h3.blk (Nat.le_refl _)
  have h5 : OB w5 w.heap.size r5 (fixed key 2 ++ fixed v 2 ++ fixed num 4) := h5.ob
  ((conv=>whnf);repeat((first|refine mvT ?_|refine mvF ?_|refine yT ?_|refine yF ?_);conv=>whnf))
  (refine mvB ?_;((conv=>whnf);repeat((first|refine mvT ?_|refine mvF ?_|refine yT ?_|refine yF ?_);conv=>whnf)))
  refine VC.cutE (fun r : Value => [(15, r), (5, .bool fx), (6, .slice ay body.length cy)]) (fun r w' => OB w' w.heap.size r (fixed key 2 ++ fixed v 2 ++ fixed num 4 ++ ntA false (!has) s) ∧ Ext nob w w') ?_ ?_
  · refine cI (by rfl) (fun hc=>?_) (fun hc=>?_)
    · subst hc
      ((conv=>whnf);repeat((first|refine mvT ?_|refine mvF ?_|refine yT ?_|refine yF ?_);conv=>whnf))
      refine Does.mono (Fixed_does _ 2 (by omega) _) ?_
      rintro r6 w6 ⟨h6, hx6⟩
      ((conv=>whnf);repeat((first|refine mvT ?_|refine mvF ?_|refine yT ?_|refine yF ?_);conv=>whnf))
      refine app_apd rfl rfl (h5.e0 hx6) h6.bytesAny.src rfl (by simp only [List.length_append, fixed_length]; omega) (Nat.le_trans hx5.size hx6.size) ?_
      intro r7 w7 h7
      have hx7 : Ext nob w w7 := (hx5.e0 hx6).own h7.ext (B := w.heap.size) h5.blk (Nat.le_refl _)
      have h7 := h7.ob
      ((conv=>whnf);repeat((first|refine mvT ?_|refine mvF ?_|refine yT ?_|refine yF ?_);conv=>whnf))
      refine app_apd rfl rfl h7 (hx.e0 hx7).src rfl (by simp only [List.length_append, fixed_length]; omega) hx7.size ?_
      intro r8 w8 h8
      have hx8 : Ext nob w w8 := hx7.own h8.ext (B := w.heap.size) h7.blk (Nat.le_refl _)
      have h8 := h8.ob
      ((conv=>whnf);repeat((first|refine mvT ?_|refine mvF ?_|refine yT ?_|refine yF ?_);conv=>whnf))
      refine ⟨_, ⟨rfl, rfl, rfl, trivial⟩, ?_, hx8⟩
      rw [List.append_assoc] at h8
      exact h8
    · subst hc
      ((conv=>whnf);repeat((first|refine mvT ?_|refine mvF ?_|refine yT ?_|refine yF ?_);conv=>whnf))
      refine Does.mono (Fixed_does _ 2 (by omega) _) ?_
      rintro r6 w6 ⟨h6, hx6⟩
      ((conv=>whnf);repeat((first|refine mvT ?_|refine mvF ?_|refine yT ?_|refine yF ?_);conv=>whnf))
      refine app_apd rfl rfl (h5.e0 hx6) h6.bytesAny.src rfl (by simp only [List.length_append, fixed_length]; omega) (Nat.le_trans hx5.size hx6.size) ?_
      intro r7 w7 h7
      have hx7 : Ext nob w w7 := (hx5.e0 hx6).own h7.ext (B := w.heap.size) h5.blk (Nat.le_refl _)
      ((conv=>whnf);repeat((first|refine mvT ?_|refine mvF ?_|refine yT ?_|refine yF ?_);conv=>whnf))
      exact ⟨_, ⟨rfl, rfl, rfl, trivial⟩, h7.ob, hx7⟩
  clear h5 hx5 h4 hx4 h3 hx3 h2 hx2 h1 hx1
  rintro r5 w5 ⟨h5, hx5⟩
  ((conv=>whnf);repeat((first|refine mvT ?_|refine mvF ?_|refine yT ?_|refine yF ?_);conv=>whnf))
  have hn : (ntA false (!has) s).length ≤ 2 + s.length := by
    unfold ntA txA
    split
    · simp [fixed_length]
    · simp [fixed_length]
  obtain ⟨m0, hm0⟩ : ∃ m0 : List UInt8, m0 = fixed key 2 ++ fixed v 2 ++ fixed num 4 ++ ntA false (!has) s := ⟨_, rfl⟩
  rw [← hm0] at h5
  have hl0 : m0.length ≤ 100000 := by
    rw [hm0]
    simp only [List.length_append, fixed_length]
    omega
  (refine mvB ?_;((conv=>whnf);repeat((first|refine mvT ?_|refine mvF ?_|refine yT ?_|refine yF ?_);conv=>whnf)))
  refine VC.cutE (fun r : Value => [(15, r), (6, .slice ay body.length cy)]) (fun r w' => OB w' w.heap.size r (m0 ++ (if fx = true then [0] else [])) ∧ Ext nob w w') ?_ ?_
  · refine cI (by rfl) (fun hc=>?_) (fun hc=>?_)
    · ((conv=>whnf);repeat((first|refine mvT ?_|refine mvF ?_|refine yT ?_|refine yF ?_);conv=>whnf))
      intro b6 w6 hb6 ho6 hx6
      ((conv=>whnf);repeat((first|refine mvT ?_|refine mvF ?_|refine yT ?_|refine yF ?_);conv=>whnf))
      have ho6 : Own w6 b6 U8 (([0] : List UInt8).map bcell) := ho6
      refine app_apd (m := [0]) rfl rfl (h5.e0 hx6) (src_own ho6 rfl) rfl (by simp only [List.length_nil, List.length_cons]; omega) (Nat.le_trans hx5.size hx6.size) ?_
      intro r7 w7 h7
      have hx7 : Ext nob w w7 := (hx5.e0 hx6).own h7.ext (B := w.heap.size) h5.blk (Nat.le_refl _)
      ((conv=>whnf);repeat((first|refine mvT ?_|refine mvF ?_|refine yT ?_|refine yF ?_);conv=>whnf))
      exact ⟨_, ⟨rfl, rfl, trivial⟩, by rw [if_pos hc]; exact h7.ob, hx7⟩
    · ((conv=>whnf);repeat((first|refine mvT ?_|refine mvF ?_|refine yT ?_|refine yF ?_);conv=>whnf))
      exact ⟨_, ⟨rfl, rfl, trivial⟩, by rw [if_neg (by rw [hc]; decide), List.append_nil]; exact h5, hx5⟩
  clear h5 hx5
  rintro r5 w5 ⟨h5, hx5⟩
  ((conv=>whnf);repeat((first|refine mvT ?_|refine mvF ?_|refine yT ?_|refine yF ?_);conv=>whnf))
  have hl1 : (if fx = true then ([0] : List UInt8) else []).length ≤ 1 := by split <;> simp
  refine app_apd rfl rfl h5 (hy.e0 hx5).src rfl (by simp only [List.length_append]; omega) hx5.size ?_
  intro r6 w6 h6
  have hx6 : Ext nob w w6 := hx5.own h6.ext (B := w.heap.size) h5.blk (Nat.le_refl _)
  have h6 := h6.ob
  have hall : m0 ++ (if fx = true then [0] else []) ++ body = headB key v num fx (.mk 0 s (!has) [] []) ++ body := by rw [hm0]; rfl
  rw [hall] at h6
  have hlen : (headB key v num fx (.mk 0 s (!has) [] []) ++ body).length ≤ 100000000200000 := by rw [← hall]; simp only [List.length_append]; omega
  obtain ⟨a6, c6, rfl, _⟩ := h6.shape
  ((conv=>whnf);repeat((first|refine mvT ?_|refine mvF ?_|refine yT ?_|refine yF ?_);conv=>whnf))
  refine Does.mono (Fixed_does _ 4 (by omega) _) ?_
  rintro r7 w7 ⟨h7, hx7⟩
  ((conv=>whnf);repeat((first|refine mvT ?_|refine mvF ?_|refine yT ?_|refine yF ?_);conv=>whnf))
  refine app_apd rfl rfl h7 (h6.e0 hx7).bytesAny.src rfl (by rw [fixed_length]; omega) hx7.size ?_
  intro r8 w8 h8
  ((conv=>whnf);repeat((first|refine mvT ?_|refine mvF ?_|refine yT ?_|refine yF ?_);conv=>whnf))
  have hx68 : Ext nob w6 w8 := hx7.own h8.ext (B := w6.heap.size) h7.blk (Nat.le_refl _)
  exact ⟨h8.ob.mono hx6.size, hx6.e0 hx68⟩
end Go.Proofs.YtibbkhcdplijdaaGreatDoor.K
