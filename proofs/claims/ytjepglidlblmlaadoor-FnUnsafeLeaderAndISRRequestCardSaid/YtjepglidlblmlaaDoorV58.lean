
/- Reading of LeaderAndISRRequest. -/
import Derived.Test.YtjepglidlblmlaaDoorE5
set_option linter.unusedVariables false
set_option linter.unusedSimpArgs false
namespace Go.Proofs.YtjepglidlblmlaaDoor.K
open Go
set_option maxHeartbeats 4000000
set_option maxRecDepth 100000

abbrev dLeaderAndISRRequestTopicPartition : List Fd := [.mk 8 0 1 (-1) (-1) 0 0 [], .mk 3 0 (-1) (-1) (-1) 0 0 [], .mk 3 0 (-1) (-1) (-1) 0 0 [], .mk 3 0 (-1) (-1) (-1) 0 0 [], .mk 3 0 (-1) (-1) (-1) 0 0 [], .mk 11 0 (-1) (-1) (-1) 0 3 [], .mk 3 0 (-1) (-1) (-1) 0 0 [], .mk 11 0 (-1) (-1) (-1) 0 3 [], .mk 11 3 (-1) (-1) (-1) 0 3 [], .mk 11 3 (-1) (-1) (-1) 0 3 [], .mk 0 1 (-1) (-1) (-1) 0 0 [], .mk 1 6 (-1) (-1) (-1) 0 0 []]
abbrev dLeaderAndISRRequestTopicState : List Fd := [.mk 8 0 (-1) (-1) (-1) 0 0 [], .mk 7 5 (-1) (-1) (-1) 0 0 [], .mk 11 0 (-1) (-1) (-1) 0 10 dLeaderAndISRRequestTopicPartition]
abbrev dLeaderAndISRRequestLiveLeader : List Fd := [.mk 3 0 (-1) (-1) (-1) 0 0 [], .mk 8 0 (-1) (-1) (-1) 0 0 [], .mk 3 0 (-1) (-1) (-1) 0 0 []]
abbrev dLeaderAndISRRequest : List Fd := [.mk 3 0 (-1) (-1) (-1) 0 0 [], .mk 0 7 (-1) (-1) (-1) 0 0 [], .mk 3 0 (-1) (-1) (-1) 0 0 [], .mk 4 2 (-1) (-1) (-1) (-1) 0 [], .mk 1 5 (-1) (-1) (-1) 0 0 [], .mk 11 0 1 (-1) (-1) 0 10 dLeaderAndISRRequestTopicPartition, .mk 11 2 (-1) (-1) (-1) 0 10 dLeaderAndISRRequestTopicState, .mk 11 0 (-1) (-1) (-1) 0 10 dLeaderAndISRRequestLiveLeader]
theorem dfLeaderAndISRRequestTopicPartition {w : World} {q o : Nat} {T : TypeId} {pre cur post : List Value} (ho : Own w q T (pre ++ cur ++ post)) (hp : pre.length = o) (hl : cur.length = 13) :
    Does X.P 34 #[.pointer (some ⟨q, o, none⟩)] w fun r w' => Own w' q T (pre ++ cur ++ post) ∧ Ext (fun k => k = q) w w' := by
  have hx : Ext (fun k => k = q) w w := Ext.refl _ _
  refine Does.go (X := X) (l := [_]) Tryd.func34 rfl (by kernel_rfl) (by kernel_rfl) _ rfl ?_
  ((conv=>whnf);repeat((first|refine mvT ?_|refine mvF ?_|refine yT ?_|refine yF ?_);conv=>whnf))
  exact ⟨ho, hx⟩
theorem dfLeaderAndISRRequestTopicState {w : World} {q o : Nat} {T : TypeId} {pre cur post : List Value} (ho : Own w q T (pre ++ cur ++ post)) (hp : pre.length = o) (hl : cur.length = 19) :
    Does X.P 40 #[.pointer (some ⟨q, o, none⟩)] w fun r w' => Own w' q T (pre ++ cur ++ post) ∧ Ext (fun k => k = q) w w' := by
  have hx : Ext (fun k => k = q) w w := Ext.refl _ _
  refine Does.go (X := X) (l := [_]) Tryd.func40 rfl (by kernel_rfl) (by kernel_rfl) _ rfl ?_
  ((conv=>whnf);repeat((first|refine mvT ?_|refine mvF ?_|refine yT ?_|refine yF ?_);conv=>whnf))
  exact ⟨ho, hx⟩
theorem dfLeaderAndISRRequestLiveLeader {w : World} {q o : Nat} {T : TypeId} {pre cur post : List Value} (ho : Own w q T (pre ++ cur ++ post)) (hp : pre.length = o) (hl : cur.length = 4) :
    Does X.P 42 #[.pointer (some ⟨q, o, none⟩)] w fun r w' => Own w' q T (pre ++ cur ++ post) ∧ Ext (fun k => k = q) w w' := by
  have hx : Ext (fun k => k = q) w w := Ext.refl _ _
  refine Does.go (X := X) (l := [_]) Tryd.func42 rfl (by kernel_rfl) (by kernel_rfl) _ rfl ?_
  ((conv=>whnf);repeat((first|refine mvT ?_|refine mvF ?_|refine yT ?_|refine yF ?_);conv=>whnf))
  exact ⟨ho, hx⟩
theorem dfLeaderAndISRRequest {w : World} {q o : Nat} {T : TypeId} {pre cur post : List Value} (ho : Own w q T (pre ++ cur ++ post)) (hp : pre.length = o) (hl : cur.length = 10) :
    Does X.P 17 #[.pointer (some ⟨q, o, none⟩)] w fun r w' => Own w' q T (pre ++ (cur.set 4 (.int .i64 (-1))) ++ post) ∧ Ext (fun k => k = q) w w' := by
  have hx : Ext (fun k => k = q) w w := Ext.refl _ _
  refine Does.go (X := X) (l := [_]) Tryd.func17 rfl (by kernel_rfl) (by kernel_rfl) _ rfl ?_
  ((conv=>whnf);repeat((first|refine mvT ?_|refine mvF ?_|refine yT ?_|refine yF ?_);conv=>whnf))
  refine stm ho 4 rfl rfl hp (by omega) rfl (by first | omega | (simp only [List.length_set]; omega)) ?_
  intro w0 ho hxd
  have hx := hx.trans hxd fun _ _ h => h
  ((conv=>whnf);repeat((first|refine mvT ?_|refine mvF ?_|refine yT ?_|refine yF ?_);conv=>whnf))
  exact ⟨ho, hx⟩
theorem readLeaderAndISRRequest {w0 : World} {F : Nat → Prop} {p : Nat} {ty : TypeId} {uns : Bool} {v : Int} {x ev : Value} {l : List UInt8} (hL : Laid w0 ev) (hp : Own w0 p ty [.int .i16 v, .int .i32 0, .bool false, .int .i32 0, .int .i64 (-1), .int .i8 0, .slice none 0 0, .slice none 0 0, .slice none 0 0, .map none]) (hx : Bytes w0 F x l) (hF : ∀ k, F k → k ≠ p) (hv : 0 ≤ v) (hp1 : p ≠ errG) :
    Does X.P 18 #[.pointer (some ⟨p, 0, none⟩), x, .bool uns] w0 fun r w' => RdPost w0 p ty v (decide (v ≥ 4)) true dLeaderAndISRRequest ev l r w' := by
  have hpl := hp.lt
  obtain ⟨fx, hfx⟩ : ∃ fx, fx = decide (v ≥ 4) := ⟨_, rfl⟩
  rw [← hfx]
  obtain ⟨G0, hG0, hx⟩ : ∃ G0 : Nat → Prop, (∀ k, G0 k → k < w0.heap.size ∧ k ≠ p) ∧ Bytes w0 G0 x l := ⟨fun k => F k ∧ k < w0.heap.size, fun k h => ⟨h.2, hF k h.1⟩, Sl.mono hx fun k hk h => ⟨h, hk⟩⟩
  obtain ⟨a0, c0, rfl, _⟩ := hx.view
  refine Does.go (X := X) (l := [_, _, _]) Tryd.func18 rfl (by kernel_rfl) (by kernel_rfl) _ rfl ?_
  ((conv=>whnf);repeat((first|refine mvT ?_|refine mvF ?_|refine yT ?_|refine yF ?_);conv=>whnf))
  refine Does.mono (dfLeaderAndISRRequest (pre := []) (cur := [.int .i16 v, .int .i32 0, .bool false, .int .i32 0, .int .i64 (-1), .int .i8 0, .slice none 0 0, .slice none 0 0, .slice none 0 0, .map none]) (post := []) (by simpa using hp) rfl rfl) ?_
  rintro rd wd ⟨hpd, hxd⟩
  ((conv=>whnf);repeat((first|refine mvT ?_|refine mvF ?_|refine yT ?_|refine yF ?_);conv=>whnf))
  intro pb w1 hpb hb hx1
  ((conv=>whnf);repeat((first|refine mvT ?_|refine mvF ?_|refine yT ?_|refine yF ?_);conv=>whnf))
  refine st_all [.slice a0 l.length c0, .bool false] hb rfl rfl rfl ?_
  intro w hb hx2
  ((conv=>whnf);repeat((first|refine mvT ?_|refine mvF ?_|refine yT ?_|refine yF ?_);conv=>whnf))
  have hsd := hxd.size
  have hwp : w0.heap.size ≤ pb := by omega
  have he1 : Ext nob wd w := hx1.trans hx2 fun k hk h => by omega
  have hpw : Own w p ty [.int .i16 v, .int .i32 0, .bool false, .int .i32 0, .int .i64 (-1), .int .i8 0, .slice none 0 0, .slice none 0 0, .slice none 0 0, .map none] := by have := hpd.e0 he1; simpa using this
  have he := hxd.tr0 he1
  have H := St.init hpw hb (hx.ext he fun k _ h => (hG0 k h).2) hG0 he hpl hwp
  clear hpd hxd hx1 hx2 hb hpw he1 hp
  refine ldS (H.cell (o := 0) rfl (k := 0) rfl) ?_;((conv=>whnf);repeat((first|refine mvT ?_|refine mvF ?_|refine yT ?_|refine yF ?_);conv=>whnf))
  rw [← hfx]
  (refine mvB ?_;((conv=>whnf);repeat((first|refine mvT ?_|refine mvF ?_|refine yT ?_|refine yF ?_);conv=>whnf)))
  have hup0 : tailBad 9 v fx dLeaderAndISRRequest dLeaderAndISRRequest (l, false) = true → (rdPart 9 v fx dLeaderAndISRRequest (l, false)).2.2 = true := fun h => (tailBad_part _ _ _ _ _).symm.trans h
  refine Does.mono H.int32 ?_
  rintro r w ⟨n1, s1, rfl, hn1, hr1, H⟩
  ((conv=>whnf);repeat((first|refine mvT ?_|refine mvF ?_|refine yT ?_|refine yF ?_);conv=>whnf))
  refine H.st1 (v := .int .i32 n1) 1 (rfl) (rfl) rfl (by simp) rfl (Nat.lt_of_lt_of_le (Nat.lt_succ_self _) (Nat.le_of_ble_eq_true rfl)) ?_
  intro w H
  ((conv=>whnf);repeat((first|refine mvT ?_|refine mvF ?_|refine yT ?_|refine yF ?_);conv=>whnf))
  replace H : St w0 G0 p pb s1 ((p, ty, [] ++ [.int .i16 v, .int .i32 n1, .bool false, .int .i32 0, .int .i64 (-1), .int .i8 0, .slice none 0 0, .slice none 0 0, .slice none 0 0, .map none] ++ []) :: []) (fun _ => True) w := H
  refine VC.cutE (fun q : Bool × Rd => [(0, .pointer (some ⟨p, 0, none⟩)), (2, .bool uns), (7, .pointer (some ⟨pb, 0, none⟩)), (8, .int .i16 v), (9, .bool fx), (10, .pointer (some ⟨p, 0, none⟩))]) (fun q w' => (if hasF (.mk 0 7 (-1) (-1) (-1) 0 0 []) v = true then rdField 9 v fx (.mk 0 7 (-1) (-1) (-1) 0 0 []) s1 else (dfT 9 (.mk 0 7 (-1) (-1) (-1) 0 0 []), s1)) = (numT (if q.1 = true then 1 else 0), q.2) ∧ St w0 G0 p pb q.2 ((p, ty, [] ++ [.int .i16 v, .int .i32 n1, .bool q.1, .int .i32 0, .int .i64 (-1), .int .i8 0, .slice none 0 0, .slice none 0 0, .slice none 0 0, .map none] ++ []) :: []) (fun _ => True) w') ?_ ?_
  · refine cI (by rfl) (fun hcv=>?_) (fun hcv=>?_)
    · ((conv=>whnf);repeat((first|refine mvT ?_|refine mvF ?_|refine yT ?_|refine yF ?_);conv=>whnf))
      refine Does.mono H.bool ?_
      rintro r w ⟨b4, s4, rfl, hr4, H⟩
      ((conv=>whnf);repeat((first|refine mvT ?_|refine mvF ?_|refine yT ?_|refine yF ?_);conv=>whnf))
      (refine mvB ?_;((conv=>whnf);repeat((first|refine mvT ?_|refine mvF ?_|refine yT ?_|refine yF ?_);conv=>whnf)))
      refine H.st1 (v := .bool b4) 2 (rfl) (rfl) rfl (by simp) rfl (Nat.lt_of_lt_of_le (Nat.lt_succ_self _) (Nat.le_of_ble_eq_true rfl)) ?_
      intro w H
      ((conv=>whnf);repeat((first|refine mvT ?_|refine mvF ?_|refine yT ?_|refine yF ?_);conv=>whnf))
      replace H : St w0 G0 p pb s4 ((p, ty, [] ++ [.int .i16 v, .int .i32 n1, .bool b4, .int .i32 0, .int .i64 (-1), .int .i8 0, .slice none 0 0, .slice none 0 0, .slice none 0 0, .map none] ++ []) :: []) (fun _ => True) w := H
      have hh : hasF (.mk 0 7 (-1) (-1) (-1) 0 0 []) v = true := by have := of_decide_eq_true hcv; rw [hasF_iff]; omega
      exact ⟨(b4, s4), ⟨rfl, rfl, rfl, rfl, rfl, rfl, trivial⟩, by rw [if_pos hh]; exact (rdField0.trans hr4), H⟩
    · ((conv=>whnf);repeat((first|refine mvT ?_|refine mvF ?_|refine yT ?_|refine yF ?_);conv=>whnf))
      have hh : ¬ hasF (.mk 0 7 (-1) (-1) (-1) 0 0 []) v = true := by have := of_decide_eq_false hcv; rw [hasF_iff]; omega
      exact ⟨(false, s1), ⟨rfl, rfl, rfl, rfl, rfl, rfl, trivial⟩, by rw [if_neg hh]; rfl, H⟩
  clear H
  rintro ⟨n3, s3⟩ w ⟨hr3, H⟩
  dsimp only at hr3 H
  ((conv=>whnf);repeat((first|refine mvT ?_|refine mvF ?_|refine yT ?_|refine yF ?_);conv=>whnf))
  replace H : St w0 G0 p pb s3 ((p, ty, [] ++ [.int .i16 v, .int .i32 n1, .bool n3, .int .i32 0, .int .i64 (-1), .int .i8 0, .slice none 0 0, .slice none 0 0, .slice none 0 0, .map none] ++ []) :: []) (fun _ => True) w := H
  refine Does.mono H.int32 ?_
  rintro r w ⟨n6, s6, rfl, hn6, hr6, H⟩
  ((conv=>whnf);repeat((first|refine mvT ?_|refine mvF ?_|refine yT ?_|refine yF ?_);conv=>whnf))
  refine H.st1 (v := .int .i32 n6) 3 (rfl) (rfl) rfl (by simp) rfl (Nat.lt_of_lt_of_le (Nat.lt_succ_self _) (Nat.le_of_ble_eq_true rfl)) ?_
  intro w H
  ((conv=>whnf);repeat((first|refine mvT ?_|refine mvF ?_|refine yT ?_|refine yF ?_);conv=>whnf))
  replace H : St w0 G0 p pb s6 ((p, ty, [] ++ [.int .i16 v, .int .i32 n1, .bool n3, .int .i32 n6, .int .i64 (-1), .int .i8 0, .slice none 0 0, .slice none 0 0, .slice none 0 0, .map none] ++ []) :: []) (fun _ => True) w := H
  refine VC.cutE (fun q : Int × Rd => [(0, .pointer (some ⟨p, 0, none⟩)), (2, .bool uns), (7, .pointer (some ⟨pb, 0, none⟩)), (8, .int .i16 v), (9, .bool fx), (10, .pointer (some ⟨p, 0, none⟩))]) (fun q w' => IntKind.i64.wrap q.1 = q.1 ∧ (if hasF (.mk 4 2 (-1) (-1) (-1) (-1) 0 []) v = true then rdField 9 v fx (.mk 4 2 (-1) (-1) (-1) (-1) 0 []) s6 else (dfT 9 (.mk 4 2 (-1) (-1) (-1) (-1) 0 []), s6)) = (numT q.1, q.2) ∧ St w0 G0 p pb q.2 ((p, ty, [] ++ [.int .i16 v, .int .i32 n1, .bool n3, .int .i32 n6, .int .i64 q.1, .int .i8 0, .slice none 0 0, .slice none 0 0, .slice none 0 0, .map none] ++ []) :: []) (fun _ => True) w') ?_ ?_
  · refine cI (by rfl) (fun hcv=>?_) (fun hcv=>?_)
    · ((conv=>whnf);repeat((first|refine mvT ?_|refine mvF ?_|refine yT ?_|refine yF ?_);conv=>whnf))
      refine Does.mono H.int64 ?_
      rintro r w ⟨n9, s9, rfl, hn9, hr9, H⟩
      ((conv=>whnf);repeat((first|refine mvT ?_|refine mvF ?_|refine yT ?_|refine yF ?_);conv=>whnf))
      refine H.st1 (v := .int .i64 n9) 4 (rfl) (rfl) rfl (by simp) rfl (Nat.lt_of_lt_of_le (Nat.lt_succ_self _) (Nat.le_of_ble_eq_true rfl)) ?_
      intro w H
      ((conv=>whnf);repeat((first|refine mvT ?_|refine mvF ?_|refine yT ?_|refine yF ?_);conv=>whnf))
      replace H : St w0 G0 p pb s9 ((p, ty, [] ++ [.int .i16 v, .int .i32 n1, .bool n3, .int .i32 n6, .int .i64 n9, .int .i8 0, .slice none 0 0, .slice none 0 0, .slice none 0 0, .map none] ++ []) :: []) (fun _ => True) w := H
      have hh : hasF (.mk 4 2 (-1) (-1) (-1) (-1) 0 []) v = true := by have := of_decide_eq_true hcv; rw [hasF_iff]; omega
      exact ⟨(n9, s9), ⟨rfl, rfl, rfl, rfl, rfl, rfl, trivial⟩, hn9, by rw [if_pos hh]; exact (rdField4.trans hr9), H⟩
    · ((conv=>whnf);repeat((first|refine mvT ?_|refine mvF ?_|refine yT ?_|refine yF ?_);conv=>whnf))
      have hh : ¬ hasF (.mk 4 2 (-1) (-1) (-1) (-1) 0 []) v = true := by have := of_decide_eq_false hcv; rw [hasF_iff]; omega
      exact ⟨((-1), s6), ⟨rfl, rfl, rfl, rfl, rfl, rfl, trivial⟩, rfl, by rw [if_neg hh]; rfl, H⟩
  clear H
  rintro ⟨n8, s8⟩ w ⟨hn8, hr8, H⟩
  dsimp only at hn8 hr8 H
  ((conv=>whnf);repeat((first|refine mvT ?_|refine mvF ?_|refine yT ?_|refine yF ?_);conv=>whnf))
  replace H : St w0 G0 p pb s8 ((p, ty, [] ++ [.int .i16 v, .int .i32 n1, .bool n3, .int .i32 n6, .int .i64 n8, .int .i8 0, .slice none 0 0, .slice none 0 0, .slice none 0 0, .map none] ++ []) :: []) (fun _ => True) w := H
  refine VC.cutE (fun q : Int × Rd => [(0, .pointer (some ⟨p, 0, none⟩)), (2, .bool uns), (7, .pointer (some ⟨pb, 0, none⟩)), (8, .int .i16 v), (9, .bool fx), (10, .pointer (some ⟨p, 0, none⟩))]) (fun q w' => IntKind.i8.wrap q.1 = q.1 ∧ (if hasF (.mk 1 5 (-1) (-1) (-1) 0 0 []) v = true then rdField 9 v fx (.mk 1 5 (-1) (-1) (-1) 0 0 []) s8 else (dfT 9 (.mk 1 5 (-1) (-1) (-1) 0 0 []), s8)) = (numT q.1, q.2) ∧ St w0 G0 p pb q.2 ((p, ty, [] ++ [.int .i16 v, .int .i32 n1, .bool n3, .int .i32 n6, .int .i64 n8, .int .i8 q.1, .slice none 0 0, .slice none 0 0, .slice none 0 0, .map none] ++ []) :: []) (fun _ => True) w') ?_ ?_
  · refine cI (by rfl) (fun hcv=>?_) (fun hcv=>?_)
    · ((conv=>whnf);repeat((first|refine mvT ?_|refine mvF ?_|refine yT ?_|refine yF ?_);conv=>whnf))
      refine Does.mono H.int8 ?_
      rintro r w ⟨n12, s12, rfl, hn12, hr12, H⟩
      ((conv=>whnf);repeat((first|refine mvT ?_|refine mvF ?_|refine yT ?_|refine yF ?_);conv=>whnf))
      refine H.st1 (v := .int .i8 n12) 5 (rfl) (rfl) rfl (by simp) rfl (Nat.lt_of_lt_of_le (Nat.lt_succ_self _) (Nat.le_of_ble_eq_true rfl)) ?_
      intro w H
      ((conv=>whnf);repeat((first|refine mvT ?_|refine mvF ?_|refine yT ?_|refine yF ?_);conv=>whnf))
      replace H : St w0 G0 p pb s12 ((p, ty, [] ++ [.int .i16 v, .int .i32 n1, .bool n3, .int .i32 n6, .int .i64 n8, .int .i8 n12, .slice none 0 0, .slice none 0 0, .slice none 0 0, .map none] ++ []) :: []) (fun _ => True) w := H
      have hh : hasF (.mk 1 5 (-1) (-1) (-1) 0 0 []) v = true := by have := of_decide_eq_true hcv; rw [hasF_iff]; omega
      exact ⟨(n12, s12), ⟨rfl, rfl, rfl, rfl, rfl, rfl, trivial⟩, hn12, by rw [if_pos hh]; exact (rdField1.trans hr12), H⟩
    · ((conv=>whnf);repeat((first|refine mvT ?_|refine mvF ?_|refine yT ?_|refine yF ?_);conv=>whnf))
      have hh : ¬ hasF (.mk 1 5 (-1) (-1) (-1) 0 0 []) v = true := by have := of_decide_eq_false hcv; rw [hasF_iff]; omega
      exact ⟨(0, s8), ⟨rfl, rfl, rfl, rfl, rfl, rfl, trivial⟩, rfl, by rw [if_neg hh]; rfl, H⟩
  clear H
  rintro ⟨n11, s11⟩ w ⟨hn11, hr11, H⟩
  dsimp only at hn11 hr11 H
  ((conv=>whnf);repeat((first|refine mvT ?_|refine mvF ?_|refine yT ?_|refine yF ?_);conv=>whnf))
  replace H : St w0 G0 p pb s11 ((p, ty, [] ++ [.int .i16 v, .int .i32 n1, .bool n3, .int .i32 n6, .int .i64 n8, .int .i8 n11, .slice none 0 0, .slice none 0 0, .slice none 0 0, .map none] ++ []) :: []) (fun _ => True) w := H
  intro cq hcq
  obtain rfl : cq = true := by rw [← hcq]; exact decide_eq_true hv
  ((conv=>whnf);repeat((first|refine mvT ?_|refine mvF ?_|refine yT ?_|refine yF ?_);conv=>whnf))
  refine VC.cutE (fun q : Value × Bool × List T × Rd => [(0, .pointer (some ⟨p, 0, none⟩)), (2, .bool uns), (7, .pointer (some ⟨pb, 0, none⟩)), (8, .int .i16 v), (9, .bool fx), (10, .pointer (some ⟨p, 0, none⟩))]) (fun q w' => (q.2.1 = true → q.2.2.1 = []) ∧ (if hasF (.mk 11 0 1 (-1) (-1) 0 10 dLeaderAndISRRequestTopicPartition) v = true then rdField 9 v fx (.mk 11 0 1 (-1) (-1) 0 10 dLeaderAndISRRequestTopicPartition) s11 else (dfT 9 (.mk 11 0 1 (-1) (-1) 0 10 dLeaderAndISRRequestTopicPartition), s11)) = (.mk 0 [] q.2.1 q.2.2.1 [], q.2.2.2) ∧ St w0 G0 p pb q.2.2.2 ((p, ty, [] ++ [.int .i16 v, .int .i32 n1, .bool n3, .int .i32 n6, .int .i64 n8, .int .i8 n11, q.1, .slice none 0 0, .slice none 0 0, .map none] ++ []) :: []) (fun w => ListR true (elZ true 8 10 dLeaderAndISRRequestTopicPartition) (elQ true 8 10 dLeaderAndISRRequestTopicPartition ⟨w, FG w0 G0⟩) w (FG w0 G0) q.1 (.mk 0 [] (q.2.1) q.2.2.1 []) ∧ (fun _ => True) w) w') ?_ ?_
  · refine cI (by rfl) (fun hcv=>?_) (fun hcv=>?_)
    · have hh : hasF (.mk 11 0 1 (-1) (-1) 0 10 dLeaderAndISRRequestTopicPartition) v = true := by have := of_decide_eq_true hcv; rw [hasF_iff]; omega
      ((conv=>whnf);repeat((first|refine mvT ?_|refine mvF ?_|refine yT ?_|refine yF ?_);conv=>whnf))
      refine ldS (H.cell (o := 0) rfl (k := 6) rfl) ?_;((conv=>whnf);repeat((first|refine mvT ?_|refine mvF ?_|refine yT ?_|refine yF ?_);conv=>whnf))
      (refine mvB ?_;((conv=>whnf);repeat((first|refine mvT ?_|refine mvF ?_|refine yT ?_|refine yF ?_);conv=>whnf)))
      refine VC.cutE (fun q : Int × Rd => [(18, .int .i32 q.1), (17, .slice none 0 0), (0, .pointer (some ⟨p, 0, none⟩)), (2, .bool uns), (7, .pointer (some ⟨pb, 0, none⟩)), (8, .int .i16 v), (9, .bool fx), (10, .pointer (some ⟨p, 0, none⟩))]) (fun q w' => (-2147483648 ≤ q.1 ∧ q.1 ≤ 2147483647) ∧ rdLn fx s11 = q ∧ St w0 G0 p pb q.2 ((p, ty, [] ++ [.int .i16 v, .int .i32 n1, .bool n3, .int .i32 n6, .int .i64 n8, .int .i8 n11, .slice none 0 0, .slice none 0 0, .slice none 0 0, .map none] ++ []) :: []) (fun _ => True) w') ?_ ?_
      · refine cI (by rfl) (fun hc=>?_) (fun hc=>?_)
        · ((conv=>whnf);repeat((first|refine mvT ?_|refine mvF ?_|refine yT ?_|refine yF ?_);conv=>whnf))
          refine Does.mono H.lnc ?_
          rintro r w ⟨n, s', rfl, hn, hr, H⟩
          ((conv=>whnf);repeat((first|refine mvT ?_|refine mvF ?_|refine yT ?_|refine yF ?_);conv=>whnf))
          exact ⟨(n, s'), ⟨rfl, rfl, rfl, rfl, rfl, rfl, rfl, rfl, trivial⟩, hn, by rw [hc]; exact hr, H⟩
        · ((conv=>whnf);repeat((first|refine mvT ?_|refine mvF ?_|refine yT ?_|refine yF ?_);conv=>whnf))
          refine Does.mono H.lnp ?_
          rintro r w ⟨n, s', rfl, hn, hr, H⟩
          ((conv=>whnf);repeat((first|refine mvT ?_|refine mvF ?_|refine yT ?_|refine yF ?_);conv=>whnf))
          exact ⟨(n, s'), ⟨rfl, rfl, rfl, rfl, rfl, rfl, rfl, rfl, trivial⟩, hn, by rw [hc]; exact hr, H⟩
      clear H
      rintro ⟨n15, s15⟩ w ⟨hn15, hln15, H⟩
      dsimp only at hn15 hln15 H
      ((conv=>whnf);repeat((first|refine mvT ?_|refine mvF ?_|refine yT ?_|refine yF ?_);conv=>whnf))
      refine Does.mono H.ok ?_
      rintro r w ⟨rfl, H⟩
      ((conv=>whnf);repeat((first|refine mvT ?_|refine mvF ?_|refine yT ?_|refine yF ?_);conv=>whnf))
      refine cI (by rfl) (fun hbd=>?_) (fun hbd=>?_)
      · have hbd : s15.2 = true := by simpa using hbd
        ((conv=>whnf);repeat((first|refine mvT ?_|refine mvF ?_|refine yT ?_|refine yF ?_);conv=>whnf))
        refine Does.mono (H.done hL hp1) ?_
        rintro r w ⟨rfl, H⟩
        ((conv=>whnf);repeat((first|refine mvT ?_|refine mvF ?_|refine yT ?_|refine yF ?_);conv=>whnf))
        refine RdPost.early hbd (hup0 (?_)) H
        rw [tail_yes (rdField3.trans hr1) ⟨by decide, has_all hv⟩, tail_ver hr3 (by decide), tail_yes (rdField3.trans hr6) ⟨by decide, has_all hv⟩, tail_ver hr8 (by decide), tail_ver hr11 (by decide), tail_len ⟨by decide, hh⟩ hln15 hbd]
      have hbd : s15.2 = false := by simpa using hbd
      clear hbd
      ((conv=>whnf);repeat((first|refine mvT ?_|refine mvF ?_|refine yT ?_|refine yF ?_);conv=>whnf))
      refine cut_zero ?_
      ((conv=>whnf);repeat((first|refine mvT ?_|refine mvF ?_|refine yT ?_|refine yF ?_);conv=>whnf))
      refine VC.cutE (fun a : Value => [(18, .int .i32 n15), (17, a), (0, .pointer (some ⟨p, 0, none⟩)), (2, .bool uns), (7, .pointer (some ⟨pb, 0, none⟩)), (8, .int .i16 v), (9, .bool fx), (10, .pointer (some ⟨p, 0, none⟩))]) (fun a w' => ListI w0 G0 p pb 67 [str [], .int .i32 0, .int .i32 0, .int .i32 0, .int .i32 0, .slice none 0 0, .int .i32 0, .slice none 0 0, .slice none 0 0, .slice none 0 0, .bool false, .int .i8 0, .map none] (elR 8 v fx 10 dLeaderAndISRRequestTopicPartition) (elQ true 8 10 dLeaderAndISRRequestTopicPartition) s15 n15 (decide (n15 ≤ 0)) ((p, ty, [] ++ [.int .i16 v, .int .i32 n1, .bool n3, .int .i32 n6, .int .i64 n8, .int .i8 n11, .slice none 0 0, .slice none 0 0, .slice none 0 0, .map none] ++ []) :: []) (fun _ => True) a 0 w') ?_ ?_
      · refine cI (by rfl) (fun hps=>?_) (fun hps=>?_)
        · have hps : 0 < n15 := by have := of_decide_eq_true hps; omega
          ((conv=>whnf);repeat((first|refine mvT ?_|refine mvF ?_|refine yT ?_|refine yF ?_);conv=>whnf))
          refine H.grow hps hn15.2 (by decide) rfl rfl (by decide) ?_
          intro g cap post w hc1 hc2 H
          ((conv=>whnf);repeat((first|refine mvT ?_|refine mvF ?_|refine yT ?_|refine yF ?_);conv=>whnf))
          exact ⟨_, ⟨rfl, rfl, rfl, rfl, rfl, rfl, rfl, rfl, trivial⟩, ListI.some hps (decide_eq_false (by omega)) hc1 hc2 H⟩
        · have hps : n15 ≤ 0 := by have := of_decide_eq_false hps; omega
          ((conv=>whnf);repeat((first|refine mvT ?_|refine mvF ?_|refine yT ?_|refine yF ?_);conv=>whnf))
          exact ⟨_, ⟨rfl, rfl, rfl, rfl, rfl, rfl, rfl, rfl, trivial⟩, ListI.none hps (decide_eq_true hps) H⟩
      clear H
      rintro a15 w H
      ((conv=>whnf);repeat((first|refine mvT ?_|refine mvF ?_|refine yT ?_|refine yF ?_);conv=>whnf))
      have hpL15 : inL ((p, ty, [] ++ [.int .i16 v, .int .i32 n1, .bool n3, .int .i32 n6, .int .i64 n8, .int .i8 n11, .slice none 0 0, .slice none 0 0, .slice none 0 0, .map none] ++ []) :: []) p := inL.head _ _
      refine VL.loop (fun i : Nat => [(18, .int .i32 n15), (17, a15), (19, .int .i32 i), (0, .pointer (some ⟨p, 0, none⟩)), (2, .bool uns), (7, .pointer (some ⟨pb, 0, none⟩)), (8, .int .i16 v), (9, .bool fx), (10, .pointer (some ⟨p, 0, none⟩))]) (fun i w' => i ≤ 2147483647 ∧ ListI w0 G0 p pb 67 [str [], .int .i32 0, .int .i32 0, .int .i32 0, .int .i32 0, .slice none 0 0, .int .i32 0, .slice none 0 0, .slice none 0 0, .slice none 0 0, .bool false, .int .i8 0, .map none] (elR 8 v fx 10 dLeaderAndISRRequestTopicPartition) (elQ true 8 10 dLeaderAndISRRequestTopicPartition) s15 n15 (decide (n15 ≤ 0)) ((p, ty, [] ++ [.int .i16 v, .int .i32 n1, .bool n3, .int .i32 n6, .int .i64 n8, .int .i8 n11, .slice none 0 0, .slice none 0 0, .slice none 0 0, .map none] ++ []) :: []) (fun _ => True) a15 i w') (fun i => n15.toNat - i) 0 ⟨rfl, rfl, rfl, rfl, rfl, rfl, rfl, rfl, rfl, trivial⟩ ⟨by decide, H⟩ ?_
      clear H
      rintro i15 w ⟨hi15, H⟩
      ((conv=>whnf);repeat((first|refine mvT ?_|refine mvF ?_|refine yT ?_|refine yF ?_);conv=>whnf))
      refine cI (by rfl) (fun h9=>?_) (fun h9=>?_)
      · have hlt15 : (i15 : Int) < n15 := of_decide_eq_true h9
        obtain ⟨g15, cap15, post15, rfl, hgo15, HI⟩ := H.go hlt15
        obtain ⟨es15, ts15, si15, hes15, hez15, hrn15, hts15, hlen1, H⟩ := HI.open hgo15.2.2.2.2
        obtain ⟨L15, hL15⟩ : ∃ L : List Ob, L = ((p, ty, [] ++ [.int .i16 v, .int .i32 n1, .bool n3, .int .i32 n6, .int .i64 n8, .int .i8 n11, .slice none 0 0, .slice none 0 0, .slice none 0 0, .map none] ++ []) :: []) := ⟨_, rfl⟩
        rw [← hL15] at H hpL15
        obtain ⟨P15, hP15⟩ : ∃ P : World → Prop, P = fun w => (∀ (j : Nat) (c : List Value) (y : T), es15[j]? = some c → ts15[j]? = some y → elQ true 8 10 dLeaderAndISRRequestTopicPartition ⟨w, FG w0 G0⟩ c y) ∧ (fun _ => True) w := ⟨_, rfl⟩
        rw [← hP15] at H
        replace H : St w0 G0 p pb si15 ((g15, 67, es15.flatten ++ [str [], .int .i32 0, .int .i32 0, .int .i32 0, .int .i32 0, .slice none 0 0, .int .i32 0, .slice none 0 0, .slice none 0 0, .slice none 0 0, .bool false, .int .i8 0, .map none] ++ ((List.replicate (n15.toNat - (i15 + 1)) [str [], .int .i32 0, .int .i32 0, .int .i32 0, .int .i32 0, .slice none 0 0, .int .i32 0, .slice none 0 0, .slice none 0 0, .slice none 0 0, .bool false, .int .i8 0, .map none]).flatten ++ post15)) :: L15) P15 w := H
        ((conv=>whnf);repeat((first|refine mvT ?_|refine mvF ?_|refine yT ?_|refine yF ?_);conv=>whnf))
        refine ⟨g15, 0, rfl, ⟨by omega, by omega⟩, ?_⟩
        ((conv=>whnf);repeat((first|refine mvT ?_|refine mvF ?_|refine yT ?_|refine yF ?_);conv=>whnf))
        refine Does.mono (dfLeaderAndISRRequestTopicPartition (pre := es15.flatten) (cur := [str [], .int .i32 0, .int .i32 0, .int .i32 0, .int .i32 0, .slice none 0 0, .int .i32 0, .slice none 0 0, .slice none 0 0, .slice none 0 0, .bool false, .int .i8 0, .map none]) (post := ((List.replicate (n15.toNat - (i15 + 1)) [str [], .int .i32 0, .int .i32 0, .int .i32 0, .int .i32 0, .slice none 0 0, .int .i32 0, .slice none 0 0, .slice none 0 0, .slice none 0 0, .bool false, .int .i8 0, .map none]).flatten ++ post15)) H.head (by first | (rw [hlen1]; simp; done) | (simp [hlen1]; done) | (simp [hlen1]; omega)) rfl) ?_
        rintro rd w2 ⟨hdf, hxd⟩
        replace H := H.put hdf hxd
        clear hdf hxd
        replace H : St w0 G0 p pb si15 ((g15, 67, es15.flatten ++ [str [], .int .i32 0, .int .i32 0, .int .i32 0, .int .i32 0, .slice none 0 0, .int .i32 0, .slice none 0 0, .slice none 0 0, .slice none 0 0, .bool false, .int .i8 0, .map none] ++ ((List.replicate (n15.toNat - (i15 + 1)) [str [], .int .i32 0, .int .i32 0, .int .i32 0, .int .i32 0, .slice none 0 0, .int .i32 0, .slice none 0 0, .slice none 0 0, .slice none 0 0, .bool false, .int .i8 0, .map none]).flatten ++ post15)) :: L15) P15 w2 := H
        ((conv=>whnf);repeat((first|refine mvT ?_|refine mvF ?_|refine yT ?_|refine yF ?_);conv=>whnf))
        have hup15 : tailBad 8 v fx dLeaderAndISRRequestTopicPartition dLeaderAndISRRequestTopicPartition si15 = true → (rdPart 9 v fx dLeaderAndISRRequest (l, false)).2.2 = true := by
          intro hb
          refine hup0 ?_
          rw [tail_yes (rdField3.trans hr1) ⟨by decide, has_all hv⟩, tail_ver hr3 (by decide), tail_yes (rdField3.trans hr6) ⟨by decide, has_all hv⟩, tail_ver hr8 (by decide), tail_ver hr11 (by decide), tail_el ⟨by decide, hh⟩ hln15 hgo15.2.2.2.2 hrn15 ((tailBad_part _ _ _ _ _).symm.trans hb)]
        intro cq hcq
        obtain rfl : cq = true := by rw [← hcq]; exact decide_eq_true hv
        ((conv=>whnf);repeat((first|refine mvT ?_|refine mvF ?_|refine yT ?_|refine yF ?_);conv=>whnf))
        refine VC.cutE (fun q : List UInt8 × Rd => [(0, .pointer (some ⟨p, 0, none⟩)), (2, .bool uns), (7, .pointer (some ⟨pb, 0, none⟩)), (8, .int .i16 v), (9, .bool fx), (10, .pointer (some ⟨p, 0, none⟩)), (18, .int .i32 n15), (17, .slice (some ⟨g15, 0, none⟩) n15.toNat cap15), (19, .int .i32 i15), (20, .pointer (some ⟨g15, 0 + (i15 : Int).toNat * 13, none⟩)), (21, .pointer (some ⟨g15, 0 + (i15 : Int).toNat * 13, none⟩))]) (fun q w' => (if hasF (.mk 8 0 1 (-1) (-1) 0 0 []) v = true then rdField 8 v fx (.mk 8 0 1 (-1) (-1) 0 0 []) si15 else (dfT 8 (.mk 8 0 1 (-1) (-1) 0 0 []), si15)) = (.mk 0 q.1 false [] [], q.2) ∧ St w0 G0 p pb q.2 ((g15, 67, es15.flatten ++ [str q.1, .int .i32 0, .int .i32 0, .int .i32 0, .int .i32 0, .slice none 0 0, .int .i32 0, .slice none 0 0, .slice none 0 0, .slice none 0 0, .bool false, .int .i8 0, .map none] ++ ((List.replicate (n15.toNat - (i15 + 1)) [str [], .int .i32 0, .int .i32 0, .int .i32 0, .int .i32 0, .slice none 0 0, .int .i32 0, .slice none 0 0, .slice none 0 0, .slice none 0 0, .bool false, .int .i8 0, .map none]).flatten ++ post15)) :: L15) P15 w') ?_ ?_
        · refine cI (by rfl) (fun hcv=>?_) (fun hcv=>?_)
          · ((conv=>whnf);repeat((first|refine mvT ?_|refine mvF ?_|refine yT ?_|refine yF ?_);conv=>whnf))
            (refine mvB ?_;((conv=>whnf);repeat((first|refine mvT ?_|refine mvF ?_|refine yT ?_|refine yF ?_);conv=>whnf)))
            refine VC.cutE (fun q : List UInt8 × Rd => [(22, str q.1), (0, .pointer (some ⟨p, 0, none⟩)), (2, .bool uns), (7, .pointer (some ⟨pb, 0, none⟩)), (8, .int .i16 v), (9, .bool fx), (10, .pointer (some ⟨p, 0, none⟩)), (18, .int .i32 n15), (17, .slice (some ⟨g15, 0, none⟩) n15.toNat cap15), (19, .int .i32 i15), (20, .pointer (some ⟨g15, 0 + (i15 : Int).toNat * 13, none⟩)), (21, .pointer (some ⟨g15, 0 + (i15 : Int).toNat * 13, none⟩))]) (fun q w' => rdTx fx si15 = q ∧ St w0 G0 p pb q.2 ((g15, 67, es15.flatten ++ [str [], .int .i32 0, .int .i32 0, .int .i32 0, .int .i32 0, .slice none 0 0, .int .i32 0, .slice none 0 0, .slice none 0 0, .slice none 0 0, .bool false, .int .i8 0, .map none] ++ ((List.replicate (n15.toNat - (i15 + 1)) [str [], .int .i32 0, .int .i32 0, .int .i32 0, .int .i32 0, .slice none 0 0, .int .i32 0, .slice none 0 0, .slice none 0 0, .slice none 0 0, .bool false, .int .i8 0, .map none]).flatten ++ post15)) :: L15) P15 w') ?_ ?_
            · refine cI (by rfl) (fun hu=>?_) (fun hu=>?_)
              · ((conv=>whnf);repeat((first|refine mvT ?_|refine mvF ?_|refine yT ?_|refine yF ?_);conv=>whnf))
                (refine mvB ?_;((conv=>whnf);repeat((first|refine mvT ?_|refine mvF ?_|refine yT ?_|refine yF ?_);conv=>whnf)))
                refine cI (by rfl) (fun hc=>?_) (fun hc=>?_)
                · ((conv=>whnf);repeat((first|refine mvT ?_|refine mvF ?_|refine yT ?_|refine yF ?_);conv=>whnf))
                  refine Does.mono H.utxc ?_
                  rintro r w ⟨u, s', rfl, hr, H⟩
                  ((conv=>whnf);repeat((first|refine mvT ?_|refine mvF ?_|refine yT ?_|refine yF ?_);conv=>whnf))
                  exact ⟨(u, s'), ⟨rfl, rfl, rfl, rfl, rfl, rfl, rfl, rfl, rfl, rfl, rfl, rfl, trivial⟩, by rw [hc]; exact hr, H⟩
                · ((conv=>whnf);repeat((first|refine mvT ?_|refine mvF ?_|refine yT ?_|refine yF ?_);conv=>whnf))
                  refine Does.mono H.utxp ?_
                  rintro r w ⟨u, s', rfl, hr, H⟩
                  ((conv=>whnf);repeat((first|refine mvT ?_|refine mvF ?_|refine yT ?_|refine yF ?_);conv=>whnf))
                  exact ⟨(u, s'), ⟨rfl, rfl, rfl, rfl, rfl, rfl, rfl, rfl, rfl, rfl, rfl, rfl, trivial⟩, by rw [hc]; exact hr, H⟩
              · ((conv=>whnf);repeat((first|refine mvT ?_|refine mvF ?_|refine yT ?_|refine yF ?_);conv=>whnf))
                (refine mvB ?_;((conv=>whnf);repeat((first|refine mvT ?_|refine mvF ?_|refine yT ?_|refine yF ?_);conv=>whnf)))
                refine cI (by rfl) (fun hc=>?_) (fun hc=>?_)
                · ((conv=>whnf);repeat((first|refine mvT ?_|refine mvF ?_|refine yT ?_|refine yF ?_);conv=>whnf))
                  refine Does.mono H.txc ?_
                  rintro r w ⟨u, s', rfl, hr, H⟩
                  ((conv=>whnf);repeat((first|refine mvT ?_|refine mvF ?_|refine yT ?_|refine yF ?_);conv=>whnf))
                  exact ⟨(u, s'), ⟨rfl, rfl, rfl, rfl, rfl, rfl, rfl, rfl, rfl, rfl, rfl, rfl, trivial⟩, by rw [hc]; exact hr, H⟩
                · ((conv=>whnf);repeat((first|refine mvT ?_|refine mvF ?_|refine yT ?_|refine yF ?_);conv=>whnf))
                  refine Does.mono H.txp ?_
                  rintro r w ⟨u, s', rfl, hr, H⟩
                  ((conv=>whnf);repeat((first|refine mvT ?_|refine mvF ?_|refine yT ?_|refine yF ?_);conv=>whnf))
                  exact ⟨(u, s'), ⟨rfl, rfl, rfl, rfl, rfl, rfl, rfl, rfl, rfl, rfl, rfl, rfl, trivial⟩, by rw [hc]; exact hr, H⟩
            clear H
            rintro ⟨u17, s17⟩ w ⟨hr17, H⟩
            dsimp only at hr17 H
            ((conv=>whnf);repeat((first|refine mvT ?_|refine mvF ?_|refine yT ?_|refine yF ?_);conv=>whnf))
            refine H.st1 (v := str u17) 0 (rfl) (rfl) rfl (by first | omega | (simp [hlen1]; done) | (simp [hlen1]; omega)) rfl (Nat.lt_of_lt_of_le (Nat.lt_succ_self _) (Nat.le_of_ble_eq_true rfl)) ?_
            intro w H
            ((conv=>whnf);repeat((first|refine mvT ?_|refine mvF ?_|refine yT ?_|refine yF ?_);conv=>whnf))
            replace H : St w0 G0 p pb s17 ((g15, 67, es15.flatten ++ [str u17, .int .i32 0, .int .i32 0, .int .i32 0, .int .i32 0, .slice none 0 0, .int .i32 0, .slice none 0 0, .slice none 0 0, .slice none 0 0, .bool false, .int .i8 0, .map none] ++ ((List.replicate (n15.toNat - (i15 + 1)) [str [], .int .i32 0, .int .i32 0, .int .i32 0, .int .i32 0, .slice none 0 0, .int .i32 0, .slice none 0 0, .slice none 0 0, .slice none 0 0, .bool false, .int .i8 0, .map none]).flatten ++ post15)) :: L15) P15 w := H
            have hh : hasF (.mk 8 0 1 (-1) (-1) 0 0 []) v = true := by have := of_decide_eq_true hcv; rw [hasF_iff]; omega
            exact ⟨(u17, s17), ⟨rfl, rfl, rfl, rfl, rfl, rfl, rfl, rfl, rfl, rfl, rfl, trivial⟩, by rw [if_pos hh]; exact (rdField8 (by decide) hr17), H⟩
          · ((conv=>whnf);repeat((first|refine mvT ?_|refine mvF ?_|refine yT ?_|refine yF ?_);conv=>whnf))
            have hh : ¬ hasF (.mk 8 0 1 (-1) (-1) 0 0 []) v = true := by have := of_decide_eq_false hcv; rw [hasF_iff]; omega
            exact ⟨([], si15), ⟨rfl, rfl, rfl, rfl, rfl, rfl, rfl, rfl, rfl, rfl, rfl, trivial⟩, by rw [if_neg hh]; rfl, H⟩
        clear H
        rintro ⟨u16, s16⟩ w ⟨hr16, H⟩
        dsimp only at hr16 H
        ((conv=>whnf);repeat((first|refine mvT ?_|refine mvF ?_|refine yT ?_|refine yF ?_);conv=>whnf))
        replace H : St w0 G0 p pb s16 ((g15, 67, es15.flatten ++ [str u16, .int .i32 0, .int .i32 0, .int .i32 0, .int .i32 0, .slice none 0 0, .int .i32 0, .slice none 0 0, .slice none 0 0, .slice none 0 0, .bool false, .int .i8 0, .map none] ++ ((List.replicate (n15.toNat - (i15 + 1)) [str [], .int .i32 0, .int .i32 0, .int .i32 0, .int .i32 0, .slice none 0 0, .int .i32 0, .slice none 0 0, .slice none 0 0, .slice none 0 0, .bool false, .int .i8 0, .map none]).flatten ++ post15)) :: L15) P15 w := H
        refine Does.mono H.int32 ?_
        rintro r w ⟨n19, s19, rfl, hn19, hr19, H⟩
        ((conv=>whnf);repeat((first|refine mvT ?_|refine mvF ?_|refine yT ?_|refine yF ?_);conv=>whnf))
        refine H.st1 (v := .int .i32 n19) 1 (rfl) (rfl) rfl (by first | omega | (simp [hlen1]; done) | (simp [hlen1]; omega)) rfl (Nat.lt_of_lt_of_le (Nat.lt_succ_self _) (Nat.le_of_ble_eq_true rfl)) ?_
        intro w H
        ((conv=>whnf);repeat((first|refine mvT ?_|refine mvF ?_|refine yT ?_|refine yF ?_);conv=>whnf))
        replace H : St w0 G0 p pb s19 ((g15, 67, es15.flatten ++ [str u16, .int .i32 n19, .int .i32 0, .int .i32 0, .int .i32 0, .slice none 0 0, .int .i32 0, .slice none 0 0, .slice none 0 0, .slice none 0 0, .bool false, .int .i8 0, .map none] ++ ((List.replicate (n15.toNat - (i15 + 1)) [str [], .int .i32 0, .int .i32 0, .int .i32 0, .int .i32 0, .slice none 0 0, .int .i32 0, .slice none 0 0, .slice none 0 0, .slice none 0 0, .bool false, .int .i8 0, .map none]).flatten ++ post15)) :: L15) P15 w := H
        refine Does.mono H.int32 ?_
        rintro r w ⟨n21, s21, rfl, hn21, hr21, H⟩
        ((conv=>whnf);repeat((first|refine mvT ?_|refine mvF ?_|refine yT ?_|refine yF ?_);conv=>whnf))
        refine H.st1 (v := .int .i32 n21) 2 (rfl) (rfl) rfl (by first | omega | (simp [hlen1]; done) | (simp [hlen1]; omega)) rfl (Nat.lt_of_lt_of_le (Nat.lt_succ_self _) (Nat.le_of_ble_eq_true rfl)) ?_
        intro w H
        ((conv=>whnf);repeat((first|refine mvT ?_|refine mvF ?_|refine yT ?_|refine yF ?_);conv=>whnf))
        replace H : St w0 G0 p pb s21 ((g15, 67, es15.flatten ++ [str u16, .int .i32 n19, .int .i32 n21, .int .i32 0, .int .i32 0, .slice none 0 0, .int .i32 0, .slice none 0 0, .slice none 0 0, .slice none 0 0, .bool false, .int .i8 0, .map none] ++ ((List.replicate (n15.toNat - (i15 + 1)) [str [], .int .i32 0, .int .i32 0, .int .i32 0, .int .i32 0, .slice none 0 0, .int .i32 0, .slice none 0 0, .slice none 0 0, .slice none 0 0, .bool false, .int .i8 0, .map none]).flatten ++ post15)) :: L15) P15 w := H
        refine Does.mono H.int32 ?_
        rintro r w ⟨n23, s23, rfl, hn23, hr23, H⟩
        ((conv=>whnf);repeat((first|refine mvT ?_|refine mvF ?_|refine yT ?_|refine yF ?_);conv=>whnf))
        refine H.st1 (v := .int .i32 n23) 3 (rfl) (rfl) rfl (by first | omega | (simp [hlen1]; done) | (simp [hlen1]; omega)) rfl (Nat.lt_of_lt_of_le (Nat.lt_succ_self _) (Nat.le_of_ble_eq_true rfl)) ?_
        intro w H
        ((conv=>whnf);repeat((first|refine mvT ?_|refine mvF ?_|refine yT ?_|refine yF ?_);conv=>whnf))
        replace H : St w0 G0 p pb s23 ((g15, 67, es15.flatten ++ [str u16, .int .i32 n19, .int .i32 n21, .int .i32 n23, .int .i32 0, .slice none 0 0, .int .i32 0, .slice none 0 0, .slice none 0 0, .slice none 0 0, .bool false, .int .i8 0, .map none] ++ ((List.replicate (n15.toNat - (i15 + 1)) [str [], .int .i32 0, .int .i32 0, .int .i32 0, .int .i32 0, .slice none 0 0, .int .i32 0, .slice none 0 0, .slice none 0 0, .slice none 0 0, .bool false, .int .i8 0, .map none]).flatten ++ post15)) :: L15) P15 w := H
        refine Does.mono H.int32 ?_
        rintro r w ⟨n25, s25, rfl, hn25, hr25, H⟩
        ((conv=>whnf);repeat((first|refine mvT ?_|refine mvF ?_|refine yT ?_|refine yF ?_);conv=>whnf))
        refine H.st1 (v := .int .i32 n25) 4 (rfl) (rfl) rfl (by first | omega | (simp [hlen1]; done) | (simp [hlen1]; omega)) rfl (Nat.lt_of_lt_of_le (Nat.lt_succ_self _) (Nat.le_of_ble_eq_true rfl)) ?_
        intro w H
        ((conv=>whnf);repeat((first|refine mvT ?_|refine mvF ?_|refine yT ?_|refine yF ?_);conv=>whnf))
        replace H : St w0 G0 p pb s25 ((g15, 67, es15.flatten ++ [str u16, .int .i32 n19, .int .i32 n21, .int .i32 n23, .int .i32 n25, .slice none 0 0, .int .i32 0, .slice none 0 0, .slice none 0 0, .slice none 0 0, .bool false, .int .i8 0, .map none] ++ ((List.replicate (n15.toNat - (i15 + 1)) [str [], .int .i32 0, .int .i32 0, .int .i32 0, .int .i32 0, .slice none 0 0, .int .i32 0, .slice none 0 0, .slice none 0 0, .slice none 0 0, .bool false, .int .i8 0, .map none]).flatten ++ post15)) :: L15) P15 w := H
        refine ⟨_, ld (H.cell rfl (k := 5) rfl) (by first | omega | (simp [hlen1]; done) | (simp [hlen1]; omega)), ?_⟩; ((conv=>whnf);repeat((first|refine mvT ?_|refine mvF ?_|refine yT ?_|refine yF ?_);conv=>whnf))
        (refine mvB ?_;((conv=>whnf);repeat((first|refine mvT ?_|refine mvF ?_|refine yT ?_|refine yF ?_);conv=>whnf)))
        refine VC.cutE (fun q : Int × Rd => [(29, .int .i32 q.1), (28, .slice none 0 0), (0, .pointer (some ⟨p, 0, none⟩)), (2, .bool uns), (7, .pointer (some ⟨pb, 0, none⟩)), (8, .int .i16 v), (9, .bool fx), (10, .pointer (some ⟨p, 0, none⟩)), (18, .int .i32 n15), (17, .slice (some ⟨g15, 0, none⟩) n15.toNat cap15), (19, .int .i32 i15), (20, .pointer (some ⟨g15, 0 + (i15 : Int).toNat * 13, none⟩)), (21, .pointer (some ⟨g15, 0 + (i15 : Int).toNat * 13, none⟩))]) (fun q w' => (-2147483648 ≤ q.1 ∧ q.1 ≤ 2147483647) ∧ rdLn fx s25 = q ∧ St w0 G0 p pb q.2 ((g15, 67, es15.flatten ++ [str u16, .int .i32 n19, .int .i32 n21, .int .i32 n23, .int .i32 n25, .slice none 0 0, .int .i32 0, .slice none 0 0, .slice none 0 0, .slice none 0 0, .bool false, .int .i8 0, .map none] ++ ((List.replicate (n15.toNat - (i15 + 1)) [str [], .int .i32 0, .int .i32 0, .int .i32 0, .int .i32 0, .slice none 0 0, .int .i32 0, .slice none 0 0, .slice none 0 0, .slice none 0 0, .bool false, .int .i8 0, .map none]).flatten ++ post15)) :: L15) P15 w') ?_ ?_
        · refine cI (by rfl) (fun hc=>?_) (fun hc=>?_)
          · ((conv=>whnf);repeat((first|refine mvT ?_|refine mvF ?_|refine yT ?_|refine yF ?_);conv=>whnf))
            refine Does.mono H.lnc ?_
            rintro r w ⟨n, s', rfl, hn, hr, H⟩
            ((conv=>whnf);repeat((first|refine mvT ?_|refine mvF ?_|refine yT ?_|refine yF ?_);conv=>whnf))
            exact ⟨(n, s'), ⟨rfl, rfl, rfl, rfl, rfl, rfl, rfl, rfl, rfl, rfl, rfl, rfl, rfl, trivial⟩, hn, by rw [hc]; exact hr, H⟩
          · ((conv=>whnf);repeat((first|refine mvT ?_|refine mvF ?_|refine yT ?_|refine yF ?_);conv=>whnf))
            refine Does.mono H.lnp ?_
            rintro r w ⟨n, s', rfl, hn, hr, H⟩
            ((conv=>whnf);repeat((first|refine mvT ?_|refine mvF ?_|refine yT ?_|refine yF ?_);conv=>whnf))
            exact ⟨(n, s'), ⟨rfl, rfl, rfl, rfl, rfl, rfl, rfl, rfl, rfl, rfl, rfl, rfl, rfl, trivial⟩, hn, by rw [hc]; exact hr, H⟩
        clear H
        rintro ⟨n27, s27⟩ w ⟨hn27, hln27, H⟩
        dsimp only at hn27 hln27 H
        ((conv=>whnf);repeat((first|refine mvT ?_|refine mvF ?_|refine yT ?_|refine yF ?_);conv=>whnf))
        refine Does.mono H.ok ?_
        rintro r w ⟨rfl, H⟩
        ((conv=>whnf);repeat((first|refine mvT ?_|refine mvF ?_|refine yT ?_|refine yF ?_);conv=>whnf))
        refine cI (by rfl) (fun hbd=>?_) (fun hbd=>?_)
        · have hbd : s27.2 = true := by simpa using hbd
          ((conv=>whnf);repeat((first|refine mvT ?_|refine mvF ?_|refine yT ?_|refine yF ?_);conv=>whnf))
          refine Does.mono (H.done hL hp1) ?_
          rintro r w ⟨rfl, H⟩
          ((conv=>whnf);repeat((first|refine mvT ?_|refine mvF ?_|refine yT ?_|refine yF ?_);conv=>whnf))
          refine RdPost.early hbd (hup15 (?_)) H
          rw [tail_ver hr16 (by decide), tail_yes (rdField3.trans hr19) ⟨by decide, has_all hv⟩, tail_yes (rdField3.trans hr21) ⟨by decide, has_all hv⟩, tail_yes (rdField3.trans hr23) ⟨by decide, has_all hv⟩, tail_yes (rdField3.trans hr25) ⟨by decide, has_all hv⟩, tail_len ⟨by decide, has_all hv⟩ hln27 hbd]
        have hbd : s27.2 = false := by simpa using hbd
        clear hbd
        ((conv=>whnf);repeat((first|refine mvT ?_|refine mvF ?_|refine yT ?_|refine yF ?_);conv=>whnf))
        refine cut_zero ?_
        ((conv=>whnf);repeat((first|refine mvT ?_|refine mvF ?_|refine yT ?_|refine yF ?_);conv=>whnf))
        refine VC.cutE (fun a : Value => [(29, .int .i32 n27), (28, a), (0, .pointer (some ⟨p, 0, none⟩)), (2, .bool uns), (7, .pointer (some ⟨pb, 0, none⟩)), (8, .int .i16 v), (9, .bool fx), (10, .pointer (some ⟨p, 0, none⟩)), (18, .int .i32 n15), (17, .slice (some ⟨g15, 0, none⟩) n15.toNat cap15), (19, .int .i32 i15), (20, .pointer (some ⟨g15, 0 + (i15 : Int).toNat * 13, none⟩)), (21, .pointer (some ⟨g15, 0 + (i15 : Int).toNat * 13, none⟩))]) (fun a w' => ListI w0 G0 p pb 21 [.int .i32 0] (elR 7 v fx 3 []) (elQ true 7 3 []) s27 n27 (decide (n27 ≤ 0)) ((g15, 67, es15.flatten ++ [str u16, .int .i32 n19, .int .i32 n21, .int .i32 n23, .int .i32 n25, .slice none 0 0, .int .i32 0, .slice none 0 0, .slice none 0 0, .slice none 0 0, .bool false, .int .i8 0, .map none] ++ ((List.replicate (n15.toNat - (i15 + 1)) [str [], .int .i32 0, .int .i32 0, .int .i32 0, .int .i32 0, .slice none 0 0, .int .i32 0, .slice none 0 0, .slice none 0 0, .slice none 0 0, .bool false, .int .i8 0, .map none]).flatten ++ post15)) :: L15) P15 a 0 w') ?_ ?_
        · refine cI (by rfl) (fun hps=>?_) (fun hps=>?_)
          · have hps : 0 < n27 := by have := of_decide_eq_true hps; omega
            ((conv=>whnf);repeat((first|refine mvT ?_|refine mvF ?_|refine yT ?_|refine yF ?_);conv=>whnf))
            refine H.grow hps hn27.2 (by decide) rfl rfl (by decide) ?_
            intro g cap post w hc1 hc2 H
            ((conv=>whnf);repeat((first|refine mvT ?_|refine mvF ?_|refine yT ?_|refine yF ?_);conv=>whnf))
            exact ⟨_, ⟨rfl, rfl, rfl, rfl, rfl, rfl, rfl, rfl, rfl, rfl, rfl, rfl, rfl, trivial⟩, ListI.some hps (decide_eq_false (by omega)) hc1 hc2 H⟩
          · have hps : n27 ≤ 0 := by have := of_decide_eq_false hps; omega
            ((conv=>whnf);repeat((first|refine mvT ?_|refine mvF ?_|refine yT ?_|refine yF ?_);conv=>whnf))
            exact ⟨_, ⟨rfl, rfl, rfl, rfl, rfl, rfl, rfl, rfl, rfl, rfl, rfl, rfl, rfl, trivial⟩, ListI.none hps (decide_eq_true hps) H⟩
        clear H
        rintro a27 w H
        ((conv=>whnf);repeat((first|refine mvT ?_|refine mvF ?_|refine yT ?_|refine yF ?_);conv=>whnf))
        have hpL27 : inL ((g15, 67, es15.flatten ++ [str u16, .int .i32 n19, .int .i32 n21, .int .i32 n23, .int .i32 n25, .slice none 0 0, .int .i32 0, .slice none 0 0, .slice none 0 0, .slice none 0 0, .bool false, .int .i8 0, .map none] ++ ((List.replicate (n15.toNat - (i15 + 1)) [str [], .int .i32 0, .int .i32 0, .int .i32 0, .int .i32 0, .slice none 0 0, .int .i32 0, .slice none 0 0, .slice none 0 0, .slice none 0 0, .bool false, .int .i8 0, .map none]).flatten ++ post15)) :: L15) p := inL.tail hpL15
        refine VL.loop (fun i : Nat => [(29, .int .i32 n27), (28, a27), (30, .int .i32 i), (0, .pointer (some ⟨p, 0, none⟩)), (2, .bool uns), (7, .pointer (some ⟨pb, 0, none⟩)), (8, .int .i16 v), (9, .bool fx), (10, .pointer (some ⟨p, 0, none⟩)), (18, .int .i32 n15), (17, .slice (some ⟨g15, 0, none⟩) n15.toNat cap15), (19, .int .i32 i15), (20, .pointer (some ⟨g15, 0 + (i15 : Int).toNat * 13, none⟩)), (21, .pointer (some ⟨g15, 0 + (i15 : Int).toNat * 13, none⟩))]) (fun i w' => i ≤ 2147483647 ∧ ListI w0 G0 p pb 21 [.int .i32 0] (elR 7 v fx 3 []) (elQ true 7 3 []) s27 n27 (decide (n27 ≤ 0)) ((g15, 67, es15.flatten ++ [str u16, .int .i32 n19, .int .i32 n21, .int .i32 n23, .int .i32 n25, .slice none 0 0, .int .i32 0, .slice none 0 0, .slice none 0 0, .slice none 0 0, .bool false, .int .i8 0, .map none] ++ ((List.replicate (n15.toNat - (i15 + 1)) [str [], .int .i32 0, .int .i32 0, .int .i32 0, .int .i32 0, .slice none 0 0, .int .i32 0, .slice none 0 0, .slice none 0 0, .slice none 0 0, .bool false, .int .i8 0, .map none]).flatten ++ post15)) :: L15) P15 a27 i w') (fun i => n27.toNat - i) 0 ⟨rfl, rfl, rfl, rfl, rfl, rfl, rfl, rfl, rfl, rfl, rfl, rfl, rfl, rfl, trivial⟩ ⟨by decide, H⟩ ?_
        clear H
        rintro i27 w ⟨hi27, H⟩
        ((conv=>whnf);repeat((first|refine mvT ?_|refine mvF ?_|refine yT ?_|refine yF ?_);conv=>whnf))
        refine cI (by rfl) (fun h9=>?_) (fun h9=>?_)
        · have hlt27 : (i27 : Int) < n27 := of_decide_eq_true h9
          obtain ⟨g27, cap27, post27, rfl, hgo27, HI⟩ := H.go hlt27
          obtain ⟨es27, ts27, si27, hes27, hez27, hrn27, hts27, hlen2, H⟩ := HI.open hgo27.2.2.2.2
          obtain ⟨L27, hL27⟩ : ∃ L : List Ob, L = ((g15, 67, es15.flatten ++ [str u16, .int .i32 n19, .int .i32 n21, .int .i32 n23, .int .i32 n25, .slice none 0 0, .int .i32 0, .slice none 0 0, .slice none 0 0, .slice none 0 0, .bool false, .int .i8 0, .map none] ++ ((List.replicate (n15.toNat - (i15 + 1)) [str [], .int .i32 0, .int .i32 0, .int .i32 0, .int .i32 0, .slice none 0 0, .int .i32 0, .slice none 0 0, .slice none 0 0, .slice none 0 0, .bool false, .int .i8 0, .map none]).flatten ++ post15)) :: L15) := ⟨_, rfl⟩
          rw [← hL27] at H hpL27
          obtain ⟨P27, hP27⟩ : ∃ P : World → Prop, P = fun w => (∀ (j : Nat) (c : List Value) (y : T), es27[j]? = some c → ts27[j]? = some y → elQ true 7 3 [] ⟨w, FG w0 G0⟩ c y) ∧ P15 w := ⟨_, rfl⟩
          rw [← hP27] at H
          replace H : St w0 G0 p pb si27 ((g27, 21, es27.flatten ++ [.int .i32 0] ++ ((List.replicate (n27.toNat - (i27 + 1)) [.int .i32 0]).flatten ++ post27)) :: L27) P27 w := H
          ((conv=>whnf);repeat((first|refine mvT ?_|refine mvF ?_|refine yT ?_|refine yF ?_);conv=>whnf))
          refine Does.mono H.int32 ?_
          rintro r w ⟨n28, s28, rfl, hn28, hr28, H⟩
          ((conv=>whnf);repeat((first|refine mvT ?_|refine mvF ?_|refine yT ?_|refine yF ?_);conv=>whnf))
          refine ⟨g27, 0, rfl, ⟨by omega, by omega⟩, ?_⟩
          ((conv=>whnf);repeat((first|refine mvT ?_|refine mvF ?_|refine yT ?_|refine yF ?_);conv=>whnf))
          refine H.st1 (v := .int .i32 n28) 0 (rfl) (rfl) rfl (by first | omega | (simp [hlen2]; done) | (simp [hlen2]; omega)) rfl (Nat.lt_of_lt_of_le (Nat.lt_succ_self _) (Nat.le_of_ble_eq_true rfl)) ?_
          intro w H
          ((conv=>whnf);repeat((first|refine mvT ?_|refine mvF ?_|refine yT ?_|refine yF ?_);conv=>whnf))
          replace H : St w0 G0 p pb s28 ((g27, 21, es27.flatten ++ [.int .i32 n28] ++ ((List.replicate (n27.toNat - (i27 + 1)) [.int .i32 0]).flatten ++ post27)) :: L27) P27 w := H
          refine ⟨i27 + 1, ⟨rfl, rfl, ?_, rfl, rfl, rfl, rfl, rfl, rfl, rfl, rfl, rfl, rfl, rfl, trivial⟩, ⟨by omega, ListI.back hgo27 (LoopI.next hes27 hez27 hrn27 hts27 (cur := [.int .i32 n28]) (x := numT n28) (hr28) rfl (by rw [← hL27]; exact H) fun w hP => ?_)⟩, by omega⟩
          · show some (Value.int .i32 _) = _
            rw [IntKind.wrap_i32]
            simp only [Option.some.injEq, Value.int.injEq, true_and]
            omega
          · skip
            rw [hP27] at hP
            exact ⟨⟨_, hn28, rfl, rfl⟩, hP⟩
        have hge27 : ¬ (i27 : Int) < n27 := of_decide_eq_false h9
        obtain ⟨l29, s29, hone29, hl29, hr29, H⟩ := H.done hge27 hln27 (nl := nlF (.mk 11 0 (-1) (-1) (-1) 0 3 []) v) (sz := elZ true 7 3 []) rfl hpL27 rfl
        ((conv=>whnf);repeat((first|refine mvT ?_|refine mvF ?_|refine yT ?_|refine yF ?_);conv=>whnf))
        obtain ⟨P30, hP30⟩ : ∃ P : World → Prop, P = fun w => ListR true (elZ true 7 3 []) (elQ true 7 3 [] ⟨w, FG w0 G0⟩) w (FG w0 G0) a27 (.mk 0 [] (decide (n27 ≤ 0)) l29 []) ∧ P15 w := ⟨_, rfl⟩
        replace H : St w0 G0 p pb s29 ((g15, 67, es15.flatten ++ [str u16, .int .i32 n19, .int .i32 n21, .int .i32 n23, .int .i32 n25, .slice none 0 0, .int .i32 0, .slice none 0 0, .slice none 0 0, .slice none 0 0, .bool false, .int .i8 0, .map none] ++ ((List.replicate (n15.toNat - (i15 + 1)) [str [], .int .i32 0, .int .i32 0, .int .i32 0, .int .i32 0, .slice none 0 0, .int .i32 0, .slice none 0 0, .slice none 0 0, .slice none 0 0, .bool false, .int .i8 0, .map none]).flatten ++ post15)) :: L15) P30 w := by rw [hP30]; exact H
        refine H.st1 (v := a27) 5 (cells_one hone29) (hone29) rfl (by first | omega | (simp [hlen1]; done) | (simp [hlen1]; omega)) rfl (Nat.lt_of_lt_of_le (Nat.lt_succ_self _) (Nat.le_of_ble_eq_true rfl)) ?_
        intro w H
        ((conv=>whnf);repeat((first|refine mvT ?_|refine mvF ?_|refine yT ?_|refine yF ?_);conv=>whnf))
        replace H : St w0 G0 p pb s29 ((g15, 67, es15.flatten ++ [str u16, .int .i32 n19, .int .i32 n21, .int .i32 n23, .int .i32 n25, a27, .int .i32 0, .slice none 0 0, .slice none 0 0, .slice none 0 0, .bool false, .int .i8 0, .map none] ++ ((List.replicate (n15.toNat - (i15 + 1)) [str [], .int .i32 0, .int .i32 0, .int .i32 0, .int .i32 0, .slice none 0 0, .int .i32 0, .slice none 0 0, .slice none 0 0, .slice none 0 0, .bool false, .int .i8 0, .map none]).flatten ++ post15)) :: L15) P30 w := H
        refine Does.mono H.int32 ?_
        rintro r w ⟨n32, s32, rfl, hn32, hr32, H⟩
        ((conv=>whnf);repeat((first|refine mvT ?_|refine mvF ?_|refine yT ?_|refine yF ?_);conv=>whnf))
        refine H.st1 (v := .int .i32 n32) 6 (rfl) (rfl) rfl (by first | omega | (simp [hlen1]; done) | (simp [hlen1]; omega)) rfl (Nat.lt_of_lt_of_le (Nat.lt_succ_self _) (Nat.le_of_ble_eq_true rfl)) ?_
        intro w H
        ((conv=>whnf);repeat((first|refine mvT ?_|refine mvF ?_|refine yT ?_|refine yF ?_);conv=>whnf))
        replace H : St w0 G0 p pb s32 ((g15, 67, es15.flatten ++ [str u16, .int .i32 n19, .int .i32 n21, .int .i32 n23, .int .i32 n25, a27, .int .i32 n32, .slice none 0 0, .slice none 0 0, .slice none 0 0, .bool false, .int .i8 0, .map none] ++ ((List.replicate (n15.toNat - (i15 + 1)) [str [], .int .i32 0, .int .i32 0, .int .i32 0, .int .i32 0, .slice none 0 0, .int .i32 0, .slice none 0 0, .slice none 0 0, .slice none 0 0, .bool false, .int .i8 0, .map none]).flatten ++ post15)) :: L15) P30 w := H
        refine ⟨_, ld (H.cell rfl (k := 7) rfl) (by first | omega | (simp [hlen1]; done) | (simp [hlen1]; omega)), ?_⟩; ((conv=>whnf);repeat((first|refine mvT ?_|refine mvF ?_|refine yT ?_|refine yF ?_);conv=>whnf))
        (refine mvB ?_;((conv=>whnf);repeat((first|refine mvT ?_|refine mvF ?_|refine yT ?_|refine yF ?_);conv=>whnf)))
        refine VC.cutE (fun q : Int × Rd => [(35, .int .i32 q.1), (34, .slice none 0 0), (0, .pointer (some ⟨p, 0, none⟩)), (2, .bool uns), (7, .pointer (some ⟨pb, 0, none⟩)), (8, .int .i16 v), (9, .bool fx), (10, .pointer (some ⟨p, 0, none⟩)), (18, .int .i32 n15), (17, .slice (some ⟨g15, 0, none⟩) n15.toNat cap15), (19, .int .i32 i15), (20, .pointer (some ⟨g15, 0 + (i15 : Int).toNat * 13, none⟩)), (21, .pointer (some ⟨g15, 0 + (i15 : Int).toNat * 13, none⟩))]) (fun q w' => (-2147483648 ≤ q.1 ∧ q.1 ≤ 2147483647) ∧ rdLn fx s32 = q ∧ St w0 G0 p pb q.2 ((g15, 67, es15.flatten ++ [str u16, .int .i32 n19, .int .i32 n21, .int .i32 n23, .int .i32 n25, a27, .int .i32 n32, .slice none 0 0, .slice none 0 0, .slice none 0 0, .bool false, .int .i8 0, .map none] ++ ((List.replicate (n15.toNat - (i15 + 1)) [str [], .int .i32 0, .int .i32 0, .int .i32 0, .int .i32 0, .slice none 0 0, .int .i32 0, .slice none 0 0, .slice none 0 0, .slice none 0 0, .bool false, .int .i8 0, .map none]).flatten ++ post15)) :: L15) P30 w') ?_ ?_
        · refine cI (by rfl) (fun hc=>?_) (fun hc=>?_)
          · ((conv=>whnf);repeat((first|refine mvT ?_|refine mvF ?_|refine yT ?_|refine yF ?_);conv=>whnf))
            refine Does.mono H.lnc ?_
            rintro r w ⟨n, s', rfl, hn, hr, H⟩
            ((conv=>whnf);repeat((first|refine mvT ?_|refine mvF ?_|refine yT ?_|refine yF ?_);conv=>whnf))
            exact ⟨(n, s'), ⟨rfl, rfl, rfl, rfl, rfl, rfl, rfl, rfl, rfl, rfl, rfl, rfl, rfl, trivial⟩, hn, by rw [hc]; exact hr, H⟩
          · ((conv=>whnf);repeat((first|refine mvT ?_|refine mvF ?_|refine yT ?_|refine yF ?_);conv=>whnf))
            refine Does.mono H.lnp ?_
            rintro r w ⟨n, s', rfl, hn, hr, H⟩
            ((conv=>whnf);repeat((first|refine mvT ?_|refine mvF ?_|refine yT ?_|refine yF ?_);conv=>whnf))
            exact ⟨(n, s'), ⟨rfl, rfl, rfl, rfl, rfl, rfl, rfl, rfl, rfl, rfl, rfl, rfl, rfl, trivial⟩, hn, by rw [hc]; exact hr, H⟩
        clear H
        rintro ⟨n34, s34⟩ w ⟨hn34, hln34, H⟩
        dsimp only at hn34 hln34 H
        ((conv=>whnf);repeat((first|refine mvT ?_|refine mvF ?_|refine yT ?_|refine yF ?_);conv=>whnf))
        refine Does.mono H.ok ?_
        rintro r w ⟨rfl, H⟩
        ((conv=>whnf);repeat((first|refine mvT ?_|refine mvF ?_|refine yT ?_|refine yF ?_);conv=>whnf))
        refine cI (by rfl) (fun hbd=>?_) (fun hbd=>?_)
        · have hbd : s34.2 = true := by simpa using hbd
          ((conv=>whnf);repeat((first|refine mvT ?_|refine mvF ?_|refine yT ?_|refine yF ?_);conv=>whnf))
          refine Does.mono (H.done hL hp1) ?_
          rintro r w ⟨rfl, H⟩
          ((conv=>whnf);repeat((first|refine mvT ?_|refine mvF ?_|refine yT ?_|refine yF ?_);conv=>whnf))
          refine RdPost.early hbd (hup15 (?_)) H
          rw [tail_ver hr16 (by decide), tail_yes (rdField3.trans hr19) ⟨by decide, has_all hv⟩, tail_yes (rdField3.trans hr21) ⟨by decide, has_all hv⟩, tail_yes (rdField3.trans hr23) ⟨by decide, has_all hv⟩, tail_yes (rdField3.trans hr25) ⟨by decide, has_all hv⟩, tail_yes ((rdField_list _ _ _ _ _ _ _ _ _ _ _).trans hr29) ⟨by decide, has_all hv⟩, tail_yes (rdField3.trans hr32) ⟨by decide, has_all hv⟩, tail_len ⟨by decide, has_all hv⟩ hln34 hbd]
        have hbd : s34.2 = false := by simpa using hbd
        clear hbd
        ((conv=>whnf);repeat((first|refine mvT ?_|refine mvF ?_|refine yT ?_|refine yF ?_);conv=>whnf))
        refine cut_zero ?_
        ((conv=>whnf);repeat((first|refine mvT ?_|refine mvF ?_|refine yT ?_|refine yF ?_);conv=>whnf))
        refine VC.cutE (fun a : Value => [(35, .int .i32 n34), (34, a), (0, .pointer (some ⟨p, 0, none⟩)), (2, .bool uns), (7, .pointer (some ⟨pb, 0, none⟩)), (8, .int .i16 v), (9, .bool fx), (10, .pointer (some ⟨p, 0, none⟩)), (18, .int .i32 n15), (17, .slice (some ⟨g15, 0, none⟩) n15.toNat cap15), (19, .int .i32 i15), (20, .pointer (some ⟨g15, 0 + (i15 : Int).toNat * 13, none⟩)), (21, .pointer (some ⟨g15, 0 + (i15 : Int).toNat * 13, none⟩))]) (fun a w' => ListI w0 G0 p pb 21 [.int .i32 0] (elR 7 v fx 3 []) (elQ true 7 3 []) s34 n34 (decide (n34 ≤ 0)) ((g15, 67, es15.flatten ++ [str u16, .int .i32 n19, .int .i32 n21, .int .i32 n23, .int .i32 n25, a27, .int .i32 n32, .slice none 0 0, .slice none 0 0, .slice none 0 0, .bool false, .int .i8 0, .map none] ++ ((List.replicate (n15.toNat - (i15 + 1)) [str [], .int .i32 0, .int .i32 0, .int .i32 0, .int .i32 0, .slice none 0 0, .int .i32 0, .slice none 0 0, .slice none 0 0, .slice none 0 0, .bool false, .int .i8 0, .map none]).flatten ++ post15)) :: L15) P30 a 0 w') ?_ ?_
        · refine cI (by rfl) (fun hps=>?_) (fun hps=>?_)
          · have hps : 0 < n34 := by have := of_decide_eq_true hps; omega
            ((conv=>whnf);repeat((first|refine mvT ?_|refine mvF ?_|refine yT ?_|refine yF ?_);conv=>whnf))
            refine H.grow hps hn34.2 (by decide) rfl rfl (by decide) ?_
            intro g cap post w hc1 hc2 H
            ((conv=>whnf);repeat((first|refine mvT ?_|refine mvF ?_|refine yT ?_|refine yF ?_);conv=>whnf))
            exact ⟨_, ⟨rfl, rfl, rfl, rfl, rfl, rfl, rfl, rfl, rfl, rfl, rfl, rfl, rfl, trivial⟩, ListI.some hps (decide_eq_false (by omega)) hc1 hc2 H⟩
          · have hps : n34 ≤ 0 := by have := of_decide_eq_false hps; omega
            ((conv=>whnf);repeat((first|refine mvT ?_|refine mvF ?_|refine yT ?_|refine yF ?_);conv=>whnf))
            exact ⟨_, ⟨rfl, rfl, rfl, rfl, rfl, rfl, rfl, rfl, rfl, rfl, rfl, rfl, rfl, trivial⟩, ListI.none hps (decide_eq_true hps) H⟩
        clear H
        rintro a34 w H
        ((conv=>whnf);repeat((first|refine mvT ?_|refine mvF ?_|refine yT ?_|refine yF ?_);conv=>whnf))
        have hpL34 : inL ((g15, 67, es15.flatten ++ [str u16, .int .i32 n19, .int .i32 n21, .int .i32 n23, .int .i32 n25, a27, .int .i32 n32, .slice none 0 0, .slice none 0 0, .slice none 0 0, .bool false, .int .i8 0, .map none] ++ ((List.replicate (n15.toNat - (i15 + 1)) [str [], .int .i32 0, .int .i32 0, .int .i32 0, .int .i32 0, .slice none 0 0, .int .i32 0, .slice none 0 0, .slice none 0 0, .slice none 0 0, .bool false, .int .i8 0, .map none]).flatten ++ post15)) :: L15) p := inL.tail hpL15
        refine VL.loop (fun i : Nat => [(35, .int .i32 n34), (34, a34), (36, .int .i32 i), (0, .pointer (some ⟨p, 0, none⟩)), (2, .bool uns), (7, .pointer (some ⟨pb, 0, none⟩)), (8, .int .i16 v), (9, .bool fx), (10, .pointer (some ⟨p, 0, none⟩)), (18, .int .i32 n15), (17, .slice (some ⟨g15, 0, none⟩) n15.toNat cap15), (19, .int .i32 i15), (20, .pointer (some ⟨g15, 0 + (i15 : Int).toNat * 13, none⟩)), (21, .pointer (some ⟨g15, 0 + (i15 : Int).toNat * 13, none⟩))]) (fun i w' => i ≤ 2147483647 ∧ ListI w0 G0 p pb 21 [.int .i32 0] (elR 7 v fx 3 []) (elQ true 7 3 []) s34 n34 (decide (n34 ≤ 0)) ((g15, 67, es15.flatten ++ [str u16, .int .i32 n19, .int .i32 n21, .int .i32 n23, .int .i32 n25, a27, .int .i32 n32, .slice none 0 0, .slice none 0 0, .slice none 0 0, .bool false, .int .i8 0, .map none] ++ ((List.replicate (n15.toNat - (i15 + 1)) [str [], .int .i32 0, .int .i32 0, .int .i32 0, .int .i32 0, .slice none 0 0, .int .i32 0, .slice none 0 0, .slice none 0 0, .slice none 0 0, .bool false, .int .i8 0, .map none]).flatten ++ post15)) :: L15) P30 a34 i w') (fun i => n34.toNat - i) 0 ⟨rfl, rfl, rfl, rfl, rfl, rfl, rfl, rfl, rfl, rfl, rfl, rfl, rfl, rfl, trivial⟩ ⟨by decide, H⟩ ?_
        clear H
        rintro i34 w ⟨hi34, H⟩
        ((conv=>whnf);repeat((first|refine mvT ?_|refine mvF ?_|refine yT ?_|refine yF ?_);conv=>whnf))
        refine cI (by rfl) (fun h9=>?_) (fun h9=>?_)
        · have hlt34 : (i34 : Int) < n34 := of_decide_eq_true h9
          obtain ⟨g34, cap34, post34, rfl, hgo34, HI⟩ := H.go hlt34
          obtain ⟨es34, ts34, si34, hes34, hez34, hrn34, hts34, hlen2, H⟩ := HI.open hgo34.2.2.2.2
          obtain ⟨L34, hL34⟩ : ∃ L : List Ob, L = ((g15, 67, es15.flatten ++ [str u16, .int .i32 n19, .int .i32 n21, .int .i32 n23, .int .i32 n25, a27, .int .i32 n32, .slice none 0 0, .slice none 0 0, .slice none 0 0, .bool false, .int .i8 0, .map none] ++ ((List.replicate (n15.toNat - (i15 + 1)) [str [], .int .i32 0, .int .i32 0, .int .i32 0, .int .i32 0, .slice none 0 0, .int .i32 0, .slice none 0 0, .slice none 0 0, .slice none 0 0, .bool false, .int .i8 0, .map none]).flatten ++ post15)) :: L15) := ⟨_, rfl⟩
          rw [← hL34] at H hpL34
          obtain ⟨P34, hP34⟩ : ∃ P : World → Prop, P = fun w => (∀ (j : Nat) (c : List Value) (y : T), es34[j]? = some c → ts34[j]? = some y → elQ true 7 3 [] ⟨w, FG w0 G0⟩ c y) ∧ P30 w := ⟨_, rfl⟩
          rw [← hP34] at H
          replace H : St w0 G0 p pb si34 ((g34, 21, es34.flatten ++ [.int .i32 0] ++ ((List.replicate (n34.toNat - (i34 + 1)) [.int .i32 0]).flatten ++ post34)) :: L34) P34 w := H
          ((conv=>whnf);repeat((first|refine mvT ?_|refine mvF ?_|refine yT ?_|refine yF ?_);conv=>whnf))
          refine Does.mono H.int32 ?_
          rintro r w ⟨n35, s35, rfl, hn35, hr35, H⟩
          ((conv=>whnf);repeat((first|refine mvT ?_|refine mvF ?_|refine yT ?_|refine yF ?_);conv=>whnf))
          refine ⟨g34, 0, rfl, ⟨by omega, by omega⟩, ?_⟩
          ((conv=>whnf);repeat((first|refine mvT ?_|refine mvF ?_|refine yT ?_|refine yF ?_);conv=>whnf))
          refine H.st1 (v := .int .i32 n35) 0 (rfl) (rfl) rfl (by first | omega | (simp [hlen2]; done) | (simp [hlen2]; omega)) rfl (Nat.lt_of_lt_of_le (Nat.lt_succ_self _) (Nat.le_of_ble_eq_true rfl)) ?_
          intro w H
          ((conv=>whnf);repeat((first|refine mvT ?_|refine mvF ?_|refine yT ?_|refine yF ?_);conv=>whnf))
          replace H : St w0 G0 p pb s35 ((g34, 21, es34.flatten ++ [.int .i32 n35] ++ ((List.replicate (n34.toNat - (i34 + 1)) [.int .i32 0]).flatten ++ post34)) :: L34) P34 w := H
          refine ⟨i34 + 1, ⟨rfl, rfl, ?_, rfl, rfl, rfl, rfl, rfl, rfl, rfl, rfl, rfl, rfl, rfl, trivial⟩, ⟨by omega, ListI.back hgo34 (LoopI.next hes34 hez34 hrn34 hts34 (cur := [.int .i32 n35]) (x := numT n35) (hr35) rfl (by rw [← hL34]; exact H) fun w hP => ?_)⟩, by omega⟩
          · show some (Value.int .i32 _) = _
            rw [IntKind.wrap_i32]
            simp only [Option.some.injEq, Value.int.injEq, true_and]
            omega
          · skip
            rw [hP34] at hP
            exact ⟨⟨_, hn35, rfl, rfl⟩, hP⟩
        have hge34 : ¬ (i34 : Int) < n34 := of_decide_eq_false h9
        obtain ⟨l36, s36, hone36, hl36, hr36, H⟩ := H.done hge34 hln34 (nl := nlF (.mk 11 0 (-1) (-1) (-1) 0 3 []) v) (sz := elZ true 7 3 []) rfl hpL34 rfl
        ((conv=>whnf);repeat((first|refine mvT ?_|refine mvF ?_|refine yT ?_|refine yF ?_);conv=>whnf))
        obtain ⟨P37, hP37⟩ : ∃ P : World → Prop, P = fun w => ListR true (elZ true 7 3 []) (elQ true 7 3 [] ⟨w, FG w0 G0⟩) w (FG w0 G0) a34 (.mk 0 [] (decide (n34 ≤ 0)) l36 []) ∧ P30 w := ⟨_, rfl⟩
        replace H : St w0 G0 p pb s36 ((g15, 67, es15.flatten ++ [str u16, .int .i32 n19, .int .i32 n21, .int .i32 n23, .int .i32 n25, a27, .int .i32 n32, .slice none 0 0, .slice none 0 0, .slice none 0 0, .bool false, .int .i8 0, .map none] ++ ((List.replicate (n15.toNat - (i15 + 1)) [str [], .int .i32 0, .int .i32 0, .int .i32 0, .int .i32 0, .slice none 0 0, .int .i32 0, .slice none 0 0, .slice none 0 0, .slice none 0 0, .bool false, .int .i8 0, .map none]).flatten ++ post15)) :: L15) P37 w := by rw [hP37]; exact H
        refine H.st1 (v := a34) 7 (cells_one hone36) (hone36) rfl (by first | omega | (simp [hlen1]; done) | (simp [hlen1]; omega)) rfl (Nat.lt_of_lt_of_le (Nat.lt_succ_self _) (Nat.le_of_ble_eq_true rfl)) ?_
        intro w H
        ((conv=>whnf);repeat((first|refine mvT ?_|refine mvF ?_|refine yT ?_|refine yF ?_);conv=>whnf))
        replace H : St w0 G0 p pb s36 ((g15, 67, es15.flatten ++ [str u16, .int .i32 n19, .int .i32 n21, .int .i32 n23, .int .i32 n25, a27, .int .i32 n32, a34, .slice none 0 0, .slice none 0 0, .bool false, .int .i8 0, .map none] ++ ((List.replicate (n15.toNat - (i15 + 1)) [str [], .int .i32 0, .int .i32 0, .int .i32 0, .int .i32 0, .slice none 0 0, .int .i32 0, .slice none 0 0, .slice none 0 0, .slice none 0 0, .bool false, .int .i8 0, .map none]).flatten ++ post15)) :: L15) P37 w := H
        refine VC.cutE (fun q : Value × Bool × List T × Rd => [(0, .pointer (some ⟨p, 0, none⟩)), (2, .bool uns), (7, .pointer (some ⟨pb, 0, none⟩)), (8, .int .i16 v), (9, .bool fx), (10, .pointer (some ⟨p, 0, none⟩)), (18, .int .i32 n15), (17, .slice (some ⟨g15, 0, none⟩) n15.toNat cap15), (19, .int .i32 i15), (20, .pointer (some ⟨g15, 0 + (i15 : Int).toNat * 13, none⟩)), (21, .pointer (some ⟨g15, 0 + (i15 : Int).toNat * 13, none⟩))]) (fun q w' => (q.2.1 = true → q.2.2.1 = []) ∧ (if hasF (.mk 11 3 (-1) (-1) (-1) 0 3 []) v = true then rdField 8 v fx (.mk 11 3 (-1) (-1) (-1) 0 3 []) s36 else (dfT 8 (.mk 11 3 (-1) (-1) (-1) 0 3 []), s36)) = (.mk 0 [] q.2.1 q.2.2.1 [], q.2.2.2) ∧ St w0 G0 p pb q.2.2.2 ((g15, 67, es15.flatten ++ [str u16, .int .i32 n19, .int .i32 n21, .int .i32 n23, .int .i32 n25, a27, .int .i32 n32, a34, q.1, .slice none 0 0, .bool false, .int .i8 0, .map none] ++ ((List.replicate (n15.toNat - (i15 + 1)) [str [], .int .i32 0, .int .i32 0, .int .i32 0, .int .i32 0, .slice none 0 0, .int .i32 0, .slice none 0 0, .slice none 0 0, .slice none 0 0, .bool false, .int .i8 0, .map none]).flatten ++ post15)) :: L15) (fun w => ListR true (elZ true 7 3 []) (elQ true 7 3 [] ⟨w, FG w0 G0⟩) w (FG w0 G0) q.1 (.mk 0 [] (q.2.1) q.2.2.1 []) ∧ P37 w) w') ?_ ?_
        · refine cI (by rfl) (fun hcv=>?_) (fun hcv=>?_)
          · have hh : hasF (.mk 11 3 (-1) (-1) (-1) 0 3 []) v = true := by have := of_decide_eq_true hcv; rw [hasF_iff]; omega
            ((conv=>whnf);repeat((first|refine mvT ?_|refine mvF ?_|refine yT ?_|refine yF ?_);conv=>whnf))
            refine ⟨_, ld (H.cell rfl (k := 8) rfl) (by first | omega | (simp [hlen1]; done) | (simp [hlen1]; omega)), ?_⟩; ((conv=>whnf);repeat((first|refine mvT ?_|refine mvF ?_|refine yT ?_|refine yF ?_);conv=>whnf))
            (refine mvB ?_;((conv=>whnf);repeat((first|refine mvT ?_|refine mvF ?_|refine yT ?_|refine yF ?_);conv=>whnf)))
            refine VC.cutE (fun q : Int × Rd => [(40, .int .i32 q.1), (39, .slice none 0 0), (0, .pointer (some ⟨p, 0, none⟩)), (2, .bool uns), (7, .pointer (some ⟨pb, 0, none⟩)), (8, .int .i16 v), (9, .bool fx), (10, .pointer (some ⟨p, 0, none⟩)), (18, .int .i32 n15), (17, .slice (some ⟨g15, 0, none⟩) n15.toNat cap15), (19, .int .i32 i15), (20, .pointer (some ⟨g15, 0 + (i15 : Int).toNat * 13, none⟩)), (21, .pointer (some ⟨g15, 0 + (i15 : Int).toNat * 13, none⟩))]) (fun q w' => (-2147483648 ≤ q.1 ∧ q.1 ≤ 2147483647) ∧ rdLn fx s36 = q ∧ St w0 G0 p pb q.2 ((g15, 67, es15.flatten ++ [str u16, .int .i32 n19, .int .i32 n21, .int .i32 n23, .int .i32 n25, a27, .int .i32 n32, a34, .slice none 0 0, .slice none 0 0, .bool false, .int .i8 0, .map none] ++ ((List.replicate (n15.toNat - (i15 + 1)) [str [], .int .i32 0, .int .i32 0, .int .i32 0, .int .i32 0, .slice none 0 0, .int .i32 0, .slice none 0 0, .slice none 0 0, .slice none 0 0, .bool false, .int .i8 0, .map none]).flatten ++ post15)) :: L15) P37 w') ?_ ?_
            · refine cI (by rfl) (fun hc=>?_) (fun hc=>?_)
              · ((conv=>whnf);repeat((first|refine mvT ?_|refine mvF ?_|refine yT ?_|refine yF ?_);conv=>whnf))
                refine Does.mono H.lnc ?_
                rintro r w ⟨n, s', rfl, hn, hr, H⟩
                ((conv=>whnf);repeat((first|refine mvT ?_|refine mvF ?_|refine yT ?_|refine yF ?_);conv=>whnf))
                exact ⟨(n, s'), ⟨rfl, rfl, rfl, rfl, rfl, rfl, rfl, rfl, rfl, rfl, rfl, rfl, rfl, trivial⟩, hn, by rw [hc]; exact hr, H⟩
              · ((conv=>whnf);repeat((first|refine mvT ?_|refine mvF ?_|refine yT ?_|refine yF ?_);conv=>whnf))
                refine Does.mono H.lnp ?_
                rintro r w ⟨n, s', rfl, hn, hr, H⟩
                ((conv=>whnf);repeat((first|refine mvT ?_|refine mvF ?_|refine yT ?_|refine yF ?_);conv=>whnf))
                exact ⟨(n, s'), ⟨rfl, rfl, rfl, rfl, rfl, rfl, rfl, rfl, rfl, rfl, rfl, rfl, rfl, trivial⟩, hn, by rw [hc]; exact hr, H⟩
            clear H
            rintro ⟨n40, s40⟩ w ⟨hn40, hln40, H⟩
            dsimp only at hn40 hln40 H
            ((conv=>whnf);repeat((first|refine mvT ?_|refine mvF ?_|refine yT ?_|refine yF ?_);conv=>whnf))
            refine Does.mono H.ok ?_
            rintro r w ⟨rfl, H⟩
            ((conv=>whnf);repeat((first|refine mvT ?_|refine mvF ?_|refine yT ?_|refine yF ?_);conv=>whnf))
            refine cI (by rfl) (fun hbd=>?_) (fun hbd=>?_)
            · have hbd : s40.2 = true := by simpa using hbd
              ((conv=>whnf);repeat((first|refine mvT ?_|refine mvF ?_|refine yT ?_|refine yF ?_);conv=>whnf))
              refine Does.mono (H.done hL hp1) ?_
              rintro r w ⟨rfl, H⟩
              ((conv=>whnf);repeat((first|refine mvT ?_|refine mvF ?_|refine yT ?_|refine yF ?_);conv=>whnf))
              refine RdPost.early hbd (hup15 (?_)) H
              rw [tail_ver hr16 (by decide), tail_yes (rdField3.trans hr19) ⟨by decide, has_all hv⟩, tail_yes (rdField3.trans hr21) ⟨by decide, has_all hv⟩, tail_yes (rdField3.trans hr23) ⟨by decide, has_all hv⟩, tail_yes (rdField3.trans hr25) ⟨by decide, has_all hv⟩, tail_yes ((rdField_list _ _ _ _ _ _ _ _ _ _ _).trans hr29) ⟨by decide, has_all hv⟩, tail_yes (rdField3.trans hr32) ⟨by decide, has_all hv⟩, tail_yes ((rdField_list _ _ _ _ _ _ _ _ _ _ _).trans hr36) ⟨by decide, has_all hv⟩, tail_len ⟨by decide, hh⟩ hln40 hbd]
            have hbd : s40.2 = false := by simpa using hbd
            clear hbd
            ((conv=>whnf);repeat((first|refine mvT ?_|refine mvF ?_|refine yT ?_|refine yF ?_);conv=>whnf))
            refine cut_zero ?_
            ((conv=>whnf);repeat((first|refine mvT ?_|refine mvF ?_|refine yT ?_|refine yF ?_);conv=>whnf))
            refine VC.cutE (fun a : Value => [(40, .int .i32 n40), (39, a), (0, .pointer (some ⟨p, 0, none⟩)), (2, .bool uns), (7, .pointer (some ⟨pb, 0, none⟩)), (8, .int .i16 v), (9, .bool fx), (10, .pointer (some ⟨p, 0, none⟩)), (18, .int .i32 n15), (17, .slice (some ⟨g15, 0, none⟩) n15.toNat cap15), (19, .int .i32 i15), (20, .pointer (some ⟨g15, 0 + (i15 : Int).toNat * 13, none⟩)), (21, .pointer (some ⟨g15, 0 + (i15 : Int).toNat * 13, none⟩))]) (fun a w' => ListI w0 G0 p pb 21 [.int .i32 0] (elR 7 v fx 3 []) (elQ true 7 3 []) s40 n40 (decide (n40 ≤ 0)) ((g15, 67, es15.flatten ++ [str u16, .int .i32 n19, .int .i32 n21, .int .i32 n23, .int .i32 n25, a27, .int .i32 n32, a34, .slice none 0 0, .slice none 0 0, .bool false, .int .i8 0, .map none] ++ ((List.replicate (n15.toNat - (i15 + 1)) [str [], .int .i32 0, .int .i32 0, .int .i32 0, .int .i32 0, .slice none 0 0, .int .i32 0, .slice none 0 0, .slice none 0 0, .slice none 0 0, .bool false, .int .i8 0, .map none]).flatten ++ post15)) :: L15) P37 a 0 w') ?_ ?_
            · refine cI (by rfl) (fun hps=>?_) (fun hps=>?_)
              · have hps : 0 < n40 := by have := of_decide_eq_true hps; omega
                ((conv=>whnf);repeat((first|refine mvT ?_|refine mvF ?_|refine yT ?_|refine yF ?_);conv=>whnf))
                refine H.grow hps hn40.2 (by decide) rfl rfl (by decide) ?_
                intro g cap post w hc1 hc2 H
                ((conv=>whnf);repeat((first|refine mvT ?_|refine mvF ?_|refine yT ?_|refine yF ?_);conv=>whnf))
                exact ⟨_, ⟨rfl, rfl, rfl, rfl, rfl, rfl, rfl, rfl, rfl, rfl, rfl, rfl, rfl, trivial⟩, ListI.some hps (decide_eq_false (by omega)) hc1 hc2 H⟩
              · have hps : n40 ≤ 0 := by have := of_decide_eq_false hps; omega
                ((conv=>whnf);repeat((first|refine mvT ?_|refine mvF ?_|refine yT ?_|refine yF ?_);conv=>whnf))
                exact ⟨_, ⟨rfl, rfl, rfl, rfl, rfl, rfl, rfl, rfl, rfl, rfl, rfl, rfl, rfl, trivial⟩, ListI.none hps (decide_eq_true hps) H⟩
            clear H
            rintro a40 w H
            ((conv=>whnf);repeat((first|refine mvT ?_|refine mvF ?_|refine yT ?_|refine yF ?_);conv=>whnf))
            have hpL40 : inL ((g15, 67, es15.flatten ++ [str u16, .int .i32 n19, .int .i32 n21, .int .i32 n23, .int .i32 n25, a27, .int .i32 n32, a34, .slice none 0 0, .slice none 0 0, .bool false, .int .i8 0, .map none] ++ ((List.replicate (n15.toNat - (i15 + 1)) [str [], .int .i32 0, .int .i32 0, .int .i32 0, .int .i32 0, .slice none 0 0, .int .i32 0, .slice none 0 0, .slice none 0 0, .slice none 0 0, .bool false, .int .i8 0, .map none]).flatten ++ post15)) :: L15) p := inL.tail hpL15
            refine VL.loop (fun i : Nat => [(40, .int .i32 n40), (39, a40), (41, .int .i32 i), (0, .pointer (some ⟨p, 0, none⟩)), (2, .bool uns), (7, .pointer (some ⟨pb, 0, none⟩)), (8, .int .i16 v), (9, .bool fx), (10, .pointer (some ⟨p, 0, none⟩)), (18, .int .i32 n15), (17, .slice (some ⟨g15, 0, none⟩) n15.toNat cap15), (19, .int .i32 i15), (20, .pointer (some ⟨g15, 0 + (i15 : Int).toNat * 13, none⟩)), (21, .pointer (some ⟨g15, 0 + (i15 : Int).toNat * 13, none⟩))]) (fun i w' => i ≤ 2147483647 ∧ ListI w0 G0 p pb 21 [.int .i32 0] (elR 7 v fx 3 []) (elQ true 7 3 []) s40 n40 (decide (n40 ≤ 0)) ((g15, 67, es15.flatten ++ [str u16, .int .i32 n19, .int .i32 n21, .int .i32 n23, .int .i32 n25, a27, .int .i32 n32, a34, .slice none 0 0, .slice none 0 0, .bool false, .int .i8 0, .map none] ++ ((List.replicate (n15.toNat - (i15 + 1)) [str [], .int .i32 0, .int .i32 0, .int .i32 0, .int .i32 0, .slice none 0 0, .int .i32 0, .slice none 0 0, .slice none 0 0, .slice none 0 0, .bool false, .int .i8 0, .map none]).flatten ++ post15)) :: L15) P37 a40 i w') (fun i => n40.toNat - i) 0 ⟨rfl, rfl, rfl, rfl, rfl, rfl, rfl, rfl, rfl, rfl, rfl, rfl, rfl, rfl, trivial⟩ ⟨by decide, H⟩ ?_
            clear H
            rintro i40 w ⟨hi40, H⟩
            ((conv=>whnf);repeat((first|refine mvT ?_|refine mvF ?_|refine yT ?_|refine yF ?_);conv=>whnf))
            refine cI (by rfl) (fun h9=>?_) (fun h9=>?_)
            · have hlt40 : (i40 : Int) < n40 := of_decide_eq_true h9
              obtain ⟨g40, cap40, post40, rfl, hgo40, HI⟩ := H.go hlt40
              obtain ⟨es40, ts40, si40, hes40, hez40, hrn40, hts40, hlen2, H⟩ := HI.open hgo40.2.2.2.2
              obtain ⟨L40, hL40⟩ : ∃ L : List Ob, L = ((g15, 67, es15.flatten ++ [str u16, .int .i32 n19, .int .i32 n21, .int .i32 n23, .int .i32 n25, a27, .int .i32 n32, a34, .slice none 0 0, .slice none 0 0, .bool false, .int .i8 0, .map none] ++ ((List.replicate (n15.toNat - (i15 + 1)) [str [], .int .i32 0, .int .i32 0, .int .i32 0, .int .i32 0, .slice none 0 0, .int .i32 0, .slice none 0 0, .slice none 0 0, .slice none 0 0, .bool false, .int .i8 0, .map none]).flatten ++ post15)) :: L15) := ⟨_, rfl⟩
              rw [← hL40] at H hpL40
              obtain ⟨P40, hP40⟩ : ∃ P : World → Prop, P = fun w => (∀ (j : Nat) (c : List Value) (y : T), es40[j]? = some c → ts40[j]? = some y → elQ true 7 3 [] ⟨w, FG w0 G0⟩ c y) ∧ P37 w := ⟨_, rfl⟩
              rw [← hP40] at H
              replace H : St w0 G0 p pb si40 ((g40, 21, es40.flatten ++ [.int .i32 0] ++ ((List.replicate (n40.toNat - (i40 + 1)) [.int .i32 0]).flatten ++ post40)) :: L40) P40 w := H
              ((conv=>whnf);repeat((first|refine mvT ?_|refine mvF ?_|refine yT ?_|refine yF ?_);conv=>whnf))
              refine Does.mono H.int32 ?_
              rintro r w ⟨n41, s41, rfl, hn41, hr41, H⟩
              ((conv=>whnf);repeat((first|refine mvT ?_|refine mvF ?_|refine yT ?_|refine yF ?_);conv=>whnf))
              refine ⟨g40, 0, rfl, ⟨by omega, by omega⟩, ?_⟩
              ((conv=>whnf);repeat((first|refine mvT ?_|refine mvF ?_|refine yT ?_|refine yF ?_);conv=>whnf))
              refine H.st1 (v := .int .i32 n41) 0 (rfl) (rfl) rfl (by first | omega | (simp [hlen2]; done) | (simp [hlen2]; omega)) rfl (Nat.lt_of_lt_of_le (Nat.lt_succ_self _) (Nat.le_of_ble_eq_true rfl)) ?_
              intro w H
              ((conv=>whnf);repeat((first|refine mvT ?_|refine mvF ?_|refine yT ?_|refine yF ?_);conv=>whnf))
              replace H : St w0 G0 p pb s41 ((g40, 21, es40.flatten ++ [.int .i32 n41] ++ ((List.replicate (n40.toNat - (i40 + 1)) [.int .i32 0]).flatten ++ post40)) :: L40) P40 w := H
              refine ⟨i40 + 1, ⟨rfl, rfl, ?_, rfl, rfl, rfl, rfl, rfl, rfl, rfl, rfl, rfl, rfl, rfl, trivial⟩, ⟨by omega, ListI.back hgo40 (LoopI.next hes40 hez40 hrn40 hts40 (cur := [.int .i32 n41]) (x := numT n41) (hr41) rfl (by rw [← hL40]; exact H) fun w hP => ?_)⟩, by omega⟩
              · show some (Value.int .i32 _) = _
                rw [IntKind.wrap_i32]
                simp only [Option.some.injEq, Value.int.injEq, true_and]
                omega
              · skip
                rw [hP40] at hP
                exact ⟨⟨_, hn41, rfl, rfl⟩, hP⟩
            have hge40 : ¬ (i40 : Int) < n40 := of_decide_eq_false h9
            obtain ⟨l42, s42, hone42, hl42, hr42, H⟩ := H.done hge40 hln40 (nl := nlF (.mk 11 3 (-1) (-1) (-1) 0 3 []) v) (sz := elZ true 7 3 []) rfl hpL40 rfl
            ((conv=>whnf);repeat((first|refine mvT ?_|refine mvF ?_|refine yT ?_|refine yF ?_);conv=>whnf))
            obtain ⟨P43, hP43⟩ : ∃ P : World → Prop, P = fun w => ListR true (elZ true 7 3 []) (elQ true 7 3 [] ⟨w, FG w0 G0⟩) w (FG w0 G0) a40 (.mk 0 [] (decide (n40 ≤ 0)) l42 []) ∧ P37 w := ⟨_, rfl⟩
            replace H : St w0 G0 p pb s42 ((g15, 67, es15.flatten ++ [str u16, .int .i32 n19, .int .i32 n21, .int .i32 n23, .int .i32 n25, a27, .int .i32 n32, a34, .slice none 0 0, .slice none 0 0, .bool false, .int .i8 0, .map none] ++ ((List.replicate (n15.toNat - (i15 + 1)) [str [], .int .i32 0, .int .i32 0, .int .i32 0, .int .i32 0, .slice none 0 0, .int .i32 0, .slice none 0 0, .slice none 0 0, .slice none 0 0, .bool false, .int .i8 0, .map none]).flatten ++ post15)) :: L15) P43 w := by rw [hP43]; exact H
            refine H.st1 (v := a40) 8 (cells_one hone42) (hone42) rfl (by first | omega | (simp [hlen1]; done) | (simp [hlen1]; omega)) rfl (Nat.lt_of_lt_of_le (Nat.lt_succ_self _) (Nat.le_of_ble_eq_true rfl)) ?_
            intro w H
            ((conv=>whnf);repeat((first|refine mvT ?_|refine mvF ?_|refine yT ?_|refine yF ?_);conv=>whnf))
            replace H : St w0 G0 p pb s42 ((g15, 67, es15.flatten ++ [str u16, .int .i32 n19, .int .i32 n21, .int .i32 n23, .int .i32 n25, a27, .int .i32 n32, a34, a40, .slice none 0 0, .bool false, .int .i8 0, .map none] ++ ((List.replicate (n15.toNat - (i15 + 1)) [str [], .int .i32 0, .int .i32 0, .int .i32 0, .int .i32 0, .slice none 0 0, .int .i32 0, .slice none 0 0, .slice none 0 0, .slice none 0 0, .bool false, .int .i8 0, .map none]).flatten ++ post15)) :: L15) P43 w := H
            exact ⟨(a40, decide (n40 ≤ 0), l42, s42), ⟨rfl, rfl, rfl, rfl, rfl, rfl, rfl, rfl, rfl, rfl, rfl, trivial⟩, hl42, by rw [if_pos hh]; exact ((rdField_list _ _ _ _ _ _ _ _ _ _ _).trans hr42), by rw [hP43] at H; exact H⟩
          · ((conv=>whnf);repeat((first|refine mvT ?_|refine mvF ?_|refine yT ?_|refine yF ?_);conv=>whnf))
            have hh : ¬ hasF (.mk 11 3 (-1) (-1) (-1) 0 3 []) v = true := by have := of_decide_eq_false hcv; rw [hasF_iff]; omega
            exact ⟨(.slice none 0 0, true, [], s36), ⟨rfl, rfl, rfl, rfl, rfl, rfl, rfl, rfl, rfl, rfl, rfl, trivial⟩, fun _ => rfl, by rw [if_neg hh]; rfl, H.add fun w' _ => .inl ⟨rfl, rfl⟩⟩
        clear H
        rintro ⟨c39, nl39, l39, s39⟩ w ⟨hnl39, hr39, H⟩
        dsimp only at hnl39 hr39 H
        ((conv=>whnf);repeat((first|refine mvT ?_|refine mvF ?_|refine yT ?_|refine yF ?_);conv=>whnf))
        obtain ⟨P45, hP45⟩ : ∃ P : World → Prop, P = fun w => ListR true (elZ true 7 3 []) (elQ true 7 3 [] ⟨w, FG w0 G0⟩) w (FG w0 G0) c39 (.mk 0 [] (nl39) l39 []) ∧ P37 w := ⟨_, rfl⟩
        replace H : St w0 G0 p pb s39 ((g15, 67, es15.flatten ++ [str u16, .int .i32 n19, .int .i32 n21, .int .i32 n23, .int .i32 n25, a27, .int .i32 n32, a34, c39, .slice none 0 0, .bool false, .int .i8 0, .map none] ++ ((List.replicate (n15.toNat - (i15 + 1)) [str [], .int .i32 0, .int .i32 0, .int .i32 0, .int .i32 0, .slice none 0 0, .int .i32 0, .slice none 0 0, .slice none 0 0, .slice none 0 0, .bool false, .int .i8 0, .map none]).flatten ++ post15)) :: L15) P45 w := by rw [hP45]; exact H
        refine VC.cutE (fun q : Value × Bool × List T × Rd => [(0, .pointer (some ⟨p, 0, none⟩)), (2, .bool uns), (7, .pointer (some ⟨pb, 0, none⟩)), (8, .int .i16 v), (9, .bool fx), (10, .pointer (some ⟨p, 0, none⟩)), (18, .int .i32 n15), (17, .slice (some ⟨g15, 0, none⟩) n15.toNat cap15), (19, .int .i32 i15), (20, .pointer (some ⟨g15, 0 + (i15 : Int).toNat * 13, none⟩)), (21, .pointer (some ⟨g15, 0 + (i15 : Int).toNat * 13, none⟩))]) (fun q w' => (q.2.1 = true → q.2.2.1 = []) ∧ (if hasF (.mk 11 3 (-1) (-1) (-1) 0 3 []) v = true then rdField 8 v fx (.mk 11 3 (-1) (-1) (-1) 0 3 []) s39 else (dfT 8 (.mk 11 3 (-1) (-1) (-1) 0 3 []), s39)) = (.mk 0 [] q.2.1 q.2.2.1 [], q.2.2.2) ∧ St w0 G0 p pb q.2.2.2 ((g15, 67, es15.flatten ++ [str u16, .int .i32 n19, .int .i32 n21, .int .i32 n23, .int .i32 n25, a27, .int .i32 n32, a34, c39, q.1, .bool false, .int .i8 0, .map none] ++ ((List.replicate (n15.toNat - (i15 + 1)) [str [], .int .i32 0, .int .i32 0, .int .i32 0, .int .i32 0, .slice none 0 0, .int .i32 0, .slice none 0 0, .slice none 0 0, .slice none 0 0, .bool false, .int .i8 0, .map none]).flatten ++ post15)) :: L15) (fun w => ListR true (elZ true 7 3 []) (elQ true 7 3 [] ⟨w, FG w0 G0⟩) w (FG w0 G0) q.1 (.mk 0 [] (q.2.1) q.2.2.1 []) ∧ P45 w) w') ?_ ?_
        · refine cI (by rfl) (fun hcv=>?_) (fun hcv=>?_)
          · have hh : hasF (.mk 11 3 (-1) (-1) (-1) 0 3 []) v = true := by have := of_decide_eq_true hcv; rw [hasF_iff]; omega
            ((conv=>whnf);repeat((first|refine mvT ?_|refine mvF ?_|refine yT ?_|refine yF ?_);conv=>whnf))
            refine ⟨_, ld (H.cell rfl (k := 9) rfl) (by first | omega | (simp [hlen1]; done) | (simp [hlen1]; omega)), ?_⟩; ((conv=>whnf);repeat((first|refine mvT ?_|refine mvF ?_|refine yT ?_|refine yF ?_);conv=>whnf))
            (refine mvB ?_;((conv=>whnf);repeat((first|refine mvT ?_|refine mvF ?_|refine yT ?_|refine yF ?_);conv=>whnf)))
            refine VC.cutE (fun q : Int × Rd => [(45, .int .i32 q.1), (44, .slice none 0 0), (0, .pointer (some ⟨p, 0, none⟩)), (2, .bool uns), (7, .pointer (some ⟨pb, 0, none⟩)), (8, .int .i16 v), (9, .bool fx), (10, .pointer (some ⟨p, 0, none⟩)), (18, .int .i32 n15), (17, .slice (some ⟨g15, 0, none⟩) n15.toNat cap15), (19, .int .i32 i15), (20, .pointer (some ⟨g15, 0 + (i15 : Int).toNat * 13, none⟩)), (21, .pointer (some ⟨g15, 0 + (i15 : Int).toNat * 13, none⟩))]) (fun q w' => (-2147483648 ≤ q.1 ∧ q.1 ≤ 2147483647) ∧ rdLn fx s39 = q ∧ St w0 G0 p pb q.2 ((g15, 67, es15.flatten ++ [str u16, .int .i32 n19, .int .i32 n21, .int .i32 n23, .int .i32 n25, a27, .int .i32 n32, a34, c39, .slice none 0 0, .bool false, .int .i8 0, .map none] ++ ((List.replicate (n15.toNat - (i15 + 1)) [str [], .int .i32 0, .int .i32 0, .int .i32 0, .int .i32 0, .slice none 0 0, .int .i32 0, .slice none 0 0, .slice none 0 0, .slice none 0 0, .bool false, .int .i8 0, .map none]).flatten ++ post15)) :: L15) P45 w') ?_ ?_
            · refine cI (by rfl) (fun hc=>?_) (fun hc=>?_)
              · ((conv=>whnf);repeat((first|refine mvT ?_|refine mvF ?_|refine yT ?_|refine yF ?_);conv=>whnf))
                refine Does.mono H.lnc ?_
                rintro r w ⟨n, s', rfl, hn, hr, H⟩
                ((conv=>whnf);repeat((first|refine mvT ?_|refine mvF ?_|refine yT ?_|refine yF ?_);conv=>whnf))
                exact ⟨(n, s'), ⟨rfl, rfl, rfl, rfl, rfl, rfl, rfl, rfl, rfl, rfl, rfl, rfl, rfl, trivial⟩, hn, by rw [hc]; exact hr, H⟩
              · ((conv=>whnf);repeat((first|refine mvT ?_|refine mvF ?_|refine yT ?_|refine yF ?_);conv=>whnf))
                refine Does.mono H.lnp ?_
                rintro r w ⟨n, s', rfl, hn, hr, H⟩
                ((conv=>whnf);repeat((first|refine mvT ?_|refine mvF ?_|refine yT ?_|refine yF ?_);conv=>whnf))
                exact ⟨(n, s'), ⟨rfl, rfl, rfl, rfl, rfl, rfl, rfl, rfl, rfl, rfl, rfl, rfl, rfl, trivial⟩, hn, by rw [hc]; exact hr, H⟩
            clear H
            rintro ⟨n47, s47⟩ w ⟨hn47, hln47, H⟩
            dsimp only at hn47 hln47 H
            ((conv=>whnf);repeat((first|refine mvT ?_|refine mvF ?_|refine yT ?_|refine yF ?_);conv=>whnf))
            refine Does.mono H.ok ?_
            rintro r w ⟨rfl, H⟩
            ((conv=>whnf);repeat((first|refine mvT ?_|refine mvF ?_|refine yT ?_|refine yF ?_);conv=>whnf))
            refine cI (by rfl) (fun hbd=>?_) (fun hbd=>?_)
            · have hbd : s47.2 = true := by simpa using hbd
              ((conv=>whnf);repeat((first|refine mvT ?_|refine mvF ?_|refine yT ?_|refine yF ?_);conv=>whnf))
              refine Does.mono (H.done hL hp1) ?_
              rintro r w ⟨rfl, H⟩
              ((conv=>whnf);repeat((first|refine mvT ?_|refine mvF ?_|refine yT ?_|refine yF ?_);conv=>whnf))
              refine RdPost.early hbd (hup15 (?_)) H
              rw [tail_ver hr16 (by decide), tail_yes (rdField3.trans hr19) ⟨by decide, has_all hv⟩, tail_yes (rdField3.trans hr21) ⟨by decide, has_all hv⟩, tail_yes (rdField3.trans hr23) ⟨by decide, has_all hv⟩, tail_yes (rdField3.trans hr25) ⟨by decide, has_all hv⟩, tail_yes ((rdField_list _ _ _ _ _ _ _ _ _ _ _).trans hr29) ⟨by decide, has_all hv⟩, tail_yes (rdField3.trans hr32) ⟨by decide, has_all hv⟩, tail_yes ((rdField_list _ _ _ _ _ _ _ _ _ _ _).trans hr36) ⟨by decide, has_all hv⟩, tail_ver hr39 (by decide), tail_len ⟨by decide, hh⟩ hln47 hbd]
            have hbd : s47.2 = false := by simpa using hbd
            clear hbd
            ((conv=>whnf);repeat((first|refine mvT ?_|refine mvF ?_|refine yT ?_|refine yF ?_);conv=>whnf))
            refine cut_zero ?_
            ((conv=>whnf);repeat((first|refine mvT ?_|refine mvF ?_|refine yT ?_|refine yF ?_);conv=>whnf))
            refine VC.cutE (fun a : Value => [(45, .int .i32 n47), (44, a), (0, .pointer (some ⟨p, 0, none⟩)), (2, .bool uns), (7, .pointer (some ⟨pb, 0, none⟩)), (8, .int .i16 v), (9, .bool fx), (10, .pointer (some ⟨p, 0, none⟩)), (18, .int .i32 n15), (17, .slice (some ⟨g15, 0, none⟩) n15.toNat cap15), (19, .int .i32 i15), (20, .pointer (some ⟨g15, 0 + (i15 : Int).toNat * 13, none⟩)), (21, .pointer (some ⟨g15, 0 + (i15 : Int).toNat * 13, none⟩))]) (fun a w' => ListI w0 G0 p pb 21 [.int .i32 0] (elR 7 v fx 3 []) (elQ true 7 3 []) s47 n47 (decide (n47 ≤ 0)) ((g15, 67, es15.flatten ++ [str u16, .int .i32 n19, .int .i32 n21, .int .i32 n23, .int .i32 n25, a27, .int .i32 n32, a34, c39, .slice none 0 0, .bool false, .int .i8 0, .map none] ++ ((List.replicate (n15.toNat - (i15 + 1)) [str [], .int .i32 0, .int .i32 0, .int .i32 0, .int .i32 0, .slice none 0 0, .int .i32 0, .slice none 0 0, .slice none 0 0, .slice none 0 0, .bool false, .int .i8 0, .map none]).flatten ++ post15)) :: L15) P45 a 0 w') ?_ ?_
            · refine cI (by rfl) (fun hps=>?_) (fun hps=>?_)
              · have hps : 0 < n47 := by have := of_decide_eq_true hps; omega
                ((conv=>whnf);repeat((first|refine mvT ?_|refine mvF ?_|refine yT ?_|refine yF ?_);conv=>whnf))
                refine H.grow hps hn47.2 (by decide) rfl rfl (by decide) ?_
                intro g cap post w hc1 hc2 H
                ((conv=>whnf);repeat((first|refine mvT ?_|refine mvF ?_|refine yT ?_|refine yF ?_);conv=>whnf))
                exact ⟨_, ⟨rfl, rfl, rfl, rfl, rfl, rfl, rfl, rfl, rfl, rfl, rfl, rfl, rfl, trivial⟩, ListI.some hps (decide_eq_false (by omega)) hc1 hc2 H⟩
              · have hps : n47 ≤ 0 := by have := of_decide_eq_false hps; omega
                ((conv=>whnf);repeat((first|refine mvT ?_|refine mvF ?_|refine yT ?_|refine yF ?_);conv=>whnf))
                exact ⟨_, ⟨rfl, rfl, rfl, rfl, rfl, rfl, rfl, rfl, rfl, rfl, rfl, rfl, rfl, trivial⟩, ListI.none hps (decide_eq_true hps) H⟩
            clear H
            rintro a47 w H
            ((conv=>whnf);repeat((first|refine mvT ?_|refine mvF ?_|refine yT ?_|refine yF ?_);conv=>whnf))
            have hpL47 : inL ((g15, 67, es15.flatten ++ [str u16, .int .i32 n19, .int .i32 n21, .int .i32 n23, .int .i32 n25, a27, .int .i32 n32, a34, c39, .slice none 0 0, .bool false, .int .i8 0, .map none] ++ ((List.replicate (n15.toNat - (i15 + 1)) [str [], .int .i32 0, .int .i32 0, .int .i32 0, .int .i32 0, .slice none 0 0, .int .i32 0, .slice none 0 0, .slice none 0 0, .slice none 0 0, .bool false, .int .i8 0, .map none]).flatten ++ post15)) :: L15) p := inL.tail hpL15
            refine VL.loop (fun i : Nat => [(45, .int .i32 n47), (44, a47), (46, .int .i32 i), (0, .pointer (some ⟨p, 0, none⟩)), (2, .bool uns), (7, .pointer (some ⟨pb, 0, none⟩)), (8, .int .i16 v), (9, .bool fx), (10, .pointer (some ⟨p, 0, none⟩)), (18, .int .i32 n15), (17, .slice (some ⟨g15, 0, none⟩) n15.toNat cap15), (19, .int .i32 i15), (20, .pointer (some ⟨g15, 0 + (i15 : Int).toNat * 13, none⟩)), (21, .pointer (some ⟨g15, 0 + (i15 : Int).toNat * 13, none⟩))]) (fun i w' => i ≤ 2147483647 ∧ ListI w0 G0 p pb 21 [.int .i32 0] (elR 7 v fx 3 []) (elQ true 7 3 []) s47 n47 (decide (n47 ≤ 0)) ((g15, 67, es15.flatten ++ [str u16, .int .i32 n19, .int .i32 n21, .int .i32 n23, .int .i32 n25, a27, .int .i32 n32, a34, c39, .slice none 0 0, .bool false, .int .i8 0, .map none] ++ ((List.replicate (n15.toNat - (i15 + 1)) [str [], .int .i32 0, .int .i32 0, .int .i32 0, .int .i32 0, .slice none 0 0, .int .i32 0, .slice none 0 0, .slice none 0 0, .slice none 0 0, .bool false, .int .i8 0, .map none]).flatten ++ post15)) :: L15) P45 a47 i w') (fun i => n47.toNat - i) 0 ⟨rfl, rfl, rfl, rfl, rfl, rfl, rfl, rfl, rfl, rfl, rfl, rfl, rfl, rfl, trivial⟩ ⟨by decide, H⟩ ?_
            clear H
            rintro i47 w ⟨hi47, H⟩
            ((conv=>whnf);repeat((first|refine mvT ?_|refine mvF ?_|refine yT ?_|refine yF ?_);conv=>whnf))
            refine cI (by rfl) (fun h9=>?_) (fun h9=>?_)
            · have hlt47 : (i47 : Int) < n47 := of_decide_eq_true h9
              obtain ⟨g47, cap47, post47, rfl, hgo47, HI⟩ := H.go hlt47
              obtain ⟨es47, ts47, si47, hes47, hez47, hrn47, hts47, hlen2, H⟩ := HI.open hgo47.2.2.2.2
              obtain ⟨L47, hL47⟩ : ∃ L : List Ob, L = ((g15, 67, es15.flatten ++ [str u16, .int .i32 n19, .int .i32 n21, .int .i32 n23, .int .i32 n25, a27, .int .i32 n32, a34, c39, .slice none 0 0, .bool false, .int .i8 0, .map none] ++ ((List.replicate (n15.toNat - (i15 + 1)) [str [], .int .i32 0, .int .i32 0, .int .i32 0, .int .i32 0, .slice none 0 0, .int .i32 0, .slice none 0 0, .slice none 0 0, .slice none 0 0, .bool false, .int .i8 0, .map none]).flatten ++ post15)) :: L15) := ⟨_, rfl⟩
              rw [← hL47] at H hpL47
              obtain ⟨P47, hP47⟩ : ∃ P : World → Prop, P = fun w => (∀ (j : Nat) (c : List Value) (y : T), es47[j]? = some c → ts47[j]? = some y → elQ true 7 3 [] ⟨w, FG w0 G0⟩ c y) ∧ P45 w := ⟨_, rfl⟩
              rw [← hP47] at H
              replace H : St w0 G0 p pb si47 ((g47, 21, es47.flatten ++ [.int .i32 0] ++ ((List.replicate (n47.toNat - (i47 + 1)) [.int .i32 0]).flatten ++ post47)) :: L47) P47 w := H
              ((conv=>whnf);repeat((first|refine mvT ?_|refine mvF ?_|refine yT ?_|refine yF ?_);conv=>whnf))
              refine Does.mono H.int32 ?_
              rintro r w ⟨n48, s48, rfl, hn48, hr48, H⟩
              ((conv=>whnf);repeat((first|refine mvT ?_|refine mvF ?_|refine yT ?_|refine yF ?_);conv=>whnf))
              refine ⟨g47, 0, rfl, ⟨by omega, by omega⟩, ?_⟩
              ((conv=>whnf);repeat((first|refine mvT ?_|refine mvF ?_|refine yT ?_|refine yF ?_);conv=>whnf))
              refine H.st1 (v := .int .i32 n48) 0 (rfl) (rfl) rfl (by first | omega | (simp [hlen2]; done) | (simp [hlen2]; omega)) rfl (Nat.lt_of_lt_of_le (Nat.lt_succ_self _) (Nat.le_of_ble_eq_true rfl)) ?_
              intro w H
              ((conv=>whnf);repeat((first|refine mvT ?_|refine mvF ?_|refine yT ?_|refine yF ?_);conv=>whnf))
              replace H : St w0 G0 p pb s48 ((g47, 21, es47.flatten ++ [.int .i32 n48] ++ ((List.replicate (n47.toNat - (i47 + 1)) [.int .i32 0]).flatten ++ post47)) :: L47) P47 w := H
              refine ⟨i47 + 1, ⟨rfl, rfl, ?_, rfl, rfl, rfl, rfl, rfl, rfl, rfl, rfl, rfl, rfl, rfl, trivial⟩, ⟨by omega, ListI.back hgo47 (LoopI.next hes47 hez47 hrn47 hts47 (cur := [.int .i32 n48]) (x := numT n48) (hr48) rfl (by rw [← hL47]; exact H) fun w hP => ?_)⟩, by omega⟩
              · show some (Value.int .i32 _) = _
                rw [IntKind.wrap_i32]
                simp only [Option.some.injEq, Value.int.injEq, true_and]
                omega
              · skip
                rw [hP47] at hP
                exact ⟨⟨_, hn48, rfl, rfl⟩, hP⟩
            have hge47 : ¬ (i47 : Int) < n47 := of_decide_eq_false h9
            obtain ⟨l49, s49, hone49, hl49, hr49, H⟩ := H.done hge47 hln47 (nl := nlF (.mk 11 3 (-1) (-1) (-1) 0 3 []) v) (sz := elZ true 7 3 []) rfl hpL47 rfl
            ((conv=>whnf);repeat((first|refine mvT ?_|refine mvF ?_|refine yT ?_|refine yF ?_);conv=>whnf))
            obtain ⟨P50, hP50⟩ : ∃ P : World → Prop, P = fun w => ListR true (elZ true 7 3 []) (elQ true 7 3 [] ⟨w, FG w0 G0⟩) w (FG w0 G0) a47 (.mk 0 [] (decide (n47 ≤ 0)) l49 []) ∧ P45 w := ⟨_, rfl⟩
            replace H : St w0 G0 p pb s49 ((g15, 67, es15.flatten ++ [str u16, .int .i32 n19, .int .i32 n21, .int .i32 n23, .int .i32 n25, a27, .int .i32 n32, a34, c39, .slice none 0 0, .bool false, .int .i8 0, .map none] ++ ((List.replicate (n15.toNat - (i15 + 1)) [str [], .int .i32 0, .int .i32 0, .int .i32 0, .int .i32 0, .slice none 0 0, .int .i32 0, .slice none 0 0, .slice none 0 0, .slice none 0 0, .bool false, .int .i8 0, .map none]).flatten ++ post15)) :: L15) P50 w := by rw [hP50]; exact H
            refine H.st1 (v := a47) 9 (cells_one hone49) (hone49) rfl (by first | omega | (simp [hlen1]; done) | (simp [hlen1]; omega)) rfl (Nat.lt_of_lt_of_le (Nat.lt_succ_self _) (Nat.le_of_ble_eq_true rfl)) ?_
            intro w H
            ((conv=>whnf);repeat((first|refine mvT ?_|refine mvF ?_|refine yT ?_|refine yF ?_);conv=>whnf))
            replace H : St w0 G0 p pb s49 ((g15, 67, es15.flatten ++ [str u16, .int .i32 n19, .int .i32 n21, .int .i32 n23, .int .i32 n25, a27, .int .i32 n32, a34, c39, a47, .bool false, .int .i8 0, .map none] ++ ((List.replicate (n15.toNat - (i15 + 1)) [str [], .int .i32 0, .int .i32 0, .int .i32 0, .int .i32 0, .slice none 0 0, .int .i32 0, .slice none 0 0, .slice none 0 0, .slice none 0 0, .bool false, .int .i8 0, .map none]).flatten ++ post15)) :: L15) P50 w := H
            exact ⟨(a47, decide (n47 ≤ 0), l49, s49), ⟨rfl, rfl, rfl, rfl, rfl, rfl, rfl, rfl, rfl, rfl, rfl, trivial⟩, hl49, by rw [if_pos hh]; exact ((rdField_list _ _ _ _ _ _ _ _ _ _ _).trans hr49), by rw [hP50] at H; exact H⟩
          · ((conv=>whnf);repeat((first|refine mvT ?_|refine mvF ?_|refine yT ?_|refine yF ?_);conv=>whnf))
            have hh : ¬ hasF (.mk 11 3 (-1) (-1) (-1) 0 3 []) v = true := by have := of_decide_eq_false hcv; rw [hasF_iff]; omega
            exact ⟨(.slice none 0 0, true, [], s39), ⟨rfl, rfl, rfl, rfl, rfl, rfl, rfl, rfl, rfl, rfl, rfl, trivial⟩, fun _ => rfl, by rw [if_neg hh]; rfl, H.add fun w' _ => .inl ⟨rfl, rfl⟩⟩
        clear H
        rintro ⟨c46, nl46, l46, s46⟩ w ⟨hnl46, hr46, H⟩
        dsimp only at hnl46 hr46 H
        ((conv=>whnf);repeat((first|refine mvT ?_|refine mvF ?_|refine yT ?_|refine yF ?_);conv=>whnf))
        obtain ⟨P52, hP52⟩ : ∃ P : World → Prop, P = fun w => ListR true (elZ true 7 3 []) (elQ true 7 3 [] ⟨w, FG w0 G0⟩) w (FG w0 G0) c46 (.mk 0 [] (nl46) l46 []) ∧ P45 w := ⟨_, rfl⟩
        replace H : St w0 G0 p pb s46 ((g15, 67, es15.flatten ++ [str u16, .int .i32 n19, .int .i32 n21, .int .i32 n23, .int .i32 n25, a27, .int .i32 n32, a34, c39, c46, .bool false, .int .i8 0, .map none] ++ ((List.replicate (n15.toNat - (i15 + 1)) [str [], .int .i32 0, .int .i32 0, .int .i32 0, .int .i32 0, .slice none 0 0, .int .i32 0, .slice none 0 0, .slice none 0 0, .slice none 0 0, .bool false, .int .i8 0, .map none]).flatten ++ post15)) :: L15) P52 w := by rw [hP52]; exact H
        refine VC.cutE (fun q : Bool × Rd => [(0, .pointer (some ⟨p, 0, none⟩)), (2, .bool uns), (7, .pointer (some ⟨pb, 0, none⟩)), (8, .int .i16 v), (9, .bool fx), (10, .pointer (some ⟨p, 0, none⟩)), (18, .int .i32 n15), (17, .slice (some ⟨g15, 0, none⟩) n15.toNat cap15), (19, .int .i32 i15), (20, .pointer (some ⟨g15, 0 + (i15 : Int).toNat * 13, none⟩)), (21, .pointer (some ⟨g15, 0 + (i15 : Int).toNat * 13, none⟩))]) (fun q w' => (if hasF (.mk 0 1 (-1) (-1) (-1) 0 0 []) v = true then rdField 8 v fx (.mk 0 1 (-1) (-1) (-1) 0 0 []) s46 else (dfT 8 (.mk 0 1 (-1) (-1) (-1) 0 0 []), s46)) = (numT (if q.1 = true then 1 else 0), q.2) ∧ St w0 G0 p pb q.2 ((g15, 67, es15.flatten ++ [str u16, .int .i32 n19, .int .i32 n21, .int .i32 n23, .int .i32 n25, a27, .int .i32 n32, a34, c39, c46, .bool q.1, .int .i8 0, .map none] ++ ((List.replicate (n15.toNat - (i15 + 1)) [str [], .int .i32 0, .int .i32 0, .int .i32 0, .int .i32 0, .slice none 0 0, .int .i32 0, .slice none 0 0, .slice none 0 0, .slice none 0 0, .bool false, .int .i8 0, .map none]).flatten ++ post15)) :: L15) P52 w') ?_ ?_
        · refine cI (by rfl) (fun hcv=>?_) (fun hcv=>?_)
          · ((conv=>whnf);repeat((first|refine mvT ?_|refine mvF ?_|refine yT ?_|refine yF ?_);conv=>whnf))
            refine Does.mono H.bool ?_
            rintro r w ⟨b54, s54, rfl, hr54, H⟩
            ((conv=>whnf);repeat((first|refine mvT ?_|refine mvF ?_|refine yT ?_|refine yF ?_);conv=>whnf))
            (refine mvB ?_;((conv=>whnf);repeat((first|refine mvT ?_|refine mvF ?_|refine yT ?_|refine yF ?_);conv=>whnf)))
            refine H.st1 (v := .bool b54) 10 (rfl) (rfl) rfl (by first | omega | (simp [hlen1]; done) | (simp [hlen1]; omega)) rfl (Nat.lt_of_lt_of_le (Nat.lt_succ_self _) (Nat.le_of_ble_eq_true rfl)) ?_
            intro w H
            ((conv=>whnf);repeat((first|refine mvT ?_|refine mvF ?_|refine yT ?_|refine yF ?_);conv=>whnf))
            replace H : St w0 G0 p pb s54 ((g15, 67, es15.flatten ++ [str u16, .int .i32 n19, .int .i32 n21, .int .i32 n23, .int .i32 n25, a27, .int .i32 n32, a34, c39, c46, .bool b54, .int .i8 0, .map none] ++ ((List.replicate (n15.toNat - (i15 + 1)) [str [], .int .i32 0, .int .i32 0, .int .i32 0, .int .i32 0, .slice none 0 0, .int .i32 0, .slice none 0 0, .slice none 0 0, .slice none 0 0, .bool false, .int .i8 0, .map none]).flatten ++ post15)) :: L15) P52 w := H
            have hh : hasF (.mk 0 1 (-1) (-1) (-1) 0 0 []) v = true := by have := of_decide_eq_true hcv; rw [hasF_iff]; omega
            exact ⟨(b54, s54), ⟨rfl, rfl, rfl, rfl, rfl, rfl, rfl, rfl, rfl, rfl, rfl, trivial⟩, by rw [if_pos hh]; exact (rdField0.trans hr54), H⟩
          · ((conv=>whnf);repeat((first|refine mvT ?_|refine mvF ?_|refine yT ?_|refine yF ?_);conv=>whnf))
            have hh : ¬ hasF (.mk 0 1 (-1) (-1) (-1) 0 0 []) v = true := by have := of_decide_eq_false hcv; rw [hasF_iff]; omega
            exact ⟨(false, s46), ⟨rfl, rfl, rfl, rfl, rfl, rfl, rfl, rfl, rfl, rfl, rfl, trivial⟩, by rw [if_neg hh]; rfl, H⟩
        clear H
        rintro ⟨n53, s53⟩ w ⟨hr53, H⟩
        dsimp only at hr53 H
        ((conv=>whnf);repeat((first|refine mvT ?_|refine mvF ?_|refine yT ?_|refine yF ?_);conv=>whnf))
        replace H : St w0 G0 p pb s53 ((g15, 67, es15.flatten ++ [str u16, .int .i32 n19, .int .i32 n21, .int .i32 n23, .int .i32 n25, a27, .int .i32 n32, a34, c39, c46, .bool n53, .int .i8 0, .map none] ++ ((List.replicate (n15.toNat - (i15 + 1)) [str [], .int .i32 0, .int .i32 0, .int .i32 0, .int .i32 0, .slice none 0 0, .int .i32 0, .slice none 0 0, .slice none 0 0, .slice none 0 0, .bool false, .int .i8 0, .map none]).flatten ++ post15)) :: L15) P52 w := H
        refine VC.cutE (fun q : Int × Rd => [(0, .pointer (some ⟨p, 0, none⟩)), (2, .bool uns), (7, .pointer (some ⟨pb, 0, none⟩)), (8, .int .i16 v), (9, .bool fx), (10, .pointer (some ⟨p, 0, none⟩)), (18, .int .i32 n15), (17, .slice (some ⟨g15, 0, none⟩) n15.toNat cap15), (19, .int .i32 i15), (20, .pointer (some ⟨g15, 0 + (i15 : Int).toNat * 13, none⟩)), (21, .pointer (some ⟨g15, 0 + (i15 : Int).toNat * 13, none⟩))]) (fun q w' => IntKind.i8.wrap q.1 = q.1 ∧ (if hasF (.mk 1 6 (-1) (-1) (-1) 0 0 []) v = true then rdField 8 v fx (.mk 1 6 (-1) (-1) (-1) 0 0 []) s53 else (dfT 8 (.mk 1 6 (-1) (-1) (-1) 0 0 []), s53)) = (numT q.1, q.2) ∧ St w0 G0 p pb q.2 ((g15, 67, es15.flatten ++ [str u16, .int .i32 n19, .int .i32 n21, .int .i32 n23, .int .i32 n25, a27, .int .i32 n32, a34, c39, c46, .bool n53, .int .i8 q.1, .map none] ++ ((List.replicate (n15.toNat - (i15 + 1)) [str [], .int .i32 0, .int .i32 0, .int .i32 0, .int .i32 0, .slice none 0 0, .int .i32 0, .slice none 0 0, .slice none 0 0, .slice none 0 0, .bool false, .int .i8 0, .map none]).flatten ++ post15)) :: L15) P52 w') ?_ ?_
        · refine cI (by rfl) (fun hcv=>?_) (fun hcv=>?_)
          · ((conv=>whnf);repeat((first|refine mvT ?_|refine mvF ?_|refine yT ?_|refine yF ?_);conv=>whnf))
            refine Does.mono H.int8 ?_
            rintro r w ⟨n57, s57, rfl, hn57, hr57, H⟩
            ((conv=>whnf);repeat((first|refine mvT ?_|refine mvF ?_|refine yT ?_|refine yF ?_);conv=>whnf))
            refine H.st1 (v := .int .i8 n57) 11 (rfl) (rfl) rfl (by first | omega | (simp [hlen1]; done) | (simp [hlen1]; omega)) rfl (Nat.lt_of_lt_of_le (Nat.lt_succ_self _) (Nat.le_of_ble_eq_true rfl)) ?_
            intro w H
            ((conv=>whnf);repeat((first|refine mvT ?_|refine mvF ?_|refine yT ?_|refine yF ?_);conv=>whnf))
            replace H : St w0 G0 p pb s57 ((g15, 67, es15.flatten ++ [str u16, .int .i32 n19, .int .i32 n21, .int .i32 n23, .int .i32 n25, a27, .int .i32 n32, a34, c39, c46, .bool n53, .int .i8 n57, .map none] ++ ((List.replicate (n15.toNat - (i15 + 1)) [str [], .int .i32 0, .int .i32 0, .int .i32 0, .int .i32 0, .slice none 0 0, .int .i32 0, .slice none 0 0, .slice none 0 0, .slice none 0 0, .bool false, .int .i8 0, .map none]).flatten ++ post15)) :: L15) P52 w := H
            have hh : hasF (.mk 1 6 (-1) (-1) (-1) 0 0 []) v = true := by have := of_decide_eq_true hcv; rw [hasF_iff]; omega
            exact ⟨(n57, s57), ⟨rfl, rfl, rfl, rfl, rfl, rfl, rfl, rfl, rfl, rfl, rfl, trivial⟩, hn57, by rw [if_pos hh]; exact (rdField1.trans hr57), H⟩
          · ((conv=>whnf);repeat((first|refine mvT ?_|refine mvF ?_|refine yT ?_|refine yF ?_);conv=>whnf))
            have hh : ¬ hasF (.mk 1 6 (-1) (-1) (-1) 0 0 []) v = true := by have := of_decide_eq_false hcv; rw [hasF_iff]; omega
            exact ⟨(0, s53), ⟨rfl, rfl, rfl, rfl, rfl, rfl, rfl, rfl, rfl, rfl, rfl, trivial⟩, rfl, by rw [if_neg hh]; rfl, H⟩
        clear H
        rintro ⟨n56, s56⟩ w ⟨hn56, hr56, H⟩
        dsimp only at hn56 hr56 H
        ((conv=>whnf);repeat((first|refine mvT ?_|refine mvF ?_|refine yT ?_|refine yF ?_);conv=>whnf))
        replace H : St w0 G0 p pb s56 ((g15, 67, es15.flatten ++ [str u16, .int .i32 n19, .int .i32 n21, .int .i32 n23, .int .i32 n25, a27, .int .i32 n32, a34, c39, c46, .bool n53, .int .i8 n56, .map none] ++ ((List.replicate (n15.toNat - (i15 + 1)) [str [], .int .i32 0, .int .i32 0, .int .i32 0, .int .i32 0, .slice none 0 0, .int .i32 0, .slice none 0 0, .slice none 0 0, .slice none 0 0, .bool false, .int .i8 0, .map none]).flatten ++ post15)) :: L15) P52 w := H
        (refine mvB ?_;((conv=>whnf);repeat((first|refine mvT ?_|refine mvF ?_|refine yT ?_|refine yF ?_);conv=>whnf)))
        refine VC.cutB (fun q : Value × List Tg × Rd => [(0, .pointer (some ⟨p, 0, none⟩)), (2, .bool uns), (7, .pointer (some ⟨pb, 0, none⟩)), (8, .int .i16 v), (9, .bool fx), (10, .pointer (some ⟨p, 0, none⟩)), (18, .int .i32 n15), (17, .slice (some ⟨g15, 0, none⟩) n15.toNat cap15), (19, .int .i32 i15), (20, .pointer (some ⟨g15, 0 + (i15 : Int).toNat * 13, none⟩)), (21, .pointer (some ⟨g15, 0 + (i15 : Int).toNat * 13, none⟩))]) (fun q w' => rdTagsF fx s56 = q.2 ∧ St w0 G0 p pb q.2.2 ((g15, 67, es15.flatten ++ [str u16, .int .i32 n19, .int .i32 n21, .int .i32 n23, .int .i32 n25, a27, .int .i32 n32, a34, c39, c46, .bool n53, .int .i8 n56, q.1] ++ ((List.replicate (n15.toNat - (i15 + 1)) [str [], .int .i32 0, .int .i32 0, .int .i32 0, .int .i32 0, .slice none 0 0, .int .i32 0, .slice none 0 0, .slice none 0 0, .slice none 0 0, .bool false, .int .i8 0, .map none]).flatten ++ post15)) :: L15) (fun w => TGf w0 G0 q.1 q.2.1 w ∧ P52 w) w') ?_ ?_
        · refine cI (by rfl) (fun hc=>?_) (fun hc=>?_)
          · ((conv=>whnf);repeat((first|refine mvT ?_|refine mvF ?_|refine yT ?_|refine yF ?_);conv=>whnf))
            refine Does.mono H.tags ?_
            rintro r w ⟨m, u, s', rfl, hone, hr, H⟩
            ((conv=>whnf);repeat((first|refine mvT ?_|refine mvF ?_|refine yT ?_|refine yF ?_);conv=>whnf))
            refine H.st1 (v := m) 12 (rfl) (hone) rfl (by first | omega | (simp [hlen1]; done) | (simp [hlen1]; omega)) rfl (Nat.lt_of_lt_of_le (Nat.lt_succ_self _) (Nat.le_of_ble_eq_true rfl)) ?_
            intro w H
            ((conv=>whnf);repeat((first|refine mvT ?_|refine mvF ?_|refine yT ?_|refine yF ?_);conv=>whnf))
            exact ⟨(m, u, s'), ⟨rfl, rfl, rfl, rfl, rfl, rfl, rfl, rfl, rfl, rfl, rfl, trivial⟩, by rw [rdTagsF, if_pos hc]; exact hr, H⟩
          · ((conv=>whnf);repeat((first|refine mvT ?_|refine mvF ?_|refine yT ?_|refine yF ?_);conv=>whnf))
            exact ⟨(.map none, [], s56), ⟨rfl, rfl, rfl, rfl, rfl, rfl, rfl, rfl, rfl, rfl, rfl, trivial⟩, by rw [rdTagsF, if_neg (by rw [hc]; decide)], H.add fun w' _ => TagsR.nil _ _⟩
        clear H
        rintro ⟨m59, u59, s59⟩ w ⟨htg, H⟩
        dsimp only at htg H
        ((conv=>whnf);repeat((first|refine mvT ?_|refine mvF ?_|refine yT ?_|refine yF ?_);conv=>whnf))
        obtain ⟨P60, hP60⟩ : ∃ P : World → Prop, P = fun w => TGf w0 G0 m59 u59 w ∧ P52 w := ⟨_, rfl⟩
        replace H : St w0 G0 p pb s59 ((g15, 67, es15.flatten ++ [str u16, .int .i32 n19, .int .i32 n21, .int .i32 n23, .int .i32 n25, a27, .int .i32 n32, a34, c39, c46, .bool n53, .int .i8 n56, m59] ++ ((List.replicate (n15.toNat - (i15 + 1)) [str [], .int .i32 0, .int .i32 0, .int .i32 0, .int .i32 0, .slice none 0 0, .int .i32 0, .slice none 0 0, .slice none 0 0, .slice none 0 0, .bool false, .int .i8 0, .map none]).flatten ++ post15)) :: L15) P60 w := by rw [hP60]; exact H
        have hpart : rdPart 8 v fx dLeaderAndISRRequestTopicPartition si15 = (.mk 0 [] false [.mk 0 u16 false [] [], numT n19, numT n21, numT n23, numT n25, .mk 0 [] (decide (n27 ≤ 0)) l29 [], numT n32, .mk 0 [] (decide (n34 ≤ 0)) l36 [], .mk 0 [] nl39 l39 [], .mk 0 [] nl46 l46 [], numT (if n53 = true then 1 else 0), numT n56] u59, s59) := by
          unfold rdPart rdPartW
          rw [rdTail_plain (by decide)]
          rw [rdAll_ver hr16 (by decide), rdAll_yes (df := dfT 8) (rdField3.trans hr19) ⟨by decide, has_all hv⟩, rdAll_yes (df := dfT 8) (rdField3.trans hr21) ⟨by decide, has_all hv⟩, rdAll_yes (df := dfT 8) (rdField3.trans hr23) ⟨by decide, has_all hv⟩, rdAll_yes (df := dfT 8) (rdField3.trans hr25) ⟨by decide, has_all hv⟩, rdAll_yes (df := dfT 8) ((rdField_list _ _ _ _ _ _ _ _ _ _ _).trans hr29) ⟨by decide, has_all hv⟩, rdAll_yes (df := dfT 8) (rdField3.trans hr32) ⟨by decide, has_all hv⟩, rdAll_yes (df := dfT 8) ((rdField_list _ _ _ _ _ _ _ _ _ _ _).trans hr36) ⟨by decide, has_all hv⟩, rdAll_ver hr39 (by decide), rdAll_ver hr46 (by decide), rdAll_ver hr53 (by decide), rdAll_ver hr56 (by decide)]
          simp only [rdAll]
          rw [htg]
        refine ⟨i15 + 1, ⟨rfl, rfl, ?_, rfl, rfl, rfl, rfl, rfl, rfl, trivial⟩, ⟨by omega, ListI.back hgo15 (LoopI.next hes15 hez15 hrn15 hts15 (cur := [str u16, .int .i32 n19, .int .i32 n21, .int .i32 n23, .int .i32 n25, a27, .int .i32 n32, a34, c39, c46, .bool n53, .int .i8 n56, m59]) (x := .mk 0 [] false [.mk 0 u16 false [] [], numT n19, numT n21, numT n23, numT n25, .mk 0 [] (decide (n27 ≤ 0)) l29 [], numT n32, .mk 0 [] (decide (n34 ≤ 0)) l36 [], .mk 0 [] nl39 l39 [], .mk 0 [] nl46 l46 [], numT (if n53 = true then 1 else 0), numT n56] u59) (hpart) rfl (by rw [← hL15]; exact H) fun w hP => ?_)⟩, by omega⟩
        · show some (Value.int .i32 _) = _
          rw [IntKind.wrap_i32]
          simp only [Option.some.injEq, Value.int.injEq, true_and]
          omega
        · skip
          rw [hP60] at hP
          obtain ⟨hf60_, hP⟩ := hP
          rw [hP52] at hP
          obtain ⟨hf52_, hP⟩ := hP
          rw [hP45] at hP
          obtain ⟨hf45_, hP⟩ := hP
          rw [hP37] at hP
          obtain ⟨hf37_, hP⟩ := hP
          rw [hP30] at hP
          obtain ⟨hf30_, hP⟩ := hP
          rw [hP15] at hP
          exact ⟨QPt (QA1 (QF8 (by decide) u16) (QA1 (QF3 hn19) (QA1 (QF3 hn21) (QA1 (QF3 hn23) (QA1 (QF3 hn25) (QA1 (QF11 hl29 hf30_) (QA1 (QF3 hn32) (QA1 (QF11 hl36 hf37_) (QA1 (QF11 hnl39 hf45_) (QA1 (QF11 hnl46 hf52_) (QA1 (QF0 n53) (QA1 (QF1 hn56) (QA0))))))))))))) hf60_, hP⟩
      have hge15 : ¬ (i15 : Int) < n15 := of_decide_eq_false h9
      obtain ⟨l61, s61, hone61, hl61, hr61, H⟩ := H.done hge15 hln15 (nl := nlF (.mk 11 0 1 (-1) (-1) 0 10 dLeaderAndISRRequestTopicPartition) v) (sz := elZ true 8 10 dLeaderAndISRRequestTopicPartition) rfl hpL15 rfl
      ((conv=>whnf);repeat((first|refine mvT ?_|refine mvF ?_|refine yT ?_|refine yF ?_);conv=>whnf))
      obtain ⟨P62, hP62⟩ : ∃ P : World → Prop, P = fun w => ListR true (elZ true 8 10 dLeaderAndISRRequestTopicPartition) (elQ true 8 10 dLeaderAndISRRequestTopicPartition ⟨w, FG w0 G0⟩) w (FG w0 G0) a15 (.mk 0 [] (decide (n15 ≤ 0)) l61 []) ∧ (fun _ => True) w := ⟨_, rfl⟩
      replace H : St w0 G0 p pb s61 ((p, ty, [] ++ [.int .i16 v, .int .i32 n1, .bool n3, .int .i32 n6, .int .i64 n8, .int .i8 n11, .slice none 0 0, .slice none 0 0, .slice none 0 0, .map none] ++ []) :: []) P62 w := by rw [hP62]; exact H
      refine H.st1 (v := a15) 6 (cells_one hone61) (hone61) rfl (by simp) rfl (Nat.lt_of_lt_of_le (Nat.lt_succ_self _) (Nat.le_of_ble_eq_true rfl)) ?_
      intro w H
      ((conv=>whnf);repeat((first|refine mvT ?_|refine mvF ?_|refine yT ?_|refine yF ?_);conv=>whnf))
      replace H : St w0 G0 p pb s61 ((p, ty, [] ++ [.int .i16 v, .int .i32 n1, .bool n3, .int .i32 n6, .int .i64 n8, .int .i8 n11, a15, .slice none 0 0, .slice none 0 0, .map none] ++ []) :: []) P62 w := H
      exact ⟨(a15, decide (n15 ≤ 0), l61, s61), ⟨rfl, rfl, rfl, rfl, rfl, rfl, trivial⟩, hl61, by rw [if_pos hh]; exact ((rdField_list _ _ _ _ _ _ _ _ _ _ _).trans hr61), by rw [hP62] at H; exact H⟩
    · ((conv=>whnf);repeat((first|refine mvT ?_|refine mvF ?_|refine yT ?_|refine yF ?_);conv=>whnf))
      have hh : ¬ hasF (.mk 11 0 1 (-1) (-1) 0 10 dLeaderAndISRRequestTopicPartition) v = true := by have := of_decide_eq_false hcv; rw [hasF_iff]; omega
      exact ⟨(.slice none 0 0, true, [], s11), ⟨rfl, rfl, rfl, rfl, rfl, rfl, trivial⟩, fun _ => rfl, by rw [if_neg hh]; rfl, H.add fun w' _ => .inl ⟨rfl, rfl⟩⟩
  clear H
  rintro ⟨c14, nl14, l14, s14⟩ w ⟨hnl14, hr14, H⟩
  dsimp only at hnl14 hr14 H
  ((conv=>whnf);repeat((first|refine mvT ?_|refine mvF ?_|refine yT ?_|refine yF ?_);conv=>whnf))
  obtain ⟨P64, hP64⟩ : ∃ P : World → Prop, P = fun w => ListR true (elZ true 8 10 dLeaderAndISRRequestTopicPartition) (elQ true 8 10 dLeaderAndISRRequestTopicPartition ⟨w, FG w0 G0⟩) w (FG w0 G0) c14 (.mk 0 [] (nl14) l14 []) ∧ (fun _ => True) w := ⟨_, rfl⟩
  replace H : St w0 G0 p pb s14 ((p, ty, [] ++ [.int .i16 v, .int .i32 n1, .bool n3, .int .i32 n6, .int .i64 n8, .int .i8 n11, c14, .slice none 0 0, .slice none 0 0, .map none] ++ []) :: []) P64 w := by rw [hP64]; exact H
  refine VC.cutE (fun q : Value × Bool × List T × Rd => [(0, .pointer (some ⟨p, 0, none⟩)), (2, .bool uns), (7, .pointer (some ⟨pb, 0, none⟩)), (8, .int .i16 v), (9, .bool fx), (10, .pointer (some ⟨p, 0, none⟩))]) (fun q w' => (q.2.1 = true → q.2.2.1 = []) ∧ (if hasF (.mk 11 2 (-1) (-1) (-1) 0 10 dLeaderAndISRRequestTopicState) v = true then rdField 9 v fx (.mk 11 2 (-1) (-1) (-1) 0 10 dLeaderAndISRRequestTopicState) s14 else (dfT 9 (.mk 11 2 (-1) (-1) (-1) 0 10 dLeaderAndISRRequestTopicState), s14)) = (.mk 0 [] q.2.1 q.2.2.1 [], q.2.2.2) ∧ St w0 G0 p pb q.2.2.2 ((p, ty, [] ++ [.int .i16 v, .int .i32 n1, .bool n3, .int .i32 n6, .int .i64 n8, .int .i8 n11, c14, q.1, .slice none 0 0, .map none] ++ []) :: []) (fun w => ListR true (elZ true 8 10 dLeaderAndISRRequestTopicState) (elQ true 8 10 dLeaderAndISRRequestTopicState ⟨w, FG w0 G0⟩) w (FG w0 G0) q.1 (.mk 0 [] (q.2.1) q.2.2.1 []) ∧ P64 w) w') ?_ ?_
  · refine cI (by rfl) (fun hcv=>?_) (fun hcv=>?_)
    · have hh : hasF (.mk 11 2 (-1) (-1) (-1) 0 10 dLeaderAndISRRequestTopicState) v = true := by have := of_decide_eq_true hcv; rw [hasF_iff]; omega
      ((conv=>whnf);repeat((first|refine mvT ?_|refine mvF ?_|refine yT ?_|refine yF ?_);conv=>whnf))
      refine ldS (H.cell (o := 0) rfl (k := 7) rfl) ?_;((conv=>whnf);repeat((first|refine mvT ?_|refine mvF ?_|refine yT ?_|refine yF ?_);conv=>whnf))
      (refine mvB ?_;((conv=>whnf);repeat((first|refine mvT ?_|refine mvF ?_|refine yT ?_|refine yF ?_);conv=>whnf)))
      refine VC.cutE (fun q : Int × Rd => [(52, .int .i32 q.1), (51, .slice none 0 0), (0, .pointer (some ⟨p, 0, none⟩)), (2, .bool uns), (7, .pointer (some ⟨pb, 0, none⟩)), (8, .int .i16 v), (9, .bool fx), (10, .pointer (some ⟨p, 0, none⟩))]) (fun q w' => (-2147483648 ≤ q.1 ∧ q.1 ≤ 2147483647) ∧ rdLn fx s14 = q ∧ St w0 G0 p pb q.2 ((p, ty, [] ++ [.int .i16 v, .int .i32 n1, .bool n3, .int .i32 n6, .int .i64 n8, .int .i8 n11, c14, .slice none 0 0, .slice none 0 0, .map none] ++ []) :: []) P64 w') ?_ ?_
      · refine cI (by rfl) (fun hc=>?_) (fun hc=>?_)
        · ((conv=>whnf);repeat((first|refine mvT ?_|refine mvF ?_|refine yT ?_|refine yF ?_);conv=>whnf))
          refine Does.mono H.lnc ?_
          rintro r w ⟨n, s', rfl, hn, hr, H⟩
          ((conv=>whnf);repeat((first|refine mvT ?_|refine mvF ?_|refine yT ?_|refine yF ?_);conv=>whnf))
          exact ⟨(n, s'), ⟨rfl, rfl, rfl, rfl, rfl, rfl, rfl, rfl, trivial⟩, hn, by rw [hc]; exact hr, H⟩
        · ((conv=>whnf);repeat((first|refine mvT ?_|refine mvF ?_|refine yT ?_|refine yF ?_);conv=>whnf))
          refine Does.mono H.lnp ?_
          rintro r w ⟨n, s', rfl, hn, hr, H⟩
          ((conv=>whnf);repeat((first|refine mvT ?_|refine mvF ?_|refine yT ?_|refine yF ?_);conv=>whnf))
          exact ⟨(n, s'), ⟨rfl, rfl, rfl, rfl, rfl, rfl, rfl, rfl, trivial⟩, hn, by rw [hc]; exact hr, H⟩
      clear H
      rintro ⟨n66, s66⟩ w ⟨hn66, hln66, H⟩
      dsimp only at hn66 hln66 H
      ((conv=>whnf);repeat((first|refine mvT ?_|refine mvF ?_|refine yT ?_|refine yF ?_);conv=>whnf))
      refine Does.mono H.ok ?_
      rintro r w ⟨rfl, H⟩
      ((conv=>whnf);repeat((first|refine mvT ?_|refine mvF ?_|refine yT ?_|refine yF ?_);conv=>whnf))
      refine cI (by rfl) (fun hbd=>?_) (fun hbd=>?_)
      · have hbd : s66.2 = true := by simpa using hbd
        ((conv=>whnf);repeat((first|refine mvT ?_|refine mvF ?_|refine yT ?_|refine yF ?_);conv=>whnf))
        refine Does.mono (H.done hL hp1) ?_
        rintro r w ⟨rfl, H⟩
        ((conv=>whnf);repeat((first|refine mvT ?_|refine mvF ?_|refine yT ?_|refine yF ?_);conv=>whnf))
        refine RdPost.early hbd (hup0 (?_)) H
        rw [tail_yes (rdField3.trans hr1) ⟨by decide, has_all hv⟩, tail_ver hr3 (by decide), tail_yes (rdField3.trans hr6) ⟨by decide, has_all hv⟩, tail_ver hr8 (by decide), tail_ver hr11 (by decide), tail_ver hr14 (by decide), tail_len ⟨by decide, hh⟩ hln66 hbd]
      have hbd : s66.2 = false := by simpa using hbd
      clear hbd
      ((conv=>whnf);repeat((first|refine mvT ?_|refine mvF ?_|refine yT ?_|refine yF ?_);conv=>whnf))
      refine cut_zero ?_
      ((conv=>whnf);repeat((first|refine mvT ?_|refine mvF ?_|refine yT ?_|refine yF ?_);conv=>whnf))
      refine VC.cutE (fun a : Value => [(52, .int .i32 n66), (51, a), (0, .pointer (some ⟨p, 0, none⟩)), (2, .bool uns), (7, .pointer (some ⟨pb, 0, none⟩)), (8, .int .i16 v), (9, .bool fx), (10, .pointer (some ⟨p, 0, none⟩))]) (fun a w' => ListI w0 G0 p pb 72 [str [], .int .u8 0, .int .u8 0, .int .u8 0, .int .u8 0, .int .u8 0, .int .u8 0, .int .u8 0, .int .u8 0, .int .u8 0, .int .u8 0, .int .u8 0, .int .u8 0, .int .u8 0, .int .u8 0, .int .u8 0, .int .u8 0, .slice none 0 0, .map none] (elR 8 v fx 10 dLeaderAndISRRequestTopicState) (elQ true 8 10 dLeaderAndISRRequestTopicState) s66 n66 (decide (n66 ≤ 0)) ((p, ty, [] ++ [.int .i16 v, .int .i32 n1, .bool n3, .int .i32 n6, .int .i64 n8, .int .i8 n11, c14, .slice none 0 0, .slice none 0 0, .map none] ++ []) :: []) P64 a 0 w') ?_ ?_
      · refine cI (by rfl) (fun hps=>?_) (fun hps=>?_)
        · have hps : 0 < n66 := by have := of_decide_eq_true hps; omega
          ((conv=>whnf);repeat((first|refine mvT ?_|refine mvF ?_|refine yT ?_|refine yF ?_);conv=>whnf))
          refine H.grow hps hn66.2 (by decide) rfl rfl (by decide) ?_
          intro g cap post w hc1 hc2 H
          ((conv=>whnf);repeat((first|refine mvT ?_|refine mvF ?_|refine yT ?_|refine yF ?_);conv=>whnf))
          exact ⟨_, ⟨rfl, rfl, rfl, rfl, rfl, rfl, rfl, rfl, trivial⟩, ListI.some hps (decide_eq_false (by omega)) hc1 hc2 H⟩
        · have hps : n66 ≤ 0 := by have := of_decide_eq_false hps; omega
          ((conv=>whnf);repeat((first|refine mvT ?_|refine mvF ?_|refine yT ?_|refine yF ?_);conv=>whnf))
          exact ⟨_, ⟨rfl, rfl, rfl, rfl, rfl, rfl, rfl, rfl, trivial⟩, ListI.none hps (decide_eq_true hps) H⟩
      clear H
      rintro a66 w H
      ((conv=>whnf);repeat((first|refine mvT ?_|refine mvF ?_|refine yT ?_|refine yF ?_);conv=>whnf))
      have hpL66 : inL ((p, ty, [] ++ [.int .i16 v, .int .i32 n1, .bool n3, .int .i32 n6, .int .i64 n8, .int .i8 n11, c14, .slice none 0 0, .slice none 0 0, .map none] ++ []) :: []) p := inL.head _ _
      refine VL.loop (fun i : Nat => [(52, .int .i32 n66), (51, a66), (53, .int .i32 i), (0, .pointer (some ⟨p, 0, none⟩)), (2, .bool uns), (7, .pointer (some ⟨pb, 0, none⟩)), (8, .int .i16 v), (9, .bool fx), (10, .pointer (some ⟨p, 0, none⟩))]) (fun i w' => i ≤ 2147483647 ∧ ListI w0 G0 p pb 72 [str [], .int .u8 0, .int .u8 0, .int .u8 0, .int .u8 0, .int .u8 0, .int .u8 0, .int .u8 0, .int .u8 0, .int .u8 0, .int .u8 0, .int .u8 0, .int .u8 0, .int .u8 0, .int .u8 0, .int .u8 0, .int .u8 0, .slice none 0 0, .map none] (elR 8 v fx 10 dLeaderAndISRRequestTopicState) (elQ true 8 10 dLeaderAndISRRequestTopicState) s66 n66 (decide (n66 ≤ 0)) ((p, ty, [] ++ [.int .i16 v, .int .i32 n1, .bool n3, .int .i32 n6, .int .i64 n8, .int .i8 n11, c14, .slice none 0 0, .slice none 0 0, .map none] ++ []) :: []) P64 a66 i w') (fun i => n66.toNat - i) 0 ⟨rfl, rfl, rfl, rfl, rfl, rfl, rfl, rfl, rfl, trivial⟩ ⟨by decide, H⟩ ?_
      clear H
      rintro i66 w ⟨hi66, H⟩
      ((conv=>whnf);repeat((first|refine mvT ?_|refine mvF ?_|refine yT ?_|refine yF ?_);conv=>whnf))
      refine cI (by rfl) (fun h9=>?_) (fun h9=>?_)
      · have hlt66 : (i66 : Int) < n66 := of_decide_eq_true h9
        obtain ⟨g66, cap66, post66, rfl, hgo66, HI⟩ := H.go hlt66
        obtain ⟨es66, ts66, si66, hes66, hez66, hrn66, hts66, hlen1, H⟩ := HI.open hgo66.2.2.2.2
        obtain ⟨L66, hL66⟩ : ∃ L : List Ob, L = ((p, ty, [] ++ [.int .i16 v, .int .i32 n1, .bool n3, .int .i32 n6, .int .i64 n8, .int .i8 n11, c14, .slice none 0 0, .slice none 0 0, .map none] ++ []) :: []) := ⟨_, rfl⟩
        rw [← hL66] at H hpL66
        obtain ⟨P66, hP66⟩ : ∃ P : World → Prop, P = fun w => (∀ (j : Nat) (c : List Value) (y : T), es66[j]? = some c → ts66[j]? = some y → elQ true 8 10 dLeaderAndISRRequestTopicState ⟨w, FG w0 G0⟩ c y) ∧ P64 w := ⟨_, rfl⟩
        rw [← hP66] at H
        replace H : St w0 G0 p pb si66 ((g66, 72, es66.flatten ++ [str [], .int .u8 0, .int .u8 0, .int .u8 0, .int .u8 0, .int .u8 0, .int .u8 0, .int .u8 0, .int .u8 0, .int .u8 0, .int .u8 0, .int .u8 0, .int .u8 0, .int .u8 0, .int .u8 0, .int .u8 0, .int .u8 0, .slice none 0 0, .map none] ++ ((List.replicate (n66.toNat - (i66 + 1)) [str [], .int .u8 0, .int .u8 0, .int .u8 0, .int .u8 0, .int .u8 0, .int .u8 0, .int .u8 0, .int .u8 0, .int .u8 0, .int .u8 0, .int .u8 0, .int .u8 0, .int .u8 0, .int .u8 0, .int .u8 0, .int .u8 0, .slice none 0 0, .map none]).flatten ++ post66)) :: L66) P66 w := H
        ((conv=>whnf);repeat((first|refine mvT ?_|refine mvF ?_|refine yT ?_|refine yF ?_);conv=>whnf))
        refine ⟨g66, 0, rfl, ⟨by omega, by omega⟩, ?_⟩
        ((conv=>whnf);repeat((first|refine mvT ?_|refine mvF ?_|refine yT ?_|refine yF ?_);conv=>whnf))
        refine Does.mono (dfLeaderAndISRRequestTopicState (pre := es66.flatten) (cur := [str [], .int .u8 0, .int .u8 0, .int .u8 0, .int .u8 0, .int .u8 0, .int .u8 0, .int .u8 0, .int .u8 0, .int .u8 0, .int .u8 0, .int .u8 0, .int .u8 0, .int .u8 0, .int .u8 0, .int .u8 0, .int .u8 0, .slice none 0 0, .map none]) (post := ((List.replicate (n66.toNat - (i66 + 1)) [str [], .int .u8 0, .int .u8 0, .int .u8 0, .int .u8 0, .int .u8 0, .int .u8 0, .int .u8 0, .int .u8 0, .int .u8 0, .int .u8 0, .int .u8 0, .int .u8 0, .int .u8 0, .int .u8 0, .int .u8 0, .int .u8 0, .slice none 0 0, .map none]).flatten ++ post66)) H.head (by first | (rw [hlen1]; simp; done) | (simp [hlen1]; done) | (simp [hlen1]; omega)) rfl) ?_
        rintro rd w2 ⟨hdf, hxd⟩
        replace H := H.put hdf hxd
        clear hdf hxd
        replace H : St w0 G0 p pb si66 ((g66, 72, es66.flatten ++ [str [], .int .u8 0, .int .u8 0, .int .u8 0, .int .u8 0, .int .u8 0, .int .u8 0, .int .u8 0, .int .u8 0, .int .u8 0, .int .u8 0, .int .u8 0, .int .u8 0, .int .u8 0, .int .u8 0, .int .u8 0, .int .u8 0, .slice none 0 0, .map none] ++ ((List.replicate (n66.toNat - (i66 + 1)) [str [], .int .u8 0, .int .u8 0, .int .u8 0, .int .u8 0, .int .u8 0, .int .u8 0, .int .u8 0, .int .u8 0, .int .u8 0, .int .u8 0, .int .u8 0, .int .u8 0, .int .u8 0, .int .u8 0, .int .u8 0, .int .u8 0, .slice none 0 0, .map none]).flatten ++ post66)) :: L66) P66 w2 := H
        ((conv=>whnf);repeat((first|refine mvT ?_|refine mvF ?_|refine yT ?_|refine yF ?_);conv=>whnf))
        have hup66 : tailBad 8 v fx dLeaderAndISRRequestTopicState dLeaderAndISRRequestTopicState si66 = true → (rdPart 9 v fx dLeaderAndISRRequest (l, false)).2.2 = true := by
          intro hb
          refine hup0 ?_
          rw [tail_yes (rdField3.trans hr1) ⟨by decide, has_all hv⟩, tail_ver hr3 (by decide), tail_yes (rdField3.trans hr6) ⟨by decide, has_all hv⟩, tail_ver hr8 (by decide), tail_ver hr11 (by decide), tail_ver hr14 (by decide), tail_el ⟨by decide, hh⟩ hln66 hgo66.2.2.2.2 hrn66 ((tailBad_part _ _ _ _ _).symm.trans hb)]
        (refine mvB ?_;((conv=>whnf);repeat((first|refine mvT ?_|refine mvF ?_|refine yT ?_|refine yF ?_);conv=>whnf)))
        refine VC.cutE (fun q : List UInt8 × Rd => [(56, str q.1), (0, .pointer (some ⟨p, 0, none⟩)), (2, .bool uns), (7, .pointer (some ⟨pb, 0, none⟩)), (8, .int .i16 v), (9, .bool fx), (10, .pointer (some ⟨p, 0, none⟩)), (52, .int .i32 n66), (51, .slice (some ⟨g66, 0, none⟩) n66.toNat cap66), (53, .int .i32 i66), (54, .pointer (some ⟨g66, 0 + (i66 : Int).toNat * 19, none⟩)), (55, .pointer (some ⟨g66, 0 + (i66 : Int).toNat * 19, none⟩))]) (fun q w' => rdTx fx si66 = q ∧ St w0 G0 p pb q.2 ((g66, 72, es66.flatten ++ [str [], .int .u8 0, .int .u8 0, .int .u8 0, .int .u8 0, .int .u8 0, .int .u8 0, .int .u8 0, .int .u8 0, .int .u8 0, .int .u8 0, .int .u8 0, .int .u8 0, .int .u8 0, .int .u8 0, .int .u8 0, .int .u8 0, .slice none 0 0, .map none] ++ ((List.replicate (n66.toNat - (i66 + 1)) [str [], .int .u8 0, .int .u8 0, .int .u8 0, .int .u8 0, .int .u8 0, .int .u8 0, .int .u8 0, .int .u8 0, .int .u8 0, .int .u8 0, .int .u8 0, .int .u8 0, .int .u8 0, .int .u8 0, .int .u8 0, .int .u8 0, .slice none 0 0, .map none]).flatten ++ post66)) :: L66) P66 w') ?_ ?_
        · refine cI (by rfl) (fun hu=>?_) (fun hu=>?_)
          · ((conv=>whnf);repeat((first|refine mvT ?_|refine mvF ?_|refine yT ?_|refine yF ?_);conv=>whnf))
            (refine mvB ?_;((conv=>whnf);repeat((first|refine mvT ?_|refine mvF ?_|refine yT ?_|refine yF ?_);conv=>whnf)))
            refine cI (by rfl) (fun hc=>?_) (fun hc=>?_)
            · ((conv=>whnf);repeat((first|refine mvT ?_|refine mvF ?_|refine yT ?_|refine yF ?_);conv=>whnf))
              refine Does.mono H.utxc ?_
              rintro r w ⟨u, s', rfl, hr, H⟩
              ((conv=>whnf);repeat((first|refine mvT ?_|refine mvF ?_|refine yT ?_|refine yF ?_);conv=>whnf))
              exact ⟨(u, s'), ⟨rfl, rfl, rfl, rfl, rfl, rfl, rfl, rfl, rfl, rfl, rfl, rfl, trivial⟩, by rw [hc]; exact hr, H⟩
            · ((conv=>whnf);repeat((first|refine mvT ?_|refine mvF ?_|refine yT ?_|refine yF ?_);conv=>whnf))
              refine Does.mono H.utxp ?_
              rintro r w ⟨u, s', rfl, hr, H⟩
              ((conv=>whnf);repeat((first|refine mvT ?_|refine mvF ?_|refine yT ?_|refine yF ?_);conv=>whnf))
              exact ⟨(u, s'), ⟨rfl, rfl, rfl, rfl, rfl, rfl, rfl, rfl, rfl, rfl, rfl, rfl, trivial⟩, by rw [hc]; exact hr, H⟩
          · ((conv=>whnf);repeat((first|refine mvT ?_|refine mvF ?_|refine yT ?_|refine yF ?_);conv=>whnf))
            (refine mvB ?_;((conv=>whnf);repeat((first|refine mvT ?_|refine mvF ?_|refine yT ?_|refine yF ?_);conv=>whnf)))
            refine cI (by rfl) (fun hc=>?_) (fun hc=>?_)
            · ((conv=>whnf);repeat((first|refine mvT ?_|refine mvF ?_|refine yT ?_|refine yF ?_);conv=>whnf))
              refine Does.mono H.txc ?_
              rintro r w ⟨u, s', rfl, hr, H⟩
              ((conv=>whnf);repeat((first|refine mvT ?_|refine mvF ?_|refine yT ?_|refine yF ?_);conv=>whnf))
              exact ⟨(u, s'), ⟨rfl, rfl, rfl, rfl, rfl, rfl, rfl, rfl, rfl, rfl, rfl, rfl, trivial⟩, by rw [hc]; exact hr, H⟩
            · ((conv=>whnf);repeat((first|refine mvT ?_|refine mvF ?_|refine yT ?_|refine yF ?_);conv=>whnf))
              refine Does.mono H.txp ?_
              rintro r w ⟨u, s', rfl, hr, H⟩
              ((conv=>whnf);repeat((first|refine mvT ?_|refine mvF ?_|refine yT ?_|refine yF ?_);conv=>whnf))
              exact ⟨(u, s'), ⟨rfl, rfl, rfl, rfl, rfl, rfl, rfl, rfl, rfl, rfl, rfl, rfl, trivial⟩, by rw [hc]; exact hr, H⟩
        clear H
        rintro ⟨u67, s67⟩ w ⟨hr67, H⟩
        dsimp only at hr67 H
        ((conv=>whnf);repeat((first|refine mvT ?_|refine mvF ?_|refine yT ?_|refine yF ?_);conv=>whnf))
        refine H.st1 (v := str u67) 0 (rfl) (rfl) rfl (by first | omega | (simp [hlen1]; done) | (simp [hlen1]; omega)) rfl (Nat.lt_of_lt_of_le (Nat.lt_succ_self _) (Nat.le_of_ble_eq_true rfl)) ?_
        intro w H
        ((conv=>whnf);repeat((first|refine mvT ?_|refine mvF ?_|refine yT ?_|refine yF ?_);conv=>whnf))
        replace H : St w0 G0 p pb s67 ((g66, 72, es66.flatten ++ [str u67, .int .u8 0, .int .u8 0, .int .u8 0, .int .u8 0, .int .u8 0, .int .u8 0, .int .u8 0, .int .u8 0, .int .u8 0, .int .u8 0, .int .u8 0, .int .u8 0, .int .u8 0, .int .u8 0, .int .u8 0, .int .u8 0, .slice none 0 0, .map none] ++ ((List.replicate (n66.toNat - (i66 + 1)) [str [], .int .u8 0, .int .u8 0, .int .u8 0, .int .u8 0, .int .u8 0, .int .u8 0, .int .u8 0, .int .u8 0, .int .u8 0, .int .u8 0, .int .u8 0, .int .u8 0, .int .u8 0, .int .u8 0, .int .u8 0, .int .u8 0, .slice none 0 0, .map none]).flatten ++ post66)) :: L66) P66 w := H
        refine VC.cutE (fun q : List UInt8 × Rd => [(0, .pointer (some ⟨p, 0, none⟩)), (2, .bool uns), (7, .pointer (some ⟨pb, 0, none⟩)), (8, .int .i16 v), (9, .bool fx), (10, .pointer (some ⟨p, 0, none⟩)), (52, .int .i32 n66), (51, .slice (some ⟨g66, 0, none⟩) n66.toNat cap66), (53, .int .i32 i66), (54, .pointer (some ⟨g66, 0 + (i66 : Int).toNat * 19, none⟩)), (55, .pointer (some ⟨g66, 0 + (i66 : Int).toNat * 19, none⟩))]) (fun q w' => q.1.length = 16 ∧ (if hasF (.mk 7 5 (-1) (-1) (-1) 0 0 []) v = true then rdField 8 v fx (.mk 7 5 (-1) (-1) (-1) 0 0 []) s67 else (dfT 8 (.mk 7 5 (-1) (-1) (-1) 0 0 []), s67)) = (.mk 0 q.1 false [] [], q.2) ∧ St w0 G0 p pb q.2 ((g66, 72, es66.flatten ++ ([str u67] ++ (q.1.map bcell ++ [.slice none 0 0, .map none])) ++ ((List.replicate (n66.toNat - (i66 + 1)) [str [], .int .u8 0, .int .u8 0, .int .u8 0, .int .u8 0, .int .u8 0, .int .u8 0, .int .u8 0, .int .u8 0, .int .u8 0, .int .u8 0, .int .u8 0, .int .u8 0, .int .u8 0, .int .u8 0, .int .u8 0, .int .u8 0, .slice none 0 0, .map none]).flatten ++ post66)) :: L66) P66 w') ?_ ?_
        · refine cI (by rfl) (fun hcv=>?_) (fun hcv=>?_)
          · ((conv=>whnf);repeat((first|refine mvT ?_|refine mvF ?_|refine yT ?_|refine yF ?_);conv=>whnf))
            refine Does.mono H.uuid ?_
            rintro r w ⟨u70, s70, rfl, hu70, hr70, H⟩
            ((conv=>whnf);repeat((first|refine mvT ?_|refine mvF ?_|refine yT ?_|refine yF ?_);conv=>whnf))
            obtain ⟨u70_0, u70_1, u70_2, u70_3, u70_4, u70_5, u70_6, u70_7, u70_8, u70_9, u70_10, u70_11, u70_12, u70_13, u70_14, u70_15, rfl⟩ : ∃ u70_0 u70_1 u70_2 u70_3 u70_4 u70_5 u70_6 u70_7 u70_8 u70_9 u70_10 u70_11 u70_12 u70_13 u70_14 u70_15, u70 = [u70_0, u70_1, u70_2, u70_3, u70_4, u70_5, u70_6, u70_7, u70_8, u70_9, u70_10, u70_11, u70_12, u70_13, u70_14, u70_15] := by
              match u70, hu70 with
              | [u70_0, u70_1, u70_2, u70_3, u70_4, u70_5, u70_6, u70_7, u70_8, u70_9, u70_10, u70_11, u70_12, u70_13, u70_14, u70_15], _ => exact ⟨u70_0, u70_1, u70_2, u70_3, u70_4, u70_5, u70_6, u70_7, u70_8, u70_9, u70_10, u70_11, u70_12, u70_13, u70_14, u70_15, rfl⟩
            intro bu wu hbu hou hxu
            ((conv=>whnf);repeat((first|refine mvT ?_|refine mvF ?_|refine yT ?_|refine yF ?_);conv=>whnf))
            refine st_all [bcell u70_0, bcell u70_1, bcell u70_2, bcell u70_3, bcell u70_4, bcell u70_5, bcell u70_6, bcell u70_7, bcell u70_8, bcell u70_9, bcell u70_10, bcell u70_11, bcell u70_12, bcell u70_13, bcell u70_14, bcell u70_15] hou rfl rfl rfl ?_
            intro w2 hou hxs
            ((conv=>whnf);repeat((first|refine mvT ?_|refine mvF ?_|refine yT ?_|refine yF ?_);conv=>whnf))
            replace H := H.e0 (hxu.trans hxs (M := nob) fun k hk e => by omega)
            refine ⟨_, rfl, hou.cells, ?_⟩
            ((conv=>whnf);repeat((first|refine mvT ?_|refine mvF ?_|refine yT ?_|refine yF ?_);conv=>whnf))
            refine H.stn [bcell u70_0, bcell u70_1, bcell u70_2, bcell u70_3, bcell u70_4, bcell u70_5, bcell u70_6, bcell u70_7, bcell u70_8, bcell u70_9, bcell u70_10, bcell u70_11, bcell u70_12, bcell u70_13, bcell u70_14, bcell u70_15] 1 rfl rfl rfl (by first | omega | (simp [hlen1]; done) | (simp [hlen1]; omega)) rfl (Nat.le_of_ble_eq_true rfl) ?_
            intro w H
            ((conv=>whnf);repeat((first|refine mvT ?_|refine mvF ?_|refine yT ?_|refine yF ?_);conv=>whnf))
            replace H : St w0 G0 p pb s70 ((g66, 72, es66.flatten ++ [str u67, bcell u70_0, bcell u70_1, bcell u70_2, bcell u70_3, bcell u70_4, bcell u70_5, bcell u70_6, bcell u70_7, bcell u70_8, bcell u70_9, bcell u70_10, bcell u70_11, bcell u70_12, bcell u70_13, bcell u70_14, bcell u70_15, .slice none 0 0, .map none] ++ ((List.replicate (n66.toNat - (i66 + 1)) [str [], .int .u8 0, .int .u8 0, .int .u8 0, .int .u8 0, .int .u8 0, .int .u8 0, .int .u8 0, .int .u8 0, .int .u8 0, .int .u8 0, .int .u8 0, .int .u8 0, .int .u8 0, .int .u8 0, .int .u8 0, .int .u8 0, .slice none 0 0, .map none]).flatten ++ post66)) :: L66) P66 w := H
            have hh : hasF (.mk 7 5 (-1) (-1) (-1) 0 0 []) v = true := by have := of_decide_eq_true hcv; rw [hasF_iff]; omega
            exact ⟨([u70_0, u70_1, u70_2, u70_3, u70_4, u70_5, u70_6, u70_7, u70_8, u70_9, u70_10, u70_11, u70_12, u70_13, u70_14, u70_15], s70), ⟨rfl, rfl, rfl, rfl, rfl, rfl, rfl, rfl, rfl, rfl, rfl, trivial⟩, rfl, by rw [if_pos hh]; exact (rdField7.trans hr70), H⟩
          · ((conv=>whnf);repeat((first|refine mvT ?_|refine mvF ?_|refine yT ?_|refine yF ?_);conv=>whnf))
            have hh : ¬ hasF (.mk 7 5 (-1) (-1) (-1) 0 0 []) v = true := by have := of_decide_eq_false hcv; rw [hasF_iff]; omega
            exact ⟨(List.replicate 16 0, s67), ⟨rfl, rfl, rfl, rfl, rfl, rfl, rfl, rfl, rfl, rfl, rfl, trivial⟩, rfl, by rw [if_neg hh]; rfl, H⟩
        clear H
        rintro ⟨u69, s69⟩ w ⟨hu69, hr69, H⟩
        dsimp only at hu69 hr69 H
        obtain ⟨u69_0, u69_1, u69_2, u69_3, u69_4, u69_5, u69_6, u69_7, u69_8, u69_9, u69_10, u69_11, u69_12, u69_13, u69_14, u69_15, rfl⟩ : ∃ u69_0 u69_1 u69_2 u69_3 u69_4 u69_5 u69_6 u69_7 u69_8 u69_9 u69_10 u69_11 u69_12 u69_13 u69_14 u69_15, u69 = [u69_0, u69_1, u69_2, u69_3, u69_4, u69_5, u69_6, u69_7, u69_8, u69_9, u69_10, u69_11, u69_12, u69_13, u69_14, u69_15] := by
          match u69, hu69 with
          | [u69_0, u69_1, u69_2, u69_3, u69_4, u69_5, u69_6, u69_7, u69_8, u69_9, u69_10, u69_11, u69_12, u69_13, u69_14, u69_15], _ => exact ⟨u69_0, u69_1, u69_2, u69_3, u69_4, u69_5, u69_6, u69_7, u69_8, u69_9, u69_10, u69_11, u69_12, u69_13, u69_14, u69_15, rfl⟩
        ((conv=>whnf);repeat((first|refine mvT ?_|refine mvF ?_|refine yT ?_|refine yF ?_);conv=>whnf))
        replace H : St w0 G0 p pb s69 ((g66, 72, es66.flatten ++ [str u67, bcell u69_0, bcell u69_1, bcell u69_2, bcell u69_3, bcell u69_4, bcell u69_5, bcell u69_6, bcell u69_7, bcell u69_8, bcell u69_9, bcell u69_10, bcell u69_11, bcell u69_12, bcell u69_13, bcell u69_14, bcell u69_15, .slice none 0 0, .map none] ++ ((List.replicate (n66.toNat - (i66 + 1)) [str [], .int .u8 0, .int .u8 0, .int .u8 0, .int .u8 0, .int .u8 0, .int .u8 0, .int .u8 0, .int .u8 0, .int .u8 0, .int .u8 0, .int .u8 0, .int .u8 0, .int .u8 0, .int .u8 0, .int .u8 0, .int .u8 0, .slice none 0 0, .map none]).flatten ++ post66)) :: L66) P66 w := H
        refine ⟨_, ld (H.cell rfl (k := 17) rfl) (by first | omega | (simp [hlen1]; done) | (simp [hlen1]; omega)), ?_⟩; ((conv=>whnf);repeat((first|refine mvT ?_|refine mvF ?_|refine yT ?_|refine yF ?_);conv=>whnf))
        (refine mvB ?_;((conv=>whnf);repeat((first|refine mvT ?_|refine mvF ?_|refine yT ?_|refine yF ?_);conv=>whnf)))
        refine VC.cutE (fun q : Int × Rd => [(60, .int .i32 q.1), (59, .slice none 0 0), (0, .pointer (some ⟨p, 0, none⟩)), (2, .bool uns), (7, .pointer (some ⟨pb, 0, none⟩)), (8, .int .i16 v), (9, .bool fx), (10, .pointer (some ⟨p, 0, none⟩)), (52, .int .i32 n66), (51, .slice (some ⟨g66, 0, none⟩) n66.toNat cap66), (53, .int .i32 i66), (54, .pointer (some ⟨g66, 0 + (i66 : Int).toNat * 19, none⟩)), (55, .pointer (some ⟨g66, 0 + (i66 : Int).toNat * 19, none⟩))]) (fun q w' => (-2147483648 ≤ q.1 ∧ q.1 ≤ 2147483647) ∧ rdLn fx s69 = q ∧ St w0 G0 p pb q.2 ((g66, 72, es66.flatten ++ [str u67, bcell u69_0, bcell u69_1, bcell u69_2, bcell u69_3, bcell u69_4, bcell u69_5, bcell u69_6, bcell u69_7, bcell u69_8, bcell u69_9, bcell u69_10, bcell u69_11, bcell u69_12, bcell u69_13, bcell u69_14, bcell u69_15, .slice none 0 0, .map none] ++ ((List.replicate (n66.toNat - (i66 + 1)) [str [], .int .u8 0, .int .u8 0, .int .u8 0, .int .u8 0, .int .u8 0, .int .u8 0, .int .u8 0, .int .u8 0, .int .u8 0, .int .u8 0, .int .u8 0, .int .u8 0, .int .u8 0, .int .u8 0, .int .u8 0, .int .u8 0, .slice none 0 0, .map none]).flatten ++ post66)) :: L66) P66 w') ?_ ?_
        · refine cI (by rfl) (fun hc=>?_) (fun hc=>?_)
          · ((conv=>whnf);repeat((first|refine mvT ?_|refine mvF ?_|refine yT ?_|refine yF ?_);conv=>whnf))
            refine Does.mono H.lnc ?_
            rintro r w ⟨n, s', rfl, hn, hr, H⟩
            ((conv=>whnf);repeat((first|refine mvT ?_|refine mvF ?_|refine yT ?_|refine yF ?_);conv=>whnf))
            exact ⟨(n, s'), ⟨rfl, rfl, rfl, rfl, rfl, rfl, rfl, rfl, rfl, rfl, rfl, rfl, rfl, trivial⟩, hn, by rw [hc]; exact hr, H⟩
          · ((conv=>whnf);repeat((first|refine mvT ?_|refine mvF ?_|refine yT ?_|refine yF ?_);conv=>whnf))
            refine Does.mono H.lnp ?_
            rintro r w ⟨n, s', rfl, hn, hr, H⟩
            ((conv=>whnf);repeat((first|refine mvT ?_|refine mvF ?_|refine yT ?_|refine yF ?_);conv=>whnf))
            exact ⟨(n, s'), ⟨rfl, rfl, rfl, rfl, rfl, rfl, rfl, rfl, rfl, rfl, rfl, rfl, rfl, trivial⟩, hn, by rw [hc]; exact hr, H⟩
        clear H
        rintro ⟨n73, s73⟩ w ⟨hn73, hln73, H⟩
        dsimp only at hn73 hln73 H
        ((conv=>whnf);repeat((first|refine mvT ?_|refine mvF ?_|refine yT ?_|refine yF ?_);conv=>whnf))
        refine Does.mono H.ok ?_
        rintro r w ⟨rfl, H⟩
        ((conv=>whnf);repeat((first|refine mvT ?_|refine mvF ?_|refine yT ?_|refine yF ?_);conv=>whnf))
        refine cI (by rfl) (fun hbd=>?_) (fun hbd=>?_)
        · have hbd : s73.2 = true := by simpa using hbd
          ((conv=>whnf);repeat((first|refine mvT ?_|refine mvF ?_|refine yT ?_|refine yF ?_);conv=>whnf))
          refine Does.mono (H.done hL hp1) ?_
          rintro r w ⟨rfl, H⟩
          ((conv=>whnf);repeat((first|refine mvT ?_|refine mvF ?_|refine yT ?_|refine yF ?_);conv=>whnf))
          refine RdPost.early hbd (hup66 (?_)) H
          rw [tail_yes (rdField8 (by decide) hr67) ⟨by decide, has_all hv⟩, tail_ver hr69 (by decide), tail_len ⟨by decide, has_all hv⟩ hln73 hbd]
        have hbd : s73.2 = false := by simpa using hbd
        clear hbd
        ((conv=>whnf);repeat((first|refine mvT ?_|refine mvF ?_|refine yT ?_|refine yF ?_);conv=>whnf))
        refine cut_zero ?_
        ((conv=>whnf);repeat((first|refine mvT ?_|refine mvF ?_|refine yT ?_|refine yF ?_);conv=>whnf))
        refine VC.cutE (fun a : Value => [(60, .int .i32 n73), (59, a), (0, .pointer (some ⟨p, 0, none⟩)), (2, .bool uns), (7, .pointer (some ⟨pb, 0, none⟩)), (8, .int .i16 v), (9, .bool fx), (10, .pointer (some ⟨p, 0, none⟩)), (52, .int .i32 n66), (51, .slice (some ⟨g66, 0, none⟩) n66.toNat cap66), (53, .int .i32 i66), (54, .pointer (some ⟨g66, 0 + (i66 : Int).toNat * 19, none⟩)), (55, .pointer (some ⟨g66, 0 + (i66 : Int).toNat * 19, none⟩))]) (fun a w' => ListI w0 G0 p pb 67 [str [], .int .i32 0, .int .i32 0, .int .i32 0, .int .i32 0, .slice none 0 0, .int .i32 0, .slice none 0 0, .slice none 0 0, .slice none 0 0, .bool false, .int .i8 0, .map none] (elR 7 v fx 10 dLeaderAndISRRequestTopicPartition) (elQ true 7 10 dLeaderAndISRRequestTopicPartition) s73 n73 (decide (n73 ≤ 0)) ((g66, 72, es66.flatten ++ [str u67, bcell u69_0, bcell u69_1, bcell u69_2, bcell u69_3, bcell u69_4, bcell u69_5, bcell u69_6, bcell u69_7, bcell u69_8, bcell u69_9, bcell u69_10, bcell u69_11, bcell u69_12, bcell u69_13, bcell u69_14, bcell u69_15, .slice none 0 0, .map none] ++ ((List.replicate (n66.toNat - (i66 + 1)) [str [], .int .u8 0, .int .u8 0, .int .u8 0, .int .u8 0, .int .u8 0, .int .u8 0, .int .u8 0, .int .u8 0, .int .u8 0, .int .u8 0, .int .u8 0, .int .u8 0, .int .u8 0, .int .u8 0, .int .u8 0, .int .u8 0, .slice none 0 0, .map none]).flatten ++ post66)) :: L66) P66 a 0 w') ?_ ?_
        · refine cI (by rfl) (fun hps=>?_) (fun hps=>?_)
          · have hps : 0 < n73 := by have := of_decide_eq_true hps; omega
            ((conv=>whnf);repeat((first|refine mvT ?_|refine mvF ?_|refine yT ?_|refine yF ?_);conv=>whnf))
            refine H.grow hps hn73.2 (by decide) rfl rfl (by decide) ?_
            intro g cap post w hc1 hc2 H
            ((conv=>whnf);repeat((first|refine mvT ?_|refine mvF ?_|refine yT ?_|refine yF ?_);conv=>whnf))
            exact ⟨_, ⟨rfl, rfl, rfl, rfl, rfl, rfl, rfl, rfl, rfl, rfl, rfl, rfl, rfl, trivial⟩, ListI.some hps (decide_eq_false (by omega)) hc1 hc2 H⟩
          · have hps : n73 ≤ 0 := by have := of_decide_eq_false hps; omega
            ((conv=>whnf);repeat((first|refine mvT ?_|refine mvF ?_|refine yT ?_|refine yF ?_);conv=>whnf))
            exact ⟨_, ⟨rfl, rfl, rfl, rfl, rfl, rfl, rfl, rfl, rfl, rfl, rfl, rfl, rfl, trivial⟩, ListI.none hps (decide_eq_true hps) H⟩
        clear H
        rintro a73 w H
        ((conv=>whnf);repeat((first|refine mvT ?_|refine mvF ?_|refine yT ?_|refine yF ?_);conv=>whnf))
        have hpL73 : inL ((g66, 72, es66.flatten ++ [str u67, bcell u69_0, bcell u69_1, bcell u69_2, bcell u69_3, bcell u69_4, bcell u69_5, bcell u69_6, bcell u69_7, bcell u69_8, bcell u69_9, bcell u69_10, bcell u69_11, bcell u69_12, bcell u69_13, bcell u69_14, bcell u69_15, .slice none 0 0, .map none] ++ ((List.replicate (n66.toNat - (i66 + 1)) [str [], .int .u8 0, .int .u8 0, .int .u8 0, .int .u8 0, .int .u8 0, .int .u8 0, .int .u8 0, .int .u8 0, .int .u8 0, .int .u8 0, .int .u8 0, .int .u8 0, .int .u8 0, .int .u8 0, .int .u8 0, .int .u8 0, .slice none 0 0, .map none]).flatten ++ post66)) :: L66) p := inL.tail hpL66
        refine VL.loop (fun i : Nat => [(60, .int .i32 n73), (59, a73), (61, .int .i32 i), (0, .pointer (some ⟨p, 0, none⟩)), (2, .bool uns), (7, .pointer (some ⟨pb, 0, none⟩)), (8, .int .i16 v), (9, .bool fx), (10, .pointer (some ⟨p, 0, none⟩)), (52, .int .i32 n66), (51, .slice (some ⟨g66, 0, none⟩) n66.toNat cap66), (53, .int .i32 i66), (54, .pointer (some ⟨g66, 0 + (i66 : Int).toNat * 19, none⟩)), (55, .pointer (some ⟨g66, 0 + (i66 : Int).toNat * 19, none⟩))]) (fun i w' => i ≤ 2147483647 ∧ ListI w0 G0 p pb 67 [str [], .int .i32 0, .int .i32 0, .int .i32 0, .int .i32 0, .slice none 0 0, .int .i32 0, .slice none 0 0, .slice none 0 0, .slice none 0 0, .bool false, .int .i8 0, .map none] (elR 7 v fx 10 dLeaderAndISRRequestTopicPartition) (elQ true 7 10 dLeaderAndISRRequestTopicPartition) s73 n73 (decide (n73 ≤ 0)) ((g66, 72, es66.flatten ++ [str u67, bcell u69_0, bcell u69_1, bcell u69_2, bcell u69_3, bcell u69_4, bcell u69_5, bcell u69_6, bcell u69_7, bcell u69_8, bcell u69_9, bcell u69_10, bcell u69_11, bcell u69_12, bcell u69_13, bcell u69_14, bcell u69_15, .slice none 0 0, .map none] ++ ((List.replicate (n66.toNat - (i66 + 1)) [str [], .int .u8 0, .int .u8 0, .int .u8 0, .int .u8 0, .int .u8 0, .int .u8 0, .int .u8 0, .int .u8 0, .int .u8 0, .int .u8 0, .int .u8 0, .int .u8 0, .int .u8 0, .int .u8 0, .int .u8 0, .int .u8 0, .slice none 0 0, .map none]).flatten ++ post66)) :: L66) P66 a73 i w') (fun i => n73.toNat - i) 0 ⟨rfl, rfl, rfl, rfl, rfl, rfl, rfl, rfl, rfl, rfl, rfl, rfl, rfl, rfl, trivial⟩ ⟨by decide, H⟩ ?_
        clear H
        rintro i73 w ⟨hi73, H⟩
        ((conv=>whnf);repeat((first|refine mvT ?_|refine mvF ?_|refine yT ?_|refine yF ?_);conv=>whnf))
        refine cI (by rfl) (fun h9=>?_) (fun h9=>?_)
        · have hlt73 : (i73 : Int) < n73 := of_decide_eq_true h9
          obtain ⟨g73, cap73, post73, rfl, hgo73, HI⟩ := H.go hlt73
          obtain ⟨es73, ts73, si73, hes73, hez73, hrn73, hts73, hlen2, H⟩ := HI.open hgo73.2.2.2.2
          obtain ⟨L73, hL73⟩ : ∃ L : List Ob, L = ((g66, 72, es66.flatten ++ [str u67, bcell u69_0, bcell u69_1, bcell u69_2, bcell u69_3, bcell u69_4, bcell u69_5, bcell u69_6, bcell u69_7, bcell u69_8, bcell u69_9, bcell u69_10, bcell u69_11, bcell u69_12, bcell u69_13, bcell u69_14, bcell u69_15, .slice none 0 0, .map none] ++ ((List.replicate (n66.toNat - (i66 + 1)) [str [], .int .u8 0, .int .u8 0, .int .u8 0, .int .u8 0, .int .u8 0, .int .u8 0, .int .u8 0, .int .u8 0, .int .u8 0, .int .u8 0, .int .u8 0, .int .u8 0, .int .u8 0, .int .u8 0, .int .u8 0, .int .u8 0, .slice none 0 0, .map none]).flatten ++ post66)) :: L66) := ⟨_, rfl⟩
          rw [← hL73] at H hpL73
          obtain ⟨P73, hP73⟩ : ∃ P : World → Prop, P = fun w => (∀ (j : Nat) (c : List Value) (y : T), es73[j]? = some c → ts73[j]? = some y → elQ true 7 10 dLeaderAndISRRequestTopicPartition ⟨w, FG w0 G0⟩ c y) ∧ P66 w := ⟨_, rfl⟩
          rw [← hP73] at H
          replace H : St w0 G0 p pb si73 ((g73, 67, es73.flatten ++ [str [], .int .i32 0, .int .i32 0, .int .i32 0, .int .i32 0, .slice none 0 0, .int .i32 0, .slice none 0 0, .slice none 0 0, .slice none 0 0, .bool false, .int .i8 0, .map none] ++ ((List.replicate (n73.toNat - (i73 + 1)) [str [], .int .i32 0, .int .i32 0, .int .i32 0, .int .i32 0, .slice none 0 0, .int .i32 0, .slice none 0 0, .slice none 0 0, .slice none 0 0, .bool false, .int .i8 0, .map none]).flatten ++ post73)) :: L73) P73 w := H
          ((conv=>whnf);repeat((first|refine mvT ?_|refine mvF ?_|refine yT ?_|refine yF ?_);conv=>whnf))
          refine ⟨g73, 0, rfl, ⟨by omega, by omega⟩, ?_⟩
          ((conv=>whnf);repeat((first|refine mvT ?_|refine mvF ?_|refine yT ?_|refine yF ?_);conv=>whnf))
          refine Does.mono (dfLeaderAndISRRequestTopicPartition (pre := es73.flatten) (cur := [str [], .int .i32 0, .int .i32 0, .int .i32 0, .int .i32 0, .slice none 0 0, .int .i32 0, .slice none 0 0, .slice none 0 0, .slice none 0 0, .bool false, .int .i8 0, .map none]) (post := ((List.replicate (n73.toNat - (i73 + 1)) [str [], .int .i32 0, .int .i32 0, .int .i32 0, .int .i32 0, .slice none 0 0, .int .i32 0, .slice none 0 0, .slice none 0 0, .slice none 0 0, .bool false, .int .i8 0, .map none]).flatten ++ post73)) H.head (by first | (rw [hlen2]; simp; done) | (simp [hlen2]; done) | (simp [hlen2]; omega)) rfl) ?_
          rintro rd w2 ⟨hdf, hxd⟩
          replace H := H.put hdf hxd
          clear hdf hxd
          replace H : St w0 G0 p pb si73 ((g73, 67, es73.flatten ++ [str [], .int .i32 0, .int .i32 0, .int .i32 0, .int .i32 0, .slice none 0 0, .int .i32 0, .slice none 0 0, .slice none 0 0, .slice none 0 0, .bool false, .int .i8 0, .map none] ++ ((List.replicate (n73.toNat - (i73 + 1)) [str [], .int .i32 0, .int .i32 0, .int .i32 0, .int .i32 0, .slice none 0 0, .int .i32 0, .slice none 0 0, .slice none 0 0, .slice none 0 0, .bool false, .int .i8 0, .map none]).flatten ++ post73)) :: L73) P73 w2 := H
          ((conv=>whnf);repeat((first|refine mvT ?_|refine mvF ?_|refine yT ?_|refine yF ?_);conv=>whnf))
          have hup73 : tailBad 7 v fx dLeaderAndISRRequestTopicPartition dLeaderAndISRRequestTopicPartition si73 = true → (rdPart 9 v fx dLeaderAndISRRequest (l, false)).2.2 = true := by
            intro hb
            refine hup66 ?_
            rw [tail_yes (rdField8 (by decide) hr67) ⟨by decide, has_all hv⟩, tail_ver hr69 (by decide), tail_el ⟨by decide, has_all hv⟩ hln73 hgo73.2.2.2.2 hrn73 ((tailBad_part _ _ _ _ _).symm.trans hb)]
          intro cq hcq
          obtain rfl : cq = true := by rw [← hcq]; exact decide_eq_true hv
          ((conv=>whnf);repeat((first|refine mvT ?_|refine mvF ?_|refine yT ?_|refine yF ?_);conv=>whnf))
          refine VC.cutE (fun q : List UInt8 × Rd => [(0, .pointer (some ⟨p, 0, none⟩)), (2, .bool uns), (7, .pointer (some ⟨pb, 0, none⟩)), (8, .int .i16 v), (9, .bool fx), (10, .pointer (some ⟨p, 0, none⟩)), (52, .int .i32 n66), (51, .slice (some ⟨g66, 0, none⟩) n66.toNat cap66), (53, .int .i32 i66), (54, .pointer (some ⟨g66, 0 + (i66 : Int).toNat * 19, none⟩)), (55, .pointer (some ⟨g66, 0 + (i66 : Int).toNat * 19, none⟩)), (60, .int .i32 n73), (59, .slice (some ⟨g73, 0, none⟩) n73.toNat cap73), (61, .int .i32 i73), (62, .pointer (some ⟨g73, 0 + (i73 : Int).toNat * 13, none⟩)), (63, .pointer (some ⟨g73, 0 + (i73 : Int).toNat * 13, none⟩))]) (fun q w' => (if hasF (.mk 8 0 1 (-1) (-1) 0 0 []) v = true then rdField 7 v fx (.mk 8 0 1 (-1) (-1) 0 0 []) si73 else (dfT 7 (.mk 8 0 1 (-1) (-1) 0 0 []), si73)) = (.mk 0 q.1 false [] [], q.2) ∧ St w0 G0 p pb q.2 ((g73, 67, es73.flatten ++ [str q.1, .int .i32 0, .int .i32 0, .int .i32 0, .int .i32 0, .slice none 0 0, .int .i32 0, .slice none 0 0, .slice none 0 0, .slice none 0 0, .bool false, .int .i8 0, .map none] ++ ((List.replicate (n73.toNat - (i73 + 1)) [str [], .int .i32 0, .int .i32 0, .int .i32 0, .int .i32 0, .slice none 0 0, .int .i32 0, .slice none 0 0, .slice none 0 0, .slice none 0 0, .bool false, .int .i8 0, .map none]).flatten ++ post73)) :: L73) P73 w') ?_ ?_
          · refine cI (by rfl) (fun hcv=>?_) (fun hcv=>?_)
            · ((conv=>whnf);repeat((first|refine mvT ?_|refine mvF ?_|refine yT ?_|refine yF ?_);conv=>whnf))
              (refine mvB ?_;((conv=>whnf);repeat((first|refine mvT ?_|refine mvF ?_|refine yT ?_|refine yF ?_);conv=>whnf)))
              refine VC.cutE (fun q : List UInt8 × Rd => [(64, str q.1), (0, .pointer (some ⟨p, 0, none⟩)), (2, .bool uns), (7, .pointer (some ⟨pb, 0, none⟩)), (8, .int .i16 v), (9, .bool fx), (10, .pointer (some ⟨p, 0, none⟩)), (52, .int .i32 n66), (51, .slice (some ⟨g66, 0, none⟩) n66.toNat cap66), (53, .int .i32 i66), (54, .pointer (some ⟨g66, 0 + (i66 : Int).toNat * 19, none⟩)), (55, .pointer (some ⟨g66, 0 + (i66 : Int).toNat * 19, none⟩)), (60, .int .i32 n73), (59, .slice (some ⟨g73, 0, none⟩) n73.toNat cap73), (61, .int .i32 i73), (62, .pointer (some ⟨g73, 0 + (i73 : Int).toNat * 13, none⟩)), (63, .pointer (some ⟨g73, 0 + (i73 : Int).toNat * 13, none⟩))]) (fun q w' => rdTx fx si73 = q ∧ St w0 G0 p pb q.2 ((g73, 67, es73.flatten ++ [str [], .int .i32 0, .int .i32 0, .int .i32 0, .int .i32 0, .slice none 0 0, .int .i32 0, .slice none 0 0, .slice none 0 0, .slice none 0 0, .bool false, .int .i8 0, .map none] ++ ((List.replicate (n73.toNat - (i73 + 1)) [str [], .int .i32 0, .int .i32 0, .int .i32 0, .int .i32 0, .slice none 0 0, .int .i32 0, .slice none 0 0, .slice none 0 0, .slice none 0 0, .bool false, .int .i8 0, .map none]).flatten ++ post73)) :: L73) P73 w') ?_ ?_
              · refine cI (by rfl) (fun hu=>?_) (fun hu=>?_)
                · ((conv=>whnf);repeat((first|refine mvT ?_|refine mvF ?_|refine yT ?_|refine yF ?_);conv=>whnf))
                  (refine mvB ?_;((conv=>whnf);repeat((first|refine mvT ?_|refine mvF ?_|refine yT ?_|refine yF ?_);conv=>whnf)))
                  refine cI (by rfl) (fun hc=>?_) (fun hc=>?_)
                  · ((conv=>whnf);repeat((first|refine mvT ?_|refine mvF ?_|refine yT ?_|refine yF ?_);conv=>whnf))
                    refine Does.mono H.utxc ?_
                    rintro r w ⟨u, s', rfl, hr, H⟩
                    ((conv=>whnf);repeat((first|refine mvT ?_|refine mvF ?_|refine yT ?_|refine yF ?_);conv=>whnf))
                    exact ⟨(u, s'), ⟨rfl, rfl, rfl, rfl, rfl, rfl, rfl, rfl, rfl, rfl, rfl, rfl, rfl, rfl, rfl, rfl, rfl, trivial⟩, by rw [hc]; exact hr, H⟩
                  · ((conv=>whnf);repeat((first|refine mvT ?_|refine mvF ?_|refine yT ?_|refine yF ?_);conv=>whnf))
                    refine Does.mono H.utxp ?_
                    rintro r w ⟨u, s', rfl, hr, H⟩
                    ((conv=>whnf);repeat((first|refine mvT ?_|refine mvF ?_|refine yT ?_|refine yF ?_);conv=>whnf))
                    exact ⟨(u, s'), ⟨rfl, rfl, rfl, rfl, rfl, rfl, rfl, rfl, rfl, rfl, rfl, rfl, rfl, rfl, rfl, rfl, rfl, trivial⟩, by rw [hc]; exact hr, H⟩
                · ((conv=>whnf);repeat((first|refine mvT ?_|refine mvF ?_|refine yT ?_|refine yF ?_);conv=>whnf))
                  (refine mvB ?_;((conv=>whnf);repeat((first|refine mvT ?_|refine mvF ?_|refine yT ?_|refine yF ?_);conv=>whnf)))
                  refine cI (by rfl) (fun hc=>?_) (fun hc=>?_)
                  · ((conv=>whnf);repeat((first|refine mvT ?_|refine mvF ?_|refine yT ?_|refine yF ?_);conv=>whnf))
                    refine Does.mono H.txc ?_
                    rintro r w ⟨u, s', rfl, hr, H⟩
                    ((conv=>whnf);repeat((first|refine mvT ?_|refine mvF ?_|refine yT ?_|refine yF ?_);conv=>whnf))
                    exact ⟨(u, s'), ⟨rfl, rfl, rfl, rfl, rfl, rfl, rfl, rfl, rfl, rfl, rfl, rfl, rfl, rfl, rfl, rfl, rfl, trivial⟩, by rw [hc]; exact hr, H⟩
                  · ((conv=>whnf);repeat((first|refine mvT ?_|refine mvF ?_|refine yT ?_|refine yF ?_);conv=>whnf))
                    refine Does.mono H.txp ?_
                    rintro r w ⟨u, s', rfl, hr, H⟩
                    ((conv=>whnf);repeat((first|refine mvT ?_|refine mvF ?_|refine yT ?_|refine yF ?_);conv=>whnf))
                    exact ⟨(u, s'), ⟨rfl, rfl, rfl, rfl, rfl, rfl, rfl, rfl, rfl, rfl, rfl, rfl, rfl, rfl, rfl, rfl, rfl, trivial⟩, by rw [hc]; exact hr, H⟩
              clear H
              rintro ⟨u75, s75⟩ w ⟨hr75, H⟩
              dsimp only at hr75 H
              ((conv=>whnf);repeat((first|refine mvT ?_|refine mvF ?_|refine yT ?_|refine yF ?_);conv=>whnf))
              refine H.st1 (v := str u75) 0 (rfl) (rfl) rfl (by first | omega | (simp [hlen2]; done) | (simp [hlen2]; omega)) rfl (Nat.lt_of_lt_of_le (Nat.lt_succ_self _) (Nat.le_of_ble_eq_true rfl)) ?_
              intro w H
              ((conv=>whnf);repeat((first|refine mvT ?_|refine mvF ?_|refine yT ?_|refine yF ?_);conv=>whnf))
              replace H : St w0 G0 p pb s75 ((g73, 67, es73.flatten ++ [str u75, .int .i32 0, .int .i32 0, .int .i32 0, .int .i32 0, .slice none 0 0, .int .i32 0, .slice none 0 0, .slice none 0 0, .slice none 0 0, .bool false, .int .i8 0, .map none] ++ ((List.replicate (n73.toNat - (i73 + 1)) [str [], .int .i32 0, .int .i32 0, .int .i32 0, .int .i32 0, .slice none 0 0, .int .i32 0, .slice none 0 0, .slice none 0 0, .slice none 0 0, .bool false, .int .i8 0, .map none]).flatten ++ post73)) :: L73) P73 w := H
              have hh : hasF (.mk 8 0 1 (-1) (-1) 0 0 []) v = true := by have := of_decide_eq_true hcv; rw [hasF_iff]; omega
              exact ⟨(u75, s75), ⟨rfl, rfl, rfl, rfl, rfl, rfl, rfl, rfl, rfl, rfl, rfl, rfl, rfl, rfl, rfl, rfl, trivial⟩, by rw [if_pos hh]; exact (rdField8 (by decide) hr75), H⟩
            · ((conv=>whnf);repeat((first|refine mvT ?_|refine mvF ?_|refine yT ?_|refine yF ?_);conv=>whnf))
              have hh : ¬ hasF (.mk 8 0 1 (-1) (-1) 0 0 []) v = true := by have := of_decide_eq_false hcv; rw [hasF_iff]; omega
              exact ⟨([], si73), ⟨rfl, rfl, rfl, rfl, rfl, rfl, rfl, rfl, rfl, rfl, rfl, rfl, rfl, rfl, rfl, rfl, trivial⟩, by rw [if_neg hh]; rfl, H⟩
          clear H
          rintro ⟨u74, s74⟩ w ⟨hr74, H⟩
          dsimp only at hr74 H
          ((conv=>whnf);repeat((first|refine mvT ?_|refine mvF ?_|refine yT ?_|refine yF ?_);conv=>whnf))
          replace H : St w0 G0 p pb s74 ((g73, 67, es73.flatten ++ [str u74, .int .i32 0, .int .i32 0, .int .i32 0, .int .i32 0, .slice none 0 0, .int .i32 0, .slice none 0 0, .slice none 0 0, .slice none 0 0, .bool false, .int .i8 0, .map none] ++ ((List.replicate (n73.toNat - (i73 + 1)) [str [], .int .i32 0, .int .i32 0, .int .i32 0, .int .i32 0, .slice none 0 0, .int .i32 0, .slice none 0 0, .slice none 0 0, .slice none 0 0, .bool false, .int .i8 0, .map none]).flatten ++ post73)) :: L73) P73 w := H
          refine Does.mono H.int32 ?_
          rintro r w ⟨n77, s77, rfl, hn77, hr77, H⟩
          ((conv=>whnf);repeat((first|refine mvT ?_|refine mvF ?_|refine yT ?_|refine yF ?_);conv=>whnf))
          refine H.st1 (v := .int .i32 n77) 1 (rfl) (rfl) rfl (by first | omega | (simp [hlen2]; done) | (simp [hlen2]; omega)) rfl (Nat.lt_of_lt_of_le (Nat.lt_succ_self _) (Nat.le_of_ble_eq_true rfl)) ?_
          intro w H
          ((conv=>whnf);repeat((first|refine mvT ?_|refine mvF ?_|refine yT ?_|refine yF ?_);conv=>whnf))
          replace H : St w0 G0 p pb s77 ((g73, 67, es73.flatten ++ [str u74, .int .i32 n77, .int .i32 0, .int .i32 0, .int .i32 0, .slice none 0 0, .int .i32 0, .slice none 0 0, .slice none 0 0, .slice none 0 0, .bool false, .int .i8 0, .map none] ++ ((List.replicate (n73.toNat - (i73 + 1)) [str [], .int .i32 0, .int .i32 0, .int .i32 0, .int .i32 0, .slice none 0 0, .int .i32 0, .slice none 0 0, .slice none 0 0, .slice none 0 0, .bool false, .int .i8 0, .map none]).flatten ++ post73)) :: L73) P73 w := H
          refine Does.mono H.int32 ?_
          rintro r w ⟨n79, s79, rfl, hn79, hr79, H⟩
          ((conv=>whnf);repeat((first|refine mvT ?_|refine mvF ?_|refine yT ?_|refine yF ?_);conv=>whnf))
          refine H.st1 (v := .int .i32 n79) 2 (rfl) (rfl) rfl (by first | omega | (simp [hlen2]; done) | (simp [hlen2]; omega)) rfl (Nat.lt_of_lt_of_le (Nat.lt_succ_self _) (Nat.le_of_ble_eq_true rfl)) ?_
          intro w H
          ((conv=>whnf);repeat((first|refine mvT ?_|refine mvF ?_|refine yT ?_|refine yF ?_);conv=>whnf))
          replace H : St w0 G0 p pb s79 ((g73, 67, es73.flatten ++ [str u74, .int .i32 n77, .int .i32 n79, .int .i32 0, .int .i32 0, .slice none 0 0, .int .i32 0, .slice none 0 0, .slice none 0 0, .slice none 0 0, .bool false, .int .i8 0, .map none] ++ ((List.replicate (n73.toNat - (i73 + 1)) [str [], .int .i32 0, .int .i32 0, .int .i32 0, .int .i32 0, .slice none 0 0, .int .i32 0, .slice none 0 0, .slice none 0 0, .slice none 0 0, .bool false, .int .i8 0, .map none]).flatten ++ post73)) :: L73) P73 w := H
          refine Does.mono H.int32 ?_
          rintro r w ⟨n81, s81, rfl, hn81, hr81, H⟩
          ((conv=>whnf);repeat((first|refine mvT ?_|refine mvF ?_|refine yT ?_|refine yF ?_);conv=>whnf))
          refine H.st1 (v := .int .i32 n81) 3 (rfl) (rfl) rfl (by first | omega | (simp [hlen2]; done) | (simp [hlen2]; omega)) rfl (Nat.lt_of_lt_of_le (Nat.lt_succ_self _) (Nat.le_of_ble_eq_true rfl)) ?_
          intro w H
          ((conv=>whnf);repeat((first|refine mvT ?_|refine mvF ?_|refine yT ?_|refine yF ?_);conv=>whnf))
          replace H : St w0 G0 p pb s81 ((g73, 67, es73.flatten ++ [str u74, .int .i32 n77, .int .i32 n79, .int .i32 n81, .int .i32 0, .slice none 0 0, .int .i32 0, .slice none 0 0, .slice none 0 0, .slice none 0 0, .bool false, .int .i8 0, .map none] ++ ((List.replicate (n73.toNat - (i73 + 1)) [str [], .int .i32 0, .int .i32 0, .int .i32 0, .int .i32 0, .slice none 0 0, .int .i32 0, .slice none 0 0, .slice none 0 0, .slice none 0 0, .bool false, .int .i8 0, .map none]).flatten ++ post73)) :: L73) P73 w := H
          refine Does.mono H.int32 ?_
          rintro r w ⟨n83, s83, rfl, hn83, hr83, H⟩
          ((conv=>whnf);repeat((first|refine mvT ?_|refine mvF ?_|refine yT ?_|refine yF ?_);conv=>whnf))
          refine H.st1 (v := .int .i32 n83) 4 (rfl) (rfl) rfl (by first | omega | (simp [hlen2]; done) | (simp [hlen2]; omega)) rfl (Nat.lt_of_lt_of_le (Nat.lt_succ_self _) (Nat.le_of_ble_eq_true rfl)) ?_
          intro w H
          ((conv=>whnf);repeat((first|refine mvT ?_|refine mvF ?_|refine yT ?_|refine yF ?_);conv=>whnf))
          replace H : St w0 G0 p pb s83 ((g73, 67, es73.flatten ++ [str u74, .int .i32 n77, .int .i32 n79, .int .i32 n81, .int .i32 n83, .slice none 0 0, .int .i32 0, .slice none 0 0, .slice none 0 0, .slice none 0 0, .bool false, .int .i8 0, .map none] ++ ((List.replicate (n73.toNat - (i73 + 1)) [str [], .int .i32 0, .int .i32 0, .int .i32 0, .int .i32 0, .slice none 0 0, .int .i32 0, .slice none 0 0, .slice none 0 0, .slice none 0 0, .bool false, .int .i8 0, .map none]).flatten ++ post73)) :: L73) P73 w := H
          refine ⟨_, ld (H.cell rfl (k := 5) rfl) (by first | omega | (simp [hlen2]; done) | (simp [hlen2]; omega)), ?_⟩; ((conv=>whnf);repeat((first|refine mvT ?_|refine mvF ?_|refine yT ?_|refine yF ?_);conv=>whnf))
          (refine mvB ?_;((conv=>whnf);repeat((first|refine mvT ?_|refine mvF ?_|refine yT ?_|refine yF ?_);conv=>whnf)))
          refine VC.cutE (fun q : Int × Rd => [(71, .int .i32 q.1), (70, .slice none 0 0), (0, .pointer (some ⟨p, 0, none⟩)), (2, .bool uns), (7, .pointer (some ⟨pb, 0, none⟩)), (8, .int .i16 v), (9, .bool fx), (10, .pointer (some ⟨p, 0, none⟩)), (52, .int .i32 n66), (51, .slice (some ⟨g66, 0, none⟩) n66.toNat cap66), (53, .int .i32 i66), (54, .pointer (some ⟨g66, 0 + (i66 : Int).toNat * 19, none⟩)), (55, .pointer (some ⟨g66, 0 + (i66 : Int).toNat * 19, none⟩)), (60, .int .i32 n73), (59, .slice (some ⟨g73, 0, none⟩) n73.toNat cap73), (61, .int .i32 i73), (62, .pointer (some ⟨g73, 0 + (i73 : Int).toNat * 13, none⟩)), (63, .pointer (some ⟨g73, 0 + (i73 : Int).toNat * 13, none⟩))]) (fun q w' => (-2147483648 ≤ q.1 ∧ q.1 ≤ 2147483647) ∧ rdLn fx s83 = q ∧ St w0 G0 p pb q.2 ((g73, 67, es73.flatten ++ [str u74, .int .i32 n77, .int .i32 n79, .int .i32 n81, .int .i32 n83, .slice none 0 0, .int .i32 0, .slice none 0 0, .slice none 0 0, .slice none 0 0, .bool false, .int .i8 0, .map none] ++ ((List.replicate (n73.toNat - (i73 + 1)) [str [], .int .i32 0, .int .i32 0, .int .i32 0, .int .i32 0, .slice none 0 0, .int .i32 0, .slice none 0 0, .slice none 0 0, .slice none 0 0, .bool false, .int .i8 0, .map none]).flatten ++ post73)) :: L73) P73 w') ?_ ?_
          · refine cI (by rfl) (fun hc=>?_) (fun hc=>?_)
            · ((conv=>whnf);repeat((first|refine mvT ?_|refine mvF ?_|refine yT ?_|refine yF ?_);conv=>whnf))
              refine Does.mono H.lnc ?_
              rintro r w ⟨n, s', rfl, hn, hr, H⟩
              ((conv=>whnf);repeat((first|refine mvT ?_|refine mvF ?_|refine yT ?_|refine yF ?_);conv=>whnf))
              exact ⟨(n, s'), ⟨rfl, rfl, rfl, rfl, rfl, rfl, rfl, rfl, rfl, rfl, rfl, rfl, rfl, rfl, rfl, rfl, rfl, rfl, trivial⟩, hn, by rw [hc]; exact hr, H⟩
            · ((conv=>whnf);repeat((first|refine mvT ?_|refine mvF ?_|refine yT ?_|refine yF ?_);conv=>whnf))
              refine Does.mono H.lnp ?_
              rintro r w ⟨n, s', rfl, hn, hr, H⟩
              ((conv=>whnf);repeat((first|refine mvT ?_|refine mvF ?_|refine yT ?_|refine yF ?_);conv=>whnf))
              exact ⟨(n, s'), ⟨rfl, rfl, rfl, rfl, rfl, rfl, rfl, rfl, rfl, rfl, rfl, rfl, rfl, rfl, rfl, rfl, rfl, rfl, trivial⟩, hn, by rw [hc]; exact hr, H⟩
          clear H
          rintro ⟨n85, s85⟩ w ⟨hn85, hln85, H⟩
          dsimp only at hn85 hln85 H
          ((conv=>whnf);repeat((first|refine mvT ?_|refine mvF ?_|refine yT ?_|refine yF ?_);conv=>whnf))
          refine Does.mono H.ok ?_
          rintro r w ⟨rfl, H⟩
          ((conv=>whnf);repeat((first|refine mvT ?_|refine mvF ?_|refine yT ?_|refine yF ?_);conv=>whnf))
          refine cI (by rfl) (fun hbd=>?_) (fun hbd=>?_)
          · have hbd : s85.2 = true := by simpa using hbd
            ((conv=>whnf);repeat((first|refine mvT ?_|refine mvF ?_|refine yT ?_|refine yF ?_);conv=>whnf))
            refine Does.mono (H.done hL hp1) ?_
            rintro r w ⟨rfl, H⟩
            ((conv=>whnf);repeat((first|refine mvT ?_|refine mvF ?_|refine yT ?_|refine yF ?_);conv=>whnf))
            refine RdPost.early hbd (hup73 (?_)) H
            rw [tail_ver hr74 (by decide), tail_yes (rdField3.trans hr77) ⟨by decide, has_all hv⟩, tail_yes (rdField3.trans hr79) ⟨by decide, has_all hv⟩, tail_yes (rdField3.trans hr81) ⟨by decide, has_all hv⟩, tail_yes (rdField3.trans hr83) ⟨by decide, has_all hv⟩, tail_len ⟨by decide, has_all hv⟩ hln85 hbd]
          have hbd : s85.2 = false := by simpa using hbd
          clear hbd
          ((conv=>whnf);repeat((first|refine mvT ?_|refine mvF ?_|refine yT ?_|refine yF ?_);conv=>whnf))
          refine cut_zero ?_
          ((conv=>whnf);repeat((first|refine mvT ?_|refine mvF ?_|refine yT ?_|refine yF ?_);conv=>whnf))
          refine VC.cutE (fun a : Value => [(71, .int .i32 n85), (70, a), (0, .pointer (some ⟨p, 0, none⟩)), (2, .bool uns), (7, .pointer (some ⟨pb, 0, none⟩)), (8, .int .i16 v), (9, .bool fx), (10, .pointer (some ⟨p, 0, none⟩)), (52, .int .i32 n66), (51, .slice (some ⟨g66, 0, none⟩) n66.toNat cap66), (53, .int .i32 i66), (54, .pointer (some ⟨g66, 0 + (i66 : Int).toNat * 19, none⟩)), (55, .pointer (some ⟨g66, 0 + (i66 : Int).toNat * 19, none⟩)), (60, .int .i32 n73), (59, .slice (some ⟨g73, 0, none⟩) n73.toNat cap73), (61, .int .i32 i73), (62, .pointer (some ⟨g73, 0 + (i73 : Int).toNat * 13, none⟩)), (63, .pointer (some ⟨g73, 0 + (i73 : Int).toNat * 13, none⟩))]) (fun a w' => ListI w0 G0 p pb 21 [.int .i32 0] (elR 6 v fx 3 []) (elQ true 6 3 []) s85 n85 (decide (n85 ≤ 0)) ((g73, 67, es73.flatten ++ [str u74, .int .i32 n77, .int .i32 n79, .int .i32 n81, .int .i32 n83, .slice none 0 0, .int .i32 0, .slice none 0 0, .slice none 0 0, .slice none 0 0, .bool false, .int .i8 0, .map none] ++ ((List.replicate (n73.toNat - (i73 + 1)) [str [], .int .i32 0, .int .i32 0, .int .i32 0, .int .i32 0, .slice none 0 0, .int .i32 0, .slice none 0 0, .slice none 0 0, .slice none 0 0, .bool false, .int .i8 0, .map none]).flatten ++ post73)) :: L73) P73 a 0 w') ?_ ?_
          · refine cI (by rfl) (fun hps=>?_) (fun hps=>?_)
            · have hps : 0 < n85 := by have := of_decide_eq_true hps; omega
              ((conv=>whnf);repeat((first|refine mvT ?_|refine mvF ?_|refine yT ?_|refine yF ?_);conv=>whnf))
              refine H.grow hps hn85.2 (by decide) rfl rfl (by decide) ?_
              intro g cap post w hc1 hc2 H
              ((conv=>whnf);repeat((first|refine mvT ?_|refine mvF ?_|refine yT ?_|refine yF ?_);conv=>whnf))
              exact ⟨_, ⟨rfl, rfl, rfl, rfl, rfl, rfl, rfl, rfl, rfl, rfl, rfl, rfl, rfl, rfl, rfl, rfl, rfl, rfl, trivial⟩, ListI.some hps (decide_eq_false (by omega)) hc1 hc2 H⟩
            · have hps : n85 ≤ 0 := by have := of_decide_eq_false hps; omega
              ((conv=>whnf);repeat((first|refine mvT ?_|refine mvF ?_|refine yT ?_|refine yF ?_);conv=>whnf))
              exact ⟨_, ⟨rfl, rfl, rfl, rfl, rfl, rfl, rfl, rfl, rfl, rfl, rfl, rfl, rfl, rfl, rfl, rfl, rfl, rfl, trivial⟩, ListI.none hps (decide_eq_true hps) H⟩
          clear H
          rintro a85 w H
          ((conv=>whnf);repeat((first|refine mvT ?_|refine mvF ?_|refine yT ?_|refine yF ?_);conv=>whnf))
          have hpL85 : inL ((g73, 67, es73.flatten ++ [str u74, .int .i32 n77, .int .i32 n79, .int .i32 n81, .int .i32 n83, .slice none 0 0, .int .i32 0, .slice none 0 0, .slice none 0 0, .slice none 0 0, .bool false, .int .i8 0, .map none] ++ ((List.replicate (n73.toNat - (i73 + 1)) [str [], .int .i32 0, .int .i32 0, .int .i32 0, .int .i32 0, .slice none 0 0, .int .i32 0, .slice none 0 0, .slice none 0 0, .slice none 0 0, .bool false, .int .i8 0, .map none]).flatten ++ post73)) :: L73) p := inL.tail hpL73
          refine VL.loop (fun i : Nat => [(71, .int .i32 n85), (70, a85), (72, .int .i32 i), (0, .pointer (some ⟨p, 0, none⟩)), (2, .bool uns), (7, .pointer (some ⟨pb, 0, none⟩)), (8, .int .i16 v), (9, .bool fx), (10, .pointer (some ⟨p, 0, none⟩)), (52, .int .i32 n66), (51, .slice (some ⟨g66, 0, none⟩) n66.toNat cap66), (53, .int .i32 i66), (54, .pointer (some ⟨g66, 0 + (i66 : Int).toNat * 19, none⟩)), (55, .pointer (some ⟨g66, 0 + (i66 : Int).toNat * 19, none⟩)), (60, .int .i32 n73), (59, .slice (some ⟨g73, 0, none⟩) n73.toNat cap73), (61, .int .i32 i73), (62, .pointer (some ⟨g73, 0 + (i73 : Int).toNat * 13, none⟩)), (63, .pointer (some ⟨g73, 0 + (i73 : Int).toNat * 13, none⟩))]) (fun i w' => i ≤ 2147483647 ∧ ListI w0 G0 p pb 21 [.int .i32 0] (elR 6 v fx 3 []) (elQ true 6 3 []) s85 n85 (decide (n85 ≤ 0)) ((g73, 67, es73.flatten ++ [str u74, .int .i32 n77, .int .i32 n79, .int .i32 n81, .int .i32 n83, .slice none 0 0, .int .i32 0, .slice none 0 0, .slice none 0 0, .slice none 0 0, .bool false, .int .i8 0, .map none] ++ ((List.replicate (n73.toNat - (i73 + 1)) [str [], .int .i32 0, .int .i32 0, .int .i32 0, .int .i32 0, .slice none 0 0, .int .i32 0, .slice none 0 0, .slice none 0 0, .slice none 0 0, .bool false, .int .i8 0, .map none]).flatten ++ post73)) :: L73) P73 a85 i w') (fun i => n85.toNat - i) 0 ⟨rfl, rfl, rfl, rfl, rfl, rfl, rfl, rfl, rfl, rfl, rfl, rfl, rfl, rfl, rfl, rfl, rfl, rfl, rfl, trivial⟩ ⟨by decide, H⟩ ?_
          clear H
          rintro i85 w ⟨hi85, H⟩
          ((conv=>whnf);repeat((first|refine mvT ?_|refine mvF ?_|refine yT ?_|refine yF ?_);conv=>whnf))
          refine cI (by rfl) (fun h9=>?_) (fun h9=>?_)
          · have hlt85 : (i85 : Int) < n85 := of_decide_eq_true h9
            obtain ⟨g85, cap85, post85, rfl, hgo85, HI⟩ := H.go hlt85
            obtain ⟨es85, ts85, si85, hes85, hez85, hrn85, hts85, hlen3, H⟩ := HI.open hgo85.2.2.2.2
            obtain ⟨L85, hL85⟩ : ∃ L : List Ob, L = ((g73, 67, es73.flatten ++ [str u74, .int .i32 n77, .int .i32 n79, .int .i32 n81, .int .i32 n83, .slice none 0 0, .int .i32 0, .slice none 0 0, .slice none 0 0, .slice none 0 0, .bool false, .int .i8 0, .map none] ++ ((List.replicate (n73.toNat - (i73 + 1)) [str [], .int .i32 0, .int .i32 0, .int .i32 0, .int .i32 0, .slice none 0 0, .int .i32 0, .slice none 0 0, .slice none 0 0, .slice none 0 0, .bool false, .int .i8 0, .map none]).flatten ++ post73)) :: L73) := ⟨_, rfl⟩
            rw [← hL85] at H hpL85
            obtain ⟨P85, hP85⟩ : ∃ P : World → Prop, P = fun w => (∀ (j : Nat) (c : List Value) (y : T), es85[j]? = some c → ts85[j]? = some y → elQ true 6 3 [] ⟨w, FG w0 G0⟩ c y) ∧ P73 w := ⟨_, rfl⟩
            rw [← hP85] at H
            replace H : St w0 G0 p pb si85 ((g85, 21, es85.flatten ++ [.int .i32 0] ++ ((List.replicate (n85.toNat - (i85 + 1)) [.int .i32 0]).flatten ++ post85)) :: L85) P85 w := H
            ((conv=>whnf);repeat((first|refine mvT ?_|refine mvF ?_|refine yT ?_|refine yF ?_);conv=>whnf))
            refine Does.mono H.int32 ?_
            rintro r w ⟨n86, s86, rfl, hn86, hr86, H⟩
            ((conv=>whnf);repeat((first|refine mvT ?_|refine mvF ?_|refine yT ?_|refine yF ?_);conv=>whnf))
            refine ⟨g85, 0, rfl, ⟨by omega, by omega⟩, ?_⟩
            ((conv=>whnf);repeat((first|refine mvT ?_|refine mvF ?_|refine yT ?_|refine yF ?_);conv=>whnf))
            refine H.st1 (v := .int .i32 n86) 0 (rfl) (rfl) rfl (by first | omega | (simp [hlen3]; done) | (simp [hlen3]; omega)) rfl (Nat.lt_of_lt_of_le (Nat.lt_succ_self _) (Nat.le_of_ble_eq_true rfl)) ?_
            intro w H
            ((conv=>whnf);repeat((first|refine mvT ?_|refine mvF ?_|refine yT ?_|refine yF ?_);conv=>whnf))
            replace H : St w0 G0 p pb s86 ((g85, 21, es85.flatten ++ [.int .i32 n86] ++ ((List.replicate (n85.toNat - (i85 + 1)) [.int .i32 0]).flatten ++ post85)) :: L85) P85 w := H
            refine ⟨i85 + 1, ⟨rfl, rfl, ?_, rfl, rfl, rfl, rfl, rfl, rfl, rfl, rfl, rfl, rfl, rfl, rfl, rfl, rfl, rfl, rfl, trivial⟩, ⟨by omega, ListI.back hgo85 (LoopI.next hes85 hez85 hrn85 hts85 (cur := [.int .i32 n86]) (x := numT n86) (hr86) rfl (by rw [← hL85]; exact H) fun w hP => ?_)⟩, by omega⟩
            · show some (Value.int .i32 _) = _
              rw [IntKind.wrap_i32]
              simp only [Option.some.injEq, Value.int.injEq, true_and]
              omega
            · skip
              rw [hP85] at hP
              exact ⟨⟨_, hn86, rfl, rfl⟩, hP⟩
          have hge85 : ¬ (i85 : Int) < n85 := of_decide_eq_false h9
          obtain ⟨l87, s87, hone87, hl87, hr87, H⟩ := H.done hge85 hln85 (nl := nlF (.mk 11 0 (-1) (-1) (-1) 0 3 []) v) (sz := elZ true 6 3 []) rfl hpL85 rfl
          ((conv=>whnf);repeat((first|refine mvT ?_|refine mvF ?_|refine yT ?_|refine yF ?_);conv=>whnf))
          obtain ⟨P88, hP88⟩ : ∃ P : World → Prop, P = fun w => ListR true (elZ true 6 3 []) (elQ true 6 3 [] ⟨w, FG w0 G0⟩) w (FG w0 G0) a85 (.mk 0 [] (decide (n85 ≤ 0)) l87 []) ∧ P73 w := ⟨_, rfl⟩
          replace H : St w0 G0 p pb s87 ((g73, 67, es73.flatten ++ [str u74, .int .i32 n77, .int .i32 n79, .int .i32 n81, .int .i32 n83, .slice none 0 0, .int .i32 0, .slice none 0 0, .slice none 0 0, .slice none 0 0, .bool false, .int .i8 0, .map none] ++ ((List.replicate (n73.toNat - (i73 + 1)) [str [], .int .i32 0, .int .i32 0, .int .i32 0, .int .i32 0, .slice none 0 0, .int .i32 0, .slice none 0 0, .slice none 0 0, .slice none 0 0, .bool false, .int .i8 0, .map none]).flatten ++ post73)) :: L73) P88 w := by rw [hP88]; exact H
          refine H.st1 (v := a85) 5 (cells_one hone87) (hone87) rfl (by first | omega | (simp [hlen2]; done) | (simp [hlen2]; omega)) rfl (Nat.lt_of_lt_of_le (Nat.lt_succ_self _) (Nat.le_of_ble_eq_true rfl)) ?_
          intro w H
          ((conv=>whnf);repeat((first|refine mvT ?_|refine mvF ?_|refine yT ?_|refine yF ?_);conv=>whnf))
          replace H : St w0 G0 p pb s87 ((g73, 67, es73.flatten ++ [str u74, .int .i32 n77, .int .i32 n79, .int .i32 n81, .int .i32 n83, a85, .int .i32 0, .slice none 0 0, .slice none 0 0, .slice none 0 0, .bool false, .int .i8 0, .map none] ++ ((List.replicate (n73.toNat - (i73 + 1)) [str [], .int .i32 0, .int .i32 0, .int .i32 0, .int .i32 0, .slice none 0 0, .int .i32 0, .slice none 0 0, .slice none 0 0, .slice none 0 0, .bool false, .int .i8 0, .map none]).flatten ++ post73)) :: L73) P88 w := H
          refine Does.mono H.int32 ?_
          rintro r w ⟨n90, s90, rfl, hn90, hr90, H⟩
          ((conv=>whnf);repeat((first|refine mvT ?_|refine mvF ?_|refine yT ?_|refine yF ?_);conv=>whnf))
          refine H.st1 (v := .int .i32 n90) 6 (rfl) (rfl) rfl (by first | omega | (simp [hlen2]; done) | (simp [hlen2]; omega)) rfl (Nat.lt_of_lt_of_le (Nat.lt_succ_self _) (Nat.le_of_ble_eq_true rfl)) ?_
          intro w H
          ((conv=>whnf);repeat((first|refine mvT ?_|refine mvF ?_|refine yT ?_|refine yF ?_);conv=>whnf))
          replace H : St w0 G0 p pb s90 ((g73, 67, es73.flatten ++ [str u74, .int .i32 n77, .int .i32 n79, .int .i32 n81, .int .i32 n83, a85, .int .i32 n90, .slice none 0 0, .slice none 0 0, .slice none 0 0, .bool false, .int .i8 0, .map none] ++ ((List.replicate (n73.toNat - (i73 + 1)) [str [], .int .i32 0, .int .i32 0, .int .i32 0, .int .i32 0, .slice none 0 0, .int .i32 0, .slice none 0 0, .slice none 0 0, .slice none 0 0, .bool false, .int .i8 0, .map none]).flatten ++ post73)) :: L73) P88 w := H
          refine ⟨_, ld (H.cell rfl (k := 7) rfl) (by first | omega | (simp [hlen2]; done) | (simp [hlen2]; omega)), ?_⟩; ((conv=>whnf);repeat((first|refine mvT ?_|refine mvF ?_|refine yT ?_|refine yF ?_);conv=>whnf))
          (refine mvB ?_;((conv=>whnf);repeat((first|refine mvT ?_|refine mvF ?_|refine yT ?_|refine yF ?_);conv=>whnf)))
          refine VC.cutE (fun q : Int × Rd => [(77, .int .i32 q.1), (76, .slice none 0 0), (0, .pointer (some ⟨p, 0, none⟩)), (2, .bool uns), (7, .pointer (some ⟨pb, 0, none⟩)), (8, .int .i16 v), (9, .bool fx), (10, .pointer (some ⟨p, 0, none⟩)), (52, .int .i32 n66), (51, .slice (some ⟨g66, 0, none⟩) n66.toNat cap66), (53, .int .i32 i66), (54, .pointer (some ⟨g66, 0 + (i66 : Int).toNat * 19, none⟩)), (55, .pointer (some ⟨g66, 0 + (i66 : Int).toNat * 19, none⟩)), (60, .int .i32 n73), (59, .slice (some ⟨g73, 0, none⟩) n73.toNat cap73), (61, .int .i32 i73), (62, .pointer (some ⟨g73, 0 + (i73 : Int).toNat * 13, none⟩)), (63, .pointer (some ⟨g73, 0 + (i73 : Int).toNat * 13, none⟩))]) (fun q w' => (-2147483648 ≤ q.1 ∧ q.1 ≤ 2147483647) ∧ rdLn fx s90 = q ∧ St w0 G0 p pb q.2 ((g73, 67, es73.flatten ++ [str u74, .int .i32 n77, .int .i32 n79, .int .i32 n81, .int .i32 n83, a85, .int .i32 n90, .slice none 0 0, .slice none 0 0, .slice none 0 0, .bool false, .int .i8 0, .map none] ++ ((List.replicate (n73.toNat - (i73 + 1)) [str [], .int .i32 0, .int .i32 0, .int .i32 0, .int .i32 0, .slice none 0 0, .int .i32 0, .slice none 0 0, .slice none 0 0, .slice none 0 0, .bool false, .int .i8 0, .map none]).flatten ++ post73)) :: L73) P88 w') ?_ ?_
          · refine cI (by rfl) (fun hc=>?_) (fun hc=>?_)
            · ((conv=>whnf);repeat((first|refine mvT ?_|refine mvF ?_|refine yT ?_|refine yF ?_);conv=>whnf))
              refine Does.mono H.lnc ?_
              rintro r w ⟨n, s', rfl, hn, hr, H⟩
              ((conv=>whnf);repeat((first|refine mvT ?_|refine mvF ?_|refine yT ?_|refine yF ?_);conv=>whnf))
              exact ⟨(n, s'), ⟨rfl, rfl, rfl, rfl, rfl, rfl, rfl, rfl, rfl, rfl, rfl, rfl, rfl, rfl, rfl, rfl, rfl, rfl, trivial⟩, hn, by rw [hc]; exact hr, H⟩
            · ((conv=>whnf);repeat((first|refine mvT ?_|refine mvF ?_|refine yT ?_|refine yF ?_);conv=>whnf))
              refine Does.mono H.lnp ?_
              rintro r w ⟨n, s', rfl, hn, hr, H⟩
              ((conv=>whnf);repeat((first|refine mvT ?_|refine mvF ?_|refine yT ?_|refine yF ?_);conv=>whnf))
              exact ⟨(n, s'), ⟨rfl, rfl, rfl, rfl, rfl, rfl, rfl, rfl, rfl, rfl, rfl, rfl, rfl, rfl, rfl, rfl, rfl, rfl, trivial⟩, hn, by rw [hc]; exact hr, H⟩
          clear H
          rintro ⟨n92, s92⟩ w ⟨hn92, hln92, H⟩
          dsimp only at hn92 hln92 H
          ((conv=>whnf);repeat((first|refine mvT ?_|refine mvF ?_|refine yT ?_|refine yF ?_);conv=>whnf))
          refine Does.mono H.ok ?_
          rintro r w ⟨rfl, H⟩
          ((conv=>whnf);repeat((first|refine mvT ?_|refine mvF ?_|refine yT ?_|refine yF ?_);conv=>whnf))
          refine cI (by rfl) (fun hbd=>?_) (fun hbd=>?_)
          · have hbd : s92.2 = true := by simpa using hbd
            ((conv=>whnf);repeat((first|refine mvT ?_|refine mvF ?_|refine yT ?_|refine yF ?_);conv=>whnf))
            refine Does.mono (H.done hL hp1) ?_
            rintro r w ⟨rfl, H⟩
            ((conv=>whnf);repeat((first|refine mvT ?_|refine mvF ?_|refine yT ?_|refine yF ?_);conv=>whnf))
            refine RdPost.early hbd (hup73 (?_)) H
            rw [tail_ver hr74 (by decide), tail_yes (rdField3.trans hr77) ⟨by decide, has_all hv⟩, tail_yes (rdField3.trans hr79) ⟨by decide, has_all hv⟩, tail_yes (rdField3.trans hr81) ⟨by decide, has_all hv⟩, tail_yes (rdField3.trans hr83) ⟨by decide, has_all hv⟩, tail_yes ((rdField_list _ _ _ _ _ _ _ _ _ _ _).trans hr87) ⟨by decide, has_all hv⟩, tail_yes (rdField3.trans hr90) ⟨by decide, has_all hv⟩, tail_len ⟨by decide, has_all hv⟩ hln92 hbd]
          have hbd : s92.2 = false := by simpa using hbd
          clear hbd
          ((conv=>whnf);repeat((first|refine mvT ?_|refine mvF ?_|refine yT ?_|refine yF ?_);conv=>whnf))
          refine cut_zero ?_
          ((conv=>whnf);repeat((first|refine mvT ?_|refine mvF ?_|refine yT ?_|refine yF ?_);conv=>whnf))
          refine VC.cutE (fun a : Value => [(77, .int .i32 n92), (76, a), (0, .pointer (some ⟨p, 0, none⟩)), (2, .bool uns), (7, .pointer (some ⟨pb, 0, none⟩)), (8, .int .i16 v), (9, .bool fx), (10, .pointer (some ⟨p, 0, none⟩)), (52, .int .i32 n66), (51, .slice (some ⟨g66, 0, none⟩) n66.toNat cap66), (53, .int .i32 i66), (54, .pointer (some ⟨g66, 0 + (i66 : Int).toNat * 19, none⟩)), (55, .pointer (some ⟨g66, 0 + (i66 : Int).toNat * 19, none⟩)), (60, .int .i32 n73), (59, .slice (some ⟨g73, 0, none⟩) n73.toNat cap73), (61, .int .i32 i73), (62, .pointer (some ⟨g73, 0 + (i73 : Int).toNat * 13, none⟩)), (63, .pointer (some ⟨g73, 0 + (i73 : Int).toNat * 13, none⟩))]) (fun a w' => ListI w0 G0 p pb 21 [.int .i32 0] (elR 6 v fx 3 []) (elQ true 6 3 []) s92 n92 (decide (n92 ≤ 0)) ((g73, 67, es73.flatten ++ [str u74, .int .i32 n77, .int .i32 n79, .int .i32 n81, .int .i32 n83, a85, .int .i32 n90, .slice none 0 0, .slice none 0 0, .slice none 0 0, .bool false, .int .i8 0, .map none] ++ ((List.replicate (n73.toNat - (i73 + 1)) [str [], .int .i32 0, .int .i32 0, .int .i32 0, .int .i32 0, .slice none 0 0, .int .i32 0, .slice none 0 0, .slice none 0 0, .slice none 0 0, .bool false, .int .i8 0, .map none]).flatten ++ post73)) :: L73) P88 a 0 w') ?_ ?_
          · refine cI (by rfl) (fun hps=>?_) (fun hps=>?_)
            · have hps : 0 < n92 := by have := of_decide_eq_true hps; omega
              ((conv=>whnf);repeat((first|refine mvT ?_|refine mvF ?_|refine yT ?_|refine yF ?_);conv=>whnf))
              refine H.grow hps hn92.2 (by decide) rfl rfl (by decide) ?_
              intro g cap post w hc1 hc2 H
              ((conv=>whnf);repeat((first|refine mvT ?_|refine mvF ?_|refine yT ?_|refine yF ?_);conv=>whnf))
              exact ⟨_, ⟨rfl, rfl, rfl, rfl, rfl, rfl, rfl, rfl, rfl, rfl, rfl, rfl, rfl, rfl, rfl, rfl, rfl, rfl, trivial⟩, ListI.some hps (decide_eq_false (by omega)) hc1 hc2 H⟩
            · have hps : n92 ≤ 0 := by have := of_decide_eq_false hps; omega
              ((conv=>whnf);repeat((first|refine mvT ?_|refine mvF ?_|refine yT ?_|refine yF ?_);conv=>whnf))
              exact ⟨_, ⟨rfl, rfl, rfl, rfl, rfl, rfl, rfl, rfl, rfl, rfl, rfl, rfl, rfl, rfl, rfl, rfl, rfl, rfl, trivial⟩, ListI.none hps (decide_eq_true hps) H⟩
          clear H
          rintro a92 w H
          ((conv=>whnf);repeat((first|refine mvT ?_|refine mvF ?_|refine yT ?_|refine yF ?_);conv=>whnf))
          have hpL92 : inL ((g73, 67, es73.flatten ++ [str u74, .int .i32 n77, .int .i32 n79, .int .i32 n81, .int .i32 n83, a85, .int .i32 n90, .slice none 0 0, .slice none 0 0, .slice none 0 0, .bool false, .int .i8 0, .map none] ++ ((List.replicate (n73.toNat - (i73 + 1)) [str [], .int .i32 0, .int .i32 0, .int .i32 0, .int .i32 0, .slice none 0 0, .int .i32 0, .slice none 0 0, .slice none 0 0, .slice none 0 0, .bool false, .int .i8 0, .map none]).flatten ++ post73)) :: L73) p := inL.tail hpL73
          refine VL.loop (fun i : Nat => [(77, .int .i32 n92), (76, a92), (78, .int .i32 i), (0, .pointer (some ⟨p, 0, none⟩)), (2, .bool uns), (7, .pointer (some ⟨pb, 0, none⟩)), (8, .int .i16 v), (9, .bool fx), (10, .pointer (some ⟨p, 0, none⟩)), (52, .int .i32 n66), (51, .slice (some ⟨g66, 0, none⟩) n66.toNat cap66), (53, .int .i32 i66), (54, .pointer (some ⟨g66, 0 + (i66 : Int).toNat * 19, none⟩)), (55, .pointer (some ⟨g66, 0 + (i66 : Int).toNat * 19, none⟩)), (60, .int .i32 n73), (59, .slice (some ⟨g73, 0, none⟩) n73.toNat cap73), (61, .int .i32 i73), (62, .pointer (some ⟨g73, 0 + (i73 : Int).toNat * 13, none⟩)), (63, .pointer (some ⟨g73, 0 + (i73 : Int).toNat * 13, none⟩))]) (fun i w' => i ≤ 2147483647 ∧ ListI w0 G0 p pb 21 [.int .i32 0] (elR 6 v fx 3 []) (elQ true 6 3 []) s92 n92 (decide (n92 ≤ 0)) ((g73, 67, es73.flatten ++ [str u74, .int .i32 n77, .int .i32 n79, .int .i32 n81, .int .i32 n83, a85, .int .i32 n90, .slice none 0 0, .slice none 0 0, .slice none 0 0, .bool false, .int .i8 0, .map none] ++ ((List.replicate (n73.toNat - (i73 + 1)) [str [], .int .i32 0, .int .i32 0, .int .i32 0, .int .i32 0, .slice none 0 0, .int .i32 0, .slice none 0 0, .slice none 0 0, .slice none 0 0, .bool false, .int .i8 0, .map none]).flatten ++ post73)) :: L73) P88 a92 i w') (fun i => n92.toNat - i) 0 ⟨rfl, rfl, rfl, rfl, rfl, rfl, rfl, rfl, rfl, rfl, rfl, rfl, rfl, rfl, rfl, rfl, rfl, rfl, rfl, trivial⟩ ⟨by decide, H⟩ ?_
          clear H
          rintro i92 w ⟨hi92, H⟩
          ((conv=>whnf);repeat((first|refine mvT ?_|refine mvF ?_|refine yT ?_|refine yF ?_);conv=>whnf))
          refine cI (by rfl) (fun h9=>?_) (fun h9=>?_)
          · have hlt92 : (i92 : Int) < n92 := of_decide_eq_true h9
            obtain ⟨g92, cap92, post92, rfl, hgo92, HI⟩ := H.go hlt92
            obtain ⟨es92, ts92, si92, hes92, hez92, hrn92, hts92, hlen3, H⟩ := HI.open hgo92.2.2.2.2
            obtain ⟨L92, hL92⟩ : ∃ L : List Ob, L = ((g73, 67, es73.flatten ++ [str u74, .int .i32 n77, .int .i32 n79, .int .i32 n81, .int .i32 n83, a85, .int .i32 n90, .slice none 0 0, .slice none 0 0, .slice none 0 0, .bool false, .int .i8 0, .map none] ++ ((List.replicate (n73.toNat - (i73 + 1)) [str [], .int .i32 0, .int .i32 0, .int .i32 0, .int .i32 0, .slice none 0 0, .int .i32 0, .slice none 0 0, .slice none 0 0, .slice none 0 0, .bool false, .int .i8 0, .map none]).flatten ++ post73)) :: L73) := ⟨_, rfl⟩
            rw [← hL92] at H hpL92
            obtain ⟨P92, hP92⟩ : ∃ P : World → Prop, P = fun w => (∀ (j : Nat) (c : List Value) (y : T), es92[j]? = some c → ts92[j]? = some y → elQ true 6 3 [] ⟨w, FG w0 G0⟩ c y) ∧ P88 w := ⟨_, rfl⟩
            rw [← hP92] at H
            replace H : St w0 G0 p pb si92 ((g92, 21, es92.flatten ++ [.int .i32 0] ++ ((List.replicate (n92.toNat - (i92 + 1)) [.int .i32 0]).flatten ++ post92)) :: L92) P92 w := H
            ((conv=>whnf);repeat((first|refine mvT ?_|refine mvF ?_|refine yT ?_|refine yF ?_);conv=>whnf))
            refine Does.mono H.int32 ?_
            rintro r w ⟨n93, s93, rfl, hn93, hr93, H⟩
            ((conv=>whnf);repeat((first|refine mvT ?_|refine mvF ?_|refine yT ?_|refine yF ?_);conv=>whnf))
            refine ⟨g92, 0, rfl, ⟨by omega, by omega⟩, ?_⟩
            ((conv=>whnf);repeat((first|refine mvT ?_|refine mvF ?_|refine yT ?_|refine yF ?_);conv=>whnf))
            refine H.st1 (v := .int .i32 n93) 0 (rfl) (rfl) rfl (by first | omega | (simp [hlen3]; done) | (simp [hlen3]; omega)) rfl (Nat.lt_of_lt_of_le (Nat.lt_succ_self _) (Nat.le_of_ble_eq_true rfl)) ?_
            intro w H
            ((conv=>whnf);repeat((first|refine mvT ?_|refine mvF ?_|refine yT ?_|refine yF ?_);conv=>whnf))
            replace H : St w0 G0 p pb s93 ((g92, 21, es92.flatten ++ [.int .i32 n93] ++ ((List.replicate (n92.toNat - (i92 + 1)) [.int .i32 0]).flatten ++ post92)) :: L92) P92 w := H
            refine ⟨i92 + 1, ⟨rfl, rfl, ?_, rfl, rfl, rfl, rfl, rfl, rfl, rfl, rfl, rfl, rfl, rfl, rfl, rfl, rfl, rfl, rfl, trivial⟩, ⟨by omega, ListI.back hgo92 (LoopI.next hes92 hez92 hrn92 hts92 (cur := [.int .i32 n93]) (x := numT n93) (hr93) rfl (by rw [← hL92]; exact H) fun w hP => ?_)⟩, by omega⟩
            · show some (Value.int .i32 _) = _
              rw [IntKind.wrap_i32]
              simp only [Option.some.injEq, Value.int.injEq, true_and]
              omega
            · skip
              rw [hP92] at hP
              exact ⟨⟨_, hn93, rfl, rfl⟩, hP⟩
          have hge92 : ¬ (i92 : Int) < n92 := of_decide_eq_false h9
          obtain ⟨l94, s94, hone94, hl94, hr94, H⟩ := H.done hge92 hln92 (nl := nlF (.mk 11 0 (-1) (-1) (-1) 0 3 []) v) (sz := elZ true 6 3 []) rfl hpL92 rfl
          ((conv=>whnf);repeat((first|refine mvT ?_|refine mvF ?_|refine yT ?_|refine yF ?_);conv=>whnf))
          obtain ⟨P95, hP95⟩ : ∃ P : World → Prop, P = fun w => ListR true (elZ true 6 3 []) (elQ true 6 3 [] ⟨w, FG w0 G0⟩) w (FG w0 G0) a92 (.mk 0 [] (decide (n92 ≤ 0)) l94 []) ∧ P88 w := ⟨_, rfl⟩
          replace H : St w0 G0 p pb s94 ((g73, 67, es73.flatten ++ [str u74, .int .i32 n77, .int .i32 n79, .int .i32 n81, .int .i32 n83, a85, .int .i32 n90, .slice none 0 0, .slice none 0 0, .slice none 0 0, .bool false, .int .i8 0, .map none] ++ ((List.replicate (n73.toNat - (i73 + 1)) [str [], .int .i32 0, .int .i32 0, .int .i32 0, .int .i32 0, .slice none 0 0, .int .i32 0, .slice none 0 0, .slice none 0 0, .slice none 0 0, .bool false, .int .i8 0, .map none]).flatten ++ post73)) :: L73) P95 w := by rw [hP95]; exact H
          refine H.st1 (v := a92) 7 (cells_one hone94) (hone94) rfl (by first | omega | (simp [hlen2]; done) | (simp [hlen2]; omega)) rfl (Nat.lt_of_lt_of_le (Nat.lt_succ_self _) (Nat.le_of_ble_eq_true rfl)) ?_
          intro w H
          ((conv=>whnf);repeat((first|refine mvT ?_|refine mvF ?_|refine yT ?_|refine yF ?_);conv=>whnf))
          replace H : St w0 G0 p pb s94 ((g73, 67, es73.flatten ++ [str u74, .int .i32 n77, .int .i32 n79, .int .i32 n81, .int .i32 n83, a85, .int .i32 n90, a92, .slice none 0 0, .slice none 0 0, .bool false, .int .i8 0, .map none] ++ ((List.replicate (n73.toNat - (i73 + 1)) [str [], .int .i32 0, .int .i32 0, .int .i32 0, .int .i32 0, .slice none 0 0, .int .i32 0, .slice none 0 0, .slice none 0 0, .slice none 0 0, .bool false, .int .i8 0, .map none]).flatten ++ post73)) :: L73) P95 w := H
          refine VC.cutE (fun q : Value × Bool × List T × Rd => [(0, .pointer (some ⟨p, 0, none⟩)), (2, .bool uns), (7, .pointer (some ⟨pb, 0, none⟩)), (8, .int .i16 v), (9, .bool fx), (10, .pointer (some ⟨p, 0, none⟩)), (52, .int .i32 n66), (51, .slice (some ⟨g66, 0, none⟩) n66.toNat cap66), (53, .int .i32 i66), (54, .pointer (some ⟨g66, 0 + (i66 : Int).toNat * 19, none⟩)), (55, .pointer (some ⟨g66, 0 + (i66 : Int).toNat * 19, none⟩)), (60, .int .i32 n73), (59, .slice (some ⟨g73, 0, none⟩) n73.toNat cap73), (61, .int .i32 i73), (62, .pointer (some ⟨g73, 0 + (i73 : Int).toNat * 13, none⟩)), (63, .pointer (some ⟨g73, 0 + (i73 : Int).toNat * 13, none⟩))]) (fun q w' => (q.2.1 = true → q.2.2.1 = []) ∧ (if hasF (.mk 11 3 (-1) (-1) (-1) 0 3 []) v = true then rdField 7 v fx (.mk 11 3 (-1) (-1) (-1) 0 3 []) s94 else (dfT 7 (.mk 11 3 (-1) (-1) (-1) 0 3 []), s94)) = (.mk 0 [] q.2.1 q.2.2.1 [], q.2.2.2) ∧ St w0 G0 p pb q.2.2.2 ((g73, 67, es73.flatten ++ [str u74, .int .i32 n77, .int .i32 n79, .int .i32 n81, .int .i32 n83, a85, .int .i32 n90, a92, q.1, .slice none 0 0, .bool false, .int .i8 0, .map none] ++ ((List.replicate (n73.toNat - (i73 + 1)) [str [], .int .i32 0, .int .i32 0, .int .i32 0, .int .i32 0, .slice none 0 0, .int .i32 0, .slice none 0 0, .slice none 0 0, .slice none 0 0, .bool false, .int .i8 0, .map none]).flatten ++ post73)) :: L73) (fun w => ListR true (elZ true 6 3 []) (elQ true 6 3 [] ⟨w, FG w0 G0⟩) w (FG w0 G0) q.1 (.mk 0 [] (q.2.1) q.2.2.1 []) ∧ P95 w) w') ?_ ?_
          · refine cI (by rfl) (fun hcv=>?_) (fun hcv=>?_)
            · have hh : hasF (.mk 11 3 (-1) (-1) (-1) 0 3 []) v = true := by have := of_decide_eq_true hcv; rw [hasF_iff]; omega
              ((conv=>whnf);repeat((first|refine mvT ?_|refine mvF ?_|refine yT ?_|refine yF ?_);conv=>whnf))
              refine ⟨_, ld (H.cell rfl (k := 8) rfl) (by first | omega | (simp [hlen2]; done) | (simp [hlen2]; omega)), ?_⟩; ((conv=>whnf);repeat((first|refine mvT ?_|refine mvF ?_|refine yT ?_|refine yF ?_);conv=>whnf))
              (refine mvB ?_;((conv=>whnf);repeat((first|refine mvT ?_|refine mvF ?_|refine yT ?_|refine yF ?_);conv=>whnf)))
              refine VC.cutE (fun q : Int × Rd => [(82, .int .i32 q.1), (81, .slice none 0 0), (0, .pointer (some ⟨p, 0, none⟩)), (2, .bool uns), (7, .pointer (some ⟨pb, 0, none⟩)), (8, .int .i16 v), (9, .bool fx), (10, .pointer (some ⟨p, 0, none⟩)), (52, .int .i32 n66), (51, .slice (some ⟨g66, 0, none⟩) n66.toNat cap66), (53, .int .i32 i66), (54, .pointer (some ⟨g66, 0 + (i66 : Int).toNat * 19, none⟩)), (55, .pointer (some ⟨g66, 0 + (i66 : Int).toNat * 19, none⟩)), (60, .int .i32 n73), (59, .slice (some ⟨g73, 0, none⟩) n73.toNat cap73), (61, .int .i32 i73), (62, .pointer (some ⟨g73, 0 + (i73 : Int).toNat * 13, none⟩)), (63, .pointer (some ⟨g73, 0 + (i73 : Int).toNat * 13, none⟩))]) (fun q w' => (-2147483648 ≤ q.1 ∧ q.1 ≤ 2147483647) ∧ rdLn fx s94 = q ∧ St w0 G0 p pb q.2 ((g73, 67, es73.flatten ++ [str u74, .int .i32 n77, .int .i32 n79, .int .i32 n81, .int .i32 n83, a85, .int .i32 n90, a92, .slice none 0 0, .slice none 0 0, .bool false, .int .i8 0, .map none] ++ ((List.replicate (n73.toNat - (i73 + 1)) [str [], .int .i32 0, .int .i32 0, .int .i32 0, .int .i32 0, .slice none 0 0, .int .i32 0, .slice none 0 0, .slice none 0 0, .slice none 0 0, .bool false, .int .i8 0, .map none]).flatten ++ post73)) :: L73) P95 w') ?_ ?_
              · refine cI (by rfl) (fun hc=>?_) (fun hc=>?_)
                · ((conv=>whnf);repeat((first|refine mvT ?_|refine mvF ?_|refine yT ?_|refine yF ?_);conv=>whnf))
                  refine Does.mono H.lnc ?_
                  rintro r w ⟨n, s', rfl, hn, hr, H⟩
                  ((conv=>whnf);repeat((first|refine mvT ?_|refine mvF ?_|refine yT ?_|refine yF ?_);conv=>whnf))
                  exact ⟨(n, s'), ⟨rfl, rfl, rfl, rfl, rfl, rfl, rfl, rfl, rfl, rfl, rfl, rfl, rfl, rfl, rfl, rfl, rfl, rfl, trivial⟩, hn, by rw [hc]; exact hr, H⟩
                · ((conv=>whnf);repeat((first|refine mvT ?_|refine mvF ?_|refine yT ?_|refine yF ?_);conv=>whnf))
                  refine Does.mono H.lnp ?_
                  rintro r w ⟨n, s', rfl, hn, hr, H⟩
                  ((conv=>whnf);repeat((first|refine mvT ?_|refine mvF ?_|refine yT ?_|refine yF ?_);conv=>whnf))
                  exact ⟨(n, s'), ⟨rfl, rfl, rfl, rfl, rfl, rfl, rfl, rfl, rfl, rfl, rfl, rfl, rfl, rfl, rfl, rfl, rfl, rfl, trivial⟩, hn, by rw [hc]; exact hr, H⟩
              clear H
              rintro ⟨n98, s98⟩ w ⟨hn98, hln98, H⟩
              dsimp only at hn98 hln98 H
              ((conv=>whnf);repeat((first|refine mvT ?_|refine mvF ?_|refine yT ?_|refine yF ?_);conv=>whnf))
              refine Does.mono H.ok ?_
              rintro r w ⟨rfl, H⟩
              ((conv=>whnf);repeat((first|refine mvT ?_|refine mvF ?_|refine yT ?_|refine yF ?_);conv=>whnf))
              refine cI (by rfl) (fun hbd=>?_) (fun hbd=>?_)
              · have hbd : s98.2 = true := by simpa using hbd
                ((conv=>whnf);repeat((first|refine mvT ?_|refine mvF ?_|refine yT ?_|refine yF ?_);conv=>whnf))
                refine Does.mono (H.done hL hp1) ?_
                rintro r w ⟨rfl, H⟩
                ((conv=>whnf);repeat((first|refine mvT ?_|refine mvF ?_|refine yT ?_|refine yF ?_);conv=>whnf))
                refine RdPost.early hbd (hup73 (?_)) H
                rw [tail_ver hr74 (by decide), tail_yes (rdField3.trans hr77) ⟨by decide, has_all hv⟩, tail_yes (rdField3.trans hr79) ⟨by decide, has_all hv⟩, tail_yes (rdField3.trans hr81) ⟨by decide, has_all hv⟩, tail_yes (rdField3.trans hr83) ⟨by decide, has_all hv⟩, tail_yes ((rdField_list _ _ _ _ _ _ _ _ _ _ _).trans hr87) ⟨by decide, has_all hv⟩, tail_yes (rdField3.trans hr90) ⟨by decide, has_all hv⟩, tail_yes ((rdField_list _ _ _ _ _ _ _ _ _ _ _).trans hr94) ⟨by decide, has_all hv⟩, tail_len ⟨by decide, hh⟩ hln98 hbd]
              have hbd : s98.2 = false := by simpa using hbd
              clear hbd
              ((conv=>whnf);repeat((first|refine mvT ?_|refine mvF ?_|refine yT ?_|refine yF ?_);conv=>whnf))
              refine cut_zero ?_
              ((conv=>whnf);repeat((first|refine mvT ?_|refine mvF ?_|refine yT ?_|refine yF ?_);conv=>whnf))
              refine VC.cutE (fun a : Value => [(82, .int .i32 n98), (81, a), (0, .pointer (some ⟨p, 0, none⟩)), (2, .bool uns), (7, .pointer (some ⟨pb, 0, none⟩)), (8, .int .i16 v), (9, .bool fx), (10, .pointer (some ⟨p, 0, none⟩)), (52, .int .i32 n66), (51, .slice (some ⟨g66, 0, none⟩) n66.toNat cap66), (53, .int .i32 i66), (54, .pointer (some ⟨g66, 0 + (i66 : Int).toNat * 19, none⟩)), (55, .pointer (some ⟨g66, 0 + (i66 : Int).toNat * 19, none⟩)), (60, .int .i32 n73), (59, .slice (some ⟨g73, 0, none⟩) n73.toNat cap73), (61, .int .i32 i73), (62, .pointer (some ⟨g73, 0 + (i73 : Int).toNat * 13, none⟩)), (63, .pointer (some ⟨g73, 0 + (i73 : Int).toNat * 13, none⟩))]) (fun a w' => ListI w0 G0 p pb 21 [.int .i32 0] (elR 6 v fx 3 []) (elQ true 6 3 []) s98 n98 (decide (n98 ≤ 0)) ((g73, 67, es73.flatten ++ [str u74, .int .i32 n77, .int .i32 n79, .int .i32 n81, .int .i32 n83, a85, .int .i32 n90, a92, .slice none 0 0, .slice none 0 0, .bool false, .int .i8 0, .map none] ++ ((List.replicate (n73.toNat - (i73 + 1)) [str [], .int .i32 0, .int .i32 0, .int .i32 0, .int .i32 0, .slice none 0 0, .int .i32 0, .slice none 0 0, .slice none 0 0, .slice none 0 0, .bool false, .int .i8 0, .map none]).flatten ++ post73)) :: L73) P95 a 0 w') ?_ ?_
              · refine cI (by rfl) (fun hps=>?_) (fun hps=>?_)
                · have hps : 0 < n98 := by have := of_decide_eq_true hps; omega
                  ((conv=>whnf);repeat((first|refine mvT ?_|refine mvF ?_|refine yT ?_|refine yF ?_);conv=>whnf))
                  refine H.grow hps hn98.2 (by decide) rfl rfl (by decide) ?_
                  intro g cap post w hc1 hc2 H
                  ((conv=>whnf);repeat((first|refine mvT ?_|refine mvF ?_|refine yT ?_|refine yF ?_);conv=>whnf))
                  exact ⟨_, ⟨rfl, rfl, rfl, rfl, rfl, rfl, rfl, rfl, rfl, rfl, rfl, rfl, rfl, rfl, rfl, rfl, rfl, rfl, trivial⟩, ListI.some hps (decide_eq_false (by omega)) hc1 hc2 H⟩
                · have hps : n98 ≤ 0 := by have := of_decide_eq_false hps; omega
                  ((conv=>whnf);repeat((first|refine mvT ?_|refine mvF ?_|refine yT ?_|refine yF ?_);conv=>whnf))
                  exact ⟨_, ⟨rfl, rfl, rfl, rfl, rfl, rfl, rfl, rfl, rfl, rfl, rfl, rfl, rfl, rfl, rfl, rfl, rfl, rfl, trivial⟩, ListI.none hps (decide_eq_true hps) H⟩
              clear H
              rintro a98 w H
              ((conv=>whnf);repeat((first|refine mvT ?_|refine mvF ?_|refine yT ?_|refine yF ?_);conv=>whnf))
              have hpL98 : inL ((g73, 67, es73.flatten ++ [str u74, .int .i32 n77, .int .i32 n79, .int .i32 n81, .int .i32 n83, a85, .int .i32 n90, a92, .slice none 0 0, .slice none 0 0, .bool false, .int .i8 0, .map none] ++ ((List.replicate (n73.toNat - (i73 + 1)) [str [], .int .i32 0, .int .i32 0, .int .i32 0, .int .i32 0, .slice none 0 0, .int .i32 0, .slice none 0 0, .slice none 0 0, .slice none 0 0, .bool false, .int .i8 0, .map none]).flatten ++ post73)) :: L73) p := inL.tail hpL73
              refine VL.loop (fun i : Nat => [(82, .int .i32 n98), (81, a98), (83, .int .i32 i), (0, .pointer (some ⟨p, 0, none⟩)), (2, .bool uns), (7, .pointer (some ⟨pb, 0, none⟩)), (8, .int .i16 v), (9, .bool fx), (10, .pointer (some ⟨p, 0, none⟩)), (52, .int .i32 n66), (51, .slice (some ⟨g66, 0, none⟩) n66.toNat cap66), (53, .int .i32 i66), (54, .pointer (some ⟨g66, 0 + (i66 : Int).toNat * 19, none⟩)), (55, .pointer (some ⟨g66, 0 + (i66 : Int).toNat * 19, none⟩)), (60, .int .i32 n73), (59, .slice (some ⟨g73, 0, none⟩) n73.toNat cap73), (61, .int .i32 i73), (62, .pointer (some ⟨g73, 0 + (i73 : Int).toNat * 13, none⟩)), (63, .pointer (some ⟨g73, 0 + (i73 : Int).toNat * 13, none⟩))]) (fun i w' => i ≤ 2147483647 ∧ ListI w0 G0 p pb 21 [.int .i32 0] (elR 6 v fx 3 []) (elQ true 6 3 []) s98 n98 (decide (n98 ≤ 0)) ((g73, 67, es73.flatten ++ [str u74, .int .i32 n77, .int .i32 n79, .int .i32 n81, .int .i32 n83, a85, .int .i32 n90, a92, .slice none 0 0, .slice none 0 0, .bool false, .int .i8 0, .map none] ++ ((List.replicate (n73.toNat - (i73 + 1)) [str [], .int .i32 0, .int .i32 0, .int .i32 0, .int .i32 0, .slice none 0 0, .int .i32 0, .slice none 0 0, .slice none 0 0, .slice none 0 0, .bool false, .int .i8 0, .map none]).flatten ++ post73)) :: L73) P95 a98 i w') (fun i => n98.toNat - i) 0 ⟨rfl, rfl, rfl, rfl, rfl, rfl, rfl, rfl, rfl, rfl, rfl, rfl, rfl, rfl, rfl, rfl, rfl, rfl, rfl, trivial⟩ ⟨by decide, H⟩ ?_
              clear H
              rintro i98 w ⟨hi98, H⟩
              ((conv=>whnf);repeat((first|refine mvT ?_|refine mvF ?_|refine yT ?_|refine yF ?_);conv=>whnf))
              refine cI (by rfl) (fun h9=>?_) (fun h9=>?_)
              · have hlt98 : (i98 : Int) < n98 := of_decide_eq_true h9
                obtain ⟨g98, cap98, post98, rfl, hgo98, HI⟩ := H.go hlt98
                obtain ⟨es98, ts98, si98, hes98, hez98, hrn98, hts98, hlen3, H⟩ := HI.open hgo98.2.2.2.2
                obtain ⟨L98, hL98⟩ : ∃ L : List Ob, L = ((g73, 67, es73.flatten ++ [str u74, .int .i32 n77, .int .i32 n79, .int .i32 n81, .int .i32 n83, a85, .int .i32 n90, a92, .slice none 0 0, .slice none 0 0, .bool false, .int .i8 0, .map none] ++ ((List.replicate (n73.toNat - (i73 + 1)) [str [], .int .i32 0, .int .i32 0, .int .i32 0, .int .i32 0, .slice none 0 0, .int .i32 0, .slice none 0 0, .slice none 0 0, .slice none 0 0, .bool false, .int .i8 0, .map none]).flatten ++ post73)) :: L73) := ⟨_, rfl⟩
                rw [← hL98] at H hpL98
                obtain ⟨P98, hP98⟩ : ∃ P : World → Prop, P = fun w => (∀ (j : Nat) (c : List Value) (y : T), es98[j]? = some c → ts98[j]? = some y → elQ true 6 3 [] ⟨w, FG w0 G0⟩ c y) ∧ P95 w := ⟨_, rfl⟩
                rw [← hP98] at H
                replace H : St w0 G0 p pb si98 ((g98, 21, es98.flatten ++ [.int .i32 0] ++ ((List.replicate (n98.toNat - (i98 + 1)) [.int .i32 0]).flatten ++ post98)) :: L98) P98 w := H
                ((conv=>whnf);repeat((first|refine mvT ?_|refine mvF ?_|refine yT ?_|refine yF ?_);conv=>whnf))
                refine Does.mono H.int32 ?_
                rintro r w ⟨n99, s99, rfl, hn99, hr99, H⟩
                ((conv=>whnf);repeat((first|refine mvT ?_|refine mvF ?_|refine yT ?_|refine yF ?_);conv=>whnf))
                refine ⟨g98, 0, rfl, ⟨by omega, by omega⟩, ?_⟩
                ((conv=>whnf);repeat((first|refine mvT ?_|refine mvF ?_|refine yT ?_|refine yF ?_);conv=>whnf))
                refine H.st1 (v := .int .i32 n99) 0 (rfl) (rfl) rfl (by first | omega | (simp [hlen3]; done) | (simp [hlen3]; omega)) rfl (Nat.lt_of_lt_of_le (Nat.lt_succ_self _) (Nat.le_of_ble_eq_true rfl)) ?_
                intro w H
                ((conv=>whnf);repeat((first|refine mvT ?_|refine mvF ?_|refine yT ?_|refine yF ?_);conv=>whnf))
                replace H : St w0 G0 p pb s99 ((g98, 21, es98.flatten ++ [.int .i32 n99] ++ ((List.replicate (n98.toNat - (i98 + 1)) [.int .i32 0]).flatten ++ post98)) :: L98) P98 w := H
                refine ⟨i98 + 1, ⟨rfl, rfl, ?_, rfl, rfl, rfl, rfl, rfl, rfl, rfl, rfl, rfl, rfl, rfl, rfl, rfl, rfl, rfl, rfl, trivial⟩, ⟨by omega, ListI.back hgo98 (LoopI.next hes98 hez98 hrn98 hts98 (cur := [.int .i32 n99]) (x := numT n99) (hr99) rfl (by rw [← hL98]; exact H) fun w hP => ?_)⟩, by omega⟩
                · show some (Value.int .i32 _) = _
                  rw [IntKind.wrap_i32]
                  simp only [Option.some.injEq, Value.int.injEq, true_and]
                  omega
                · skip
                  rw [hP98] at hP
                  exact ⟨⟨_, hn99, rfl, rfl⟩, hP⟩
              have hge98 : ¬ (i98 : Int) < n98 := of_decide_eq_false h9
              obtain ⟨l100, s100, hone100, hl100, hr100, H⟩ := H.done hge98 hln98 (nl := nlF (.mk 11 3 (-1) (-1) (-1) 0 3 []) v) (sz := elZ true 6 3 []) rfl hpL98 rfl
              ((conv=>whnf);repeat((first|refine mvT ?_|refine mvF ?_|refine yT ?_|refine yF ?_);conv=>whnf))
              obtain ⟨P101, hP101⟩ : ∃ P : World → Prop, P = fun w => ListR true (elZ true 6 3 []) (elQ true 6 3 [] ⟨w, FG w0 G0⟩) w (FG w0 G0) a98 (.mk 0 [] (decide (n98 ≤ 0)) l100 []) ∧ P95 w := ⟨_, rfl⟩
              replace H : St w0 G0 p pb s100 ((g73, 67, es73.flatten ++ [str u74, .int .i32 n77, .int .i32 n79, .int .i32 n81, .int .i32 n83, a85, .int .i32 n90, a92, .slice none 0 0, .slice none 0 0, .bool false, .int .i8 0, .map none] ++ ((List.replicate (n73.toNat - (i73 + 1)) [str [], .int .i32 0, .int .i32 0, .int .i32 0, .int .i32 0, .slice none 0 0, .int .i32 0, .slice none 0 0, .slice none 0 0, .slice none 0 0, .bool false, .int .i8 0, .map none]).flatten ++ post73)) :: L73) P101 w := by rw [hP101]; exact H
              refine H.st1 (v := a98) 8 (cells_one hone100) (hone100) rfl (by first | omega | (simp [hlen2]; done) | (simp [hlen2]; omega)) rfl (Nat.lt_of_lt_of_le (Nat.lt_succ_self _) (Nat.le_of_ble_eq_true rfl)) ?_
              intro w H
              ((conv=>whnf);repeat((first|refine mvT ?_|refine mvF ?_|refine yT ?_|refine yF ?_);conv=>whnf))
              replace H : St w0 G0 p pb s100 ((g73, 67, es73.flatten ++ [str u74, .int .i32 n77, .int .i32 n79, .int .i32 n81, .int .i32 n83, a85, .int .i32 n90, a92, a98, .slice none 0 0, .bool false, .int .i8 0, .map none] ++ ((List.replicate (n73.toNat - (i73 + 1)) [str [], .int .i32 0, .int .i32 0, .int .i32 0, .int .i32 0, .slice none 0 0, .int .i32 0, .slice none 0 0, .slice none 0 0, .slice none 0 0, .bool false, .int .i8 0, .map none]).flatten ++ post73)) :: L73) P101 w := H
              exact ⟨(a98, decide (n98 ≤ 0), l100, s100), ⟨rfl, rfl, rfl, rfl, rfl, rfl, rfl, rfl, rfl, rfl, rfl, rfl, rfl, rfl, rfl, rfl, trivial⟩, hl100, by rw [if_pos hh]; exact ((rdField_list _ _ _ _ _ _ _ _ _ _ _).trans hr100), by rw [hP101] at H; exact H⟩
            · ((conv=>whnf);repeat((first|refine mvT ?_|refine mvF ?_|refine yT ?_|refine yF ?_);conv=>whnf))
              have hh : ¬ hasF (.mk 11 3 (-1) (-1) (-1) 0 3 []) v = true := by have := of_decide_eq_false hcv; rw [hasF_iff]; omega
              exact ⟨(.slice none 0 0, true, [], s94), ⟨rfl, rfl, rfl, rfl, rfl, rfl, rfl, rfl, rfl, rfl, rfl, rfl, rfl, rfl, rfl, rfl, trivial⟩, fun _ => rfl, by rw [if_neg hh]; rfl, H.add fun w' _ => .inl ⟨rfl, rfl⟩⟩
          clear H
          rintro ⟨c97, nl97, l97, s97⟩ w ⟨hnl97, hr97, H⟩
          dsimp only at hnl97 hr97 H
          ((conv=>whnf);repeat((first|refine mvT ?_|refine mvF ?_|refine yT ?_|refine yF ?_);conv=>whnf))
          obtain ⟨P103, hP103⟩ : ∃ P : World → Prop, P = fun w => ListR true (elZ true 6 3 []) (elQ true 6 3 [] ⟨w, FG w0 G0⟩) w (FG w0 G0) c97 (.mk 0 [] (nl97) l97 []) ∧ P95 w := ⟨_, rfl⟩
          replace H : St w0 G0 p pb s97 ((g73, 67, es73.flatten ++ [str u74, .int .i32 n77, .int .i32 n79, .int .i32 n81, .int .i32 n83, a85, .int .i32 n90, a92, c97, .slice none 0 0, .bool false, .int .i8 0, .map none] ++ ((List.replicate (n73.toNat - (i73 + 1)) [str [], .int .i32 0, .int .i32 0, .int .i32 0, .int .i32 0, .slice none 0 0, .int .i32 0, .slice none 0 0, .slice none 0 0, .slice none 0 0, .bool false, .int .i8 0, .map none]).flatten ++ post73)) :: L73) P103 w := by rw [hP103]; exact H
          refine VC.cutE (fun q : Value × Bool × List T × Rd => [(0, .pointer (some ⟨p, 0, none⟩)), (2, .bool uns), (7, .pointer (some ⟨pb, 0, none⟩)), (8, .int .i16 v), (9, .bool fx), (10, .pointer (some ⟨p, 0, none⟩)), (52, .int .i32 n66), (51, .slice (some ⟨g66, 0, none⟩) n66.toNat cap66), (53, .int .i32 i66), (54, .pointer (some ⟨g66, 0 + (i66 : Int).toNat * 19, none⟩)), (55, .pointer (some ⟨g66, 0 + (i66 : Int).toNat * 19, none⟩)), (60, .int .i32 n73), (59, .slice (some ⟨g73, 0, none⟩) n73.toNat cap73), (61, .int .i32 i73), (62, .pointer (some ⟨g73, 0 + (i73 : Int).toNat * 13, none⟩)), (63, .pointer (some ⟨g73, 0 + (i73 : Int).toNat * 13, none⟩))]) (fun q w' => (q.2.1 = true → q.2.2.1 = []) ∧ (if hasF (.mk 11 3 (-1) (-1) (-1) 0 3 []) v = true then rdField 7 v fx (.mk 11 3 (-1) (-1) (-1) 0 3 []) s97 else (dfT 7 (.mk 11 3 (-1) (-1) (-1) 0 3 []), s97)) = (.mk 0 [] q.2.1 q.2.2.1 [], q.2.2.2) ∧ St w0 G0 p pb q.2.2.2 ((g73, 67, es73.flatten ++ [str u74, .int .i32 n77, .int .i32 n79, .int .i32 n81, .int .i32 n83, a85, .int .i32 n90, a92, c97, q.1, .bool false, .int .i8 0, .map none] ++ ((List.replicate (n73.toNat - (i73 + 1)) [str [], .int .i32 0, .int .i32 0, .int .i32 0, .int .i32 0, .slice none 0 0, .int .i32 0, .slice none 0 0, .slice none 0 0, .slice none 0 0, .bool false, .int .i8 0, .map none]).flatten ++ post73)) :: L73) (fun w => ListR true (elZ true 6 3 []) (elQ true 6 3 [] ⟨w, FG w0 G0⟩) w (FG w0 G0) q.1 (.mk 0 [] (q.2.1) q.2.2.1 []) ∧ P103 w) w') ?_ ?_
          · refine cI (by rfl) (fun hcv=>?_) (fun hcv=>?_)
            · have hh : hasF (.mk 11 3 (-1) (-1) (-1) 0 3 []) v = true := by have := of_decide_eq_true hcv; rw [hasF_iff]; omega
              ((conv=>whnf);repeat((first|refine mvT ?_|refine mvF ?_|refine yT ?_|refine yF ?_);conv=>whnf))
              refine ⟨_, ld (H.cell rfl (k := 9) rfl) (by first | omega | (simp [hlen2]; done) | (simp [hlen2]; omega)), ?_⟩; ((conv=>whnf);repeat((first|refine mvT ?_|refine mvF ?_|refine yT ?_|refine yF ?_);conv=>whnf))
              (refine mvB ?_;((conv=>whnf);repeat((first|refine mvT ?_|refine mvF ?_|refine yT ?_|refine yF ?_);conv=>whnf)))
              refine VC.cutE (fun q : Int × Rd => [(87, .int .i32 q.1), (86, .slice none 0 0), (0, .pointer (some ⟨p, 0, none⟩)), (2, .bool uns), (7, .pointer (some ⟨pb, 0, none⟩)), (8, .int .i16 v), (9, .bool fx), (10, .pointer (some ⟨p, 0, none⟩)), (52, .int .i32 n66), (51, .slice (some ⟨g66, 0, none⟩) n66.toNat cap66), (53, .int .i32 i66), (54, .pointer (some ⟨g66, 0 + (i66 : Int).toNat * 19, none⟩)), (55, .pointer (some ⟨g66, 0 + (i66 : Int).toNat * 19, none⟩)), (60, .int .i32 n73), (59, .slice (some ⟨g73, 0, none⟩) n73.toNat cap73), (61, .int .i32 i73), (62, .pointer (some ⟨g73, 0 + (i73 : Int).toNat * 13, none⟩)), (63, .pointer (some ⟨g73, 0 + (i73 : Int).toNat * 13, none⟩))]) (fun q w' => (-2147483648 ≤ q.1 ∧ q.1 ≤ 2147483647) ∧ rdLn fx s97 = q ∧ St w0 G0 p pb q.2 ((g73, 67, es73.flatten ++ [str u74, .int .i32 n77, .int .i32 n79, .int .i32 n81, .int .i32 n83, a85, .int .i32 n90, a92, c97, .slice none 0 0, .bool false, .int .i8 0, .map none] ++ ((List.replicate (n73.toNat - (i73 + 1)) [str [], .int .i32 0, .int .i32 0, .int .i32 0, .int .i32 0, .slice none 0 0, .int .i32 0, .slice none 0 0, .slice none 0 0, .slice none 0 0, .bool false, .int .i8 0, .map none]).flatten ++ post73)) :: L73) P103 w') ?_ ?_
              · refine cI (by rfl) (fun hc=>?_) (fun hc=>?_)
                · ((conv=>whnf);repeat((first|refine mvT ?_|refine mvF ?_|refine yT ?_|refine yF ?_);conv=>whnf))
                  refine Does.mono H.lnc ?_
                  rintro r w ⟨n, s', rfl, hn, hr, H⟩
                  ((conv=>whnf);repeat((first|refine mvT ?_|refine mvF ?_|refine yT ?_|refine yF ?_);conv=>whnf))
                  exact ⟨(n, s'), ⟨rfl, rfl, rfl, rfl, rfl, rfl, rfl, rfl, rfl, rfl, rfl, rfl, rfl, rfl, rfl, rfl, rfl, rfl, trivial⟩, hn, by rw [hc]; exact hr, H⟩
                · ((conv=>whnf);repeat((first|refine mvT ?_|refine mvF ?_|refine yT ?_|refine yF ?_);conv=>whnf))
                  refine Does.mono H.lnp ?_
                  rintro r w ⟨n, s', rfl, hn, hr, H⟩
                  ((conv=>whnf);repeat((first|refine mvT ?_|refine mvF ?_|refine yT ?_|refine yF ?_);conv=>whnf))
                  exact ⟨(n, s'), ⟨rfl, rfl, rfl, rfl, rfl, rfl, rfl, rfl, rfl, rfl, rfl, rfl, rfl, rfl, rfl, rfl, rfl, rfl, trivial⟩, hn, by rw [hc]; exact hr, H⟩
              clear H
              rintro ⟨n105, s105⟩ w ⟨hn105, hln105, H⟩
              dsimp only at hn105 hln105 H
              ((conv=>whnf);repeat((first|refine mvT ?_|refine mvF ?_|refine yT ?_|refine yF ?_);conv=>whnf))
              refine Does.mono H.ok ?_
              rintro r w ⟨rfl, H⟩
              ((conv=>whnf);repeat((first|refine mvT ?_|refine mvF ?_|refine yT ?_|refine yF ?_);conv=>whnf))
              refine cI (by rfl) (fun hbd=>?_) (fun hbd=>?_)
              · have hbd : s105.2 = true := by simpa using hbd
                ((conv=>whnf);repeat((first|refine mvT ?_|refine mvF ?_|refine yT ?_|refine yF ?_);conv=>whnf))
                refine Does.mono (H.done hL hp1) ?_
                rintro r w ⟨rfl, H⟩
                ((conv=>whnf);repeat((first|refine mvT ?_|refine mvF ?_|refine yT ?_|refine yF ?_);conv=>whnf))
                refine RdPost.early hbd (hup73 (?_)) H
                rw [tail_ver hr74 (by decide), tail_yes (rdField3.trans hr77) ⟨by decide, has_all hv⟩, tail_yes (rdField3.trans hr79) ⟨by decide, has_all hv⟩, tail_yes (rdField3.trans hr81) ⟨by decide, has_all hv⟩, tail_yes (rdField3.trans hr83) ⟨by decide, has_all hv⟩, tail_yes ((rdField_list _ _ _ _ _ _ _ _ _ _ _).trans hr87) ⟨by decide, has_all hv⟩, tail_yes (rdField3.trans hr90) ⟨by decide, has_all hv⟩, tail_yes ((rdField_list _ _ _ _ _ _ _ _ _ _ _).trans hr94) ⟨by decide, has_all hv⟩, tail_ver hr97 (by decide), tail_len ⟨by decide, hh⟩ hln105 hbd]
              have hbd : s105.2 = false := by simpa using hbd
              clear hbd
              ((conv=>whnf);repeat((first|refine mvT ?_|refine mvF ?_|refine yT ?_|refine yF ?_);conv=>whnf))
              refine cut_zero ?_
              ((conv=>whnf);repeat((first|refine mvT ?_|refine mvF ?_|refine yT ?_|refine yF ?_);conv=>whnf))
              refine VC.cutE (fun a : Value => [(87, .int .i32 n105), (86, a), (0, .pointer (some ⟨p, 0, none⟩)), (2, .bool uns), (7, .pointer (some ⟨pb, 0, none⟩)), (8, .int .i16 v), (9, .bool fx), (10, .pointer (some ⟨p, 0, none⟩)), (52, .int .i32 n66), (51, .slice (some ⟨g66, 0, none⟩) n66.toNat cap66), (53, .int .i32 i66), (54, .pointer (some ⟨g66, 0 + (i66 : Int).toNat * 19, none⟩)), (55, .pointer (some ⟨g66, 0 + (i66 : Int).toNat * 19, none⟩)), (60, .int .i32 n73), (59, .slice (some ⟨g73, 0, none⟩) n73.toNat cap73), (61, .int .i32 i73), (62, .pointer (some ⟨g73, 0 + (i73 : Int).toNat * 13, none⟩)), (63, .pointer (some ⟨g73, 0 + (i73 : Int).toNat * 13, none⟩))]) (fun a w' => ListI w0 G0 p pb 21 [.int .i32 0] (elR 6 v fx 3 []) (elQ true 6 3 []) s105 n105 (decide (n105 ≤ 0)) ((g73, 67, es73.flatten ++ [str u74, .int .i32 n77, .int .i32 n79, .int .i32 n81, .int .i32 n83, a85, .int .i32 n90, a92, c97, .slice none 0 0, .bool false, .int .i8 0, .map none] ++ ((List.replicate (n73.toNat - (i73 + 1)) [str [], .int .i32 0, .int .i32 0, .int .i32 0, .int .i32 0, .slice none 0 0, .int .i32 0, .slice none 0 0, .slice none 0 0, .slice none 0 0, .bool false, .int .i8 0, .map none]).flatten ++ post73)) :: L73) P103 a 0 w') ?_ ?_
              · refine cI (by rfl) (fun hps=>?_) (fun hps=>?_)
                · have hps : 0 < n105 := by have := of_decide_eq_true hps; omega
                  ((conv=>whnf);repeat((first|refine mvT ?_|refine mvF ?_|refine yT ?_|refine yF ?_);conv=>whnf))
                  refine H.grow hps hn105.2 (by decide) rfl rfl (by decide) ?_
                  intro g cap post w hc1 hc2 H
                  ((conv=>whnf);repeat((first|refine mvT ?_|refine mvF ?_|refine yT ?_|refine yF ?_);conv=>whnf))
                  exact ⟨_, ⟨rfl, rfl, rfl, rfl, rfl, rfl, rfl, rfl, rfl, rfl, rfl, rfl, rfl, rfl, rfl, rfl, rfl, rfl, trivial⟩, ListI.some hps (decide_eq_false (by omega)) hc1 hc2 H⟩
                · have hps : n105 ≤ 0 := by have := of_decide_eq_false hps; omega
                  ((conv=>whnf);repeat((first|refine mvT ?_|refine mvF ?_|refine yT ?_|refine yF ?_);conv=>whnf))
                  exact ⟨_, ⟨rfl, rfl, rfl, rfl, rfl, rfl, rfl, rfl, rfl, rfl, rfl, rfl, rfl, rfl, rfl, rfl, rfl, rfl, trivial⟩, ListI.none hps (decide_eq_true hps) H⟩
              clear H
              rintro a105 w H
              ((conv=>whnf);repeat((first|refine mvT ?_|refine mvF ?_|refine yT ?_|refine yF ?_);conv=>whnf))
              have hpL105 : inL ((g73, 67, es73.flatten ++ [str u74, .int .i32 n77, .int .i32 n79, .int .i32 n81, .int .i32 n83, a85, .int .i32 n90, a92, c97, .slice none 0 0, .bool false, .int .i8 0, .map none] ++ ((List.replicate (n73.toNat - (i73 + 1)) [str [], .int .i32 0, .int .i32 0, .int .i32 0, .int .i32 0, .slice none 0 0, .int .i32 0, .slice none 0 0, .slice none 0 0, .slice none 0 0, .bool false, .int .i8 0, .map none]).flatten ++ post73)) :: L73) p := inL.tail hpL73
              refine VL.loop (fun i : Nat => [(87, .int .i32 n105), (86, a105), (88, .int .i32 i), (0, .pointer (some ⟨p, 0, none⟩)), (2, .bool uns), (7, .pointer (some ⟨pb, 0, none⟩)), (8, .int .i16 v), (9, .bool fx), (10, .pointer (some ⟨p, 0, none⟩)), (52, .int .i32 n66), (51, .slice (some ⟨g66, 0, none⟩) n66.toNat cap66), (53, .int .i32 i66), (54, .pointer (some ⟨g66, 0 + (i66 : Int).toNat * 19, none⟩)), (55, .pointer (some ⟨g66, 0 + (i66 : Int).toNat * 19, none⟩)), (60, .int .i32 n73), (59, .slice (some ⟨g73, 0, none⟩) n73.toNat cap73), (61, .int .i32 i73), (62, .pointer (some ⟨g73, 0 + (i73 : Int).toNat * 13, none⟩)), (63, .pointer (some ⟨g73, 0 + (i73 : Int).toNat * 13, none⟩))]) (fun i w' => i ≤ 2147483647 ∧ ListI w0 G0 p pb 21 [.int .i32 0] (elR 6 v fx 3 []) (elQ true 6 3 []) s105 n105 (decide (n105 ≤ 0)) ((g73, 67, es73.flatten ++ [str u74, .int .i32 n77, .int .i32 n79, .int .i32 n81, .int .i32 n83, a85, .int .i32 n90, a92, c97, .slice none 0 0, .bool false, .int .i8 0, .map none] ++ ((List.replicate (n73.toNat - (i73 + 1)) [str [], .int .i32 0, .int .i32 0, .int .i32 0, .int .i32 0, .slice none 0 0, .int .i32 0, .slice none 0 0, .slice none 0 0, .slice none 0 0, .bool false, .int .i8 0, .map none]).flatten ++ post73)) :: L73) P103 a105 i w') (fun i => n105.toNat - i) 0 ⟨rfl, rfl, rfl, rfl, rfl, rfl, rfl, rfl, rfl, rfl, rfl, rfl, rfl, rfl, rfl, rfl, rfl, rfl, rfl, trivial⟩ ⟨by decide, H⟩ ?_
              clear H
              rintro i105 w ⟨hi105, H⟩
              ((conv=>whnf);repeat((first|refine mvT ?_|refine mvF ?_|refine yT ?_|refine yF ?_);conv=>whnf))
              refine cI (by rfl) (fun h9=>?_) (fun h9=>?_)
              · have hlt105 : (i105 : Int) < n105 := of_decide_eq_true h9
                obtain ⟨g105, cap105, post105, rfl, hgo105, HI⟩ := H.go hlt105
                obtain ⟨es105, ts105, si105, hes105, hez105, hrn105, hts105, hlen3, H⟩ := HI.open hgo105.2.2.2.2
                obtain ⟨L105, hL105⟩ : ∃ L : List Ob, L = ((g73, 67, es73.flatten ++ [str u74, .int .i32 n77, .int .i32 n79, .int .i32 n81, .int .i32 n83, a85, .int .i32 n90, a92, c97, .slice none 0 0, .bool false, .int .i8 0, .map none] ++ ((List.replicate (n73.toNat - (i73 + 1)) [str [], .int .i32 0, .int .i32 0, .int .i32 0, .int .i32 0, .slice none 0 0, .int .i32 0, .slice none 0 0, .slice none 0 0, .slice none 0 0, .bool false, .int .i8 0, .map none]).flatten ++ post73)) :: L73) := ⟨_, rfl⟩
                rw [← hL105] at H hpL105
                obtain ⟨P105, hP105⟩ : ∃ P : World → Prop, P = fun w => (∀ (j : Nat) (c : List Value) (y : T), es105[j]? = some c → ts105[j]? = some y → elQ true 6 3 [] ⟨w, FG w0 G0⟩ c y) ∧ P103 w := ⟨_, rfl⟩
                rw [← hP105] at H
                replace H : St w0 G0 p pb si105 ((g105, 21, es105.flatten ++ [.int .i32 0] ++ ((List.replicate (n105.toNat - (i105 + 1)) [.int .i32 0]).flatten ++ post105)) :: L105) P105 w := H
                ((conv=>whnf);repeat((first|refine mvT ?_|refine mvF ?_|refine yT ?_|refine yF ?_);conv=>whnf))
                refine Does.mono H.int32 ?_
                rintro r w ⟨n106, s106, rfl, hn106, hr106, H⟩
                ((conv=>whnf);repeat((first|refine mvT ?_|refine mvF ?_|refine yT ?_|refine yF ?_);conv=>whnf))
                refine ⟨g105, 0, rfl, ⟨by omega, by omega⟩, ?_⟩
                ((conv=>whnf);repeat((first|refine mvT ?_|refine mvF ?_|refine yT ?_|refine yF ?_);conv=>whnf))
                refine H.st1 (v := .int .i32 n106) 0 (rfl) (rfl) rfl (by first | omega | (simp [hlen3]; done) | (simp [hlen3]; omega)) rfl (Nat.lt_of_lt_of_le (Nat.lt_succ_self _) (Nat.le_of_ble_eq_true rfl)) ?_
                intro w H
                ((conv=>whnf);repeat((first|refine mvT ?_|refine mvF ?_|refine yT ?_|refine yF ?_);conv=>whnf))
                replace H : St w0 G0 p pb s106 ((g105, 21, es105.flatten ++ [.int .i32 n106] ++ ((List.replicate (n105.toNat - (i105 + 1)) [.int .i32 0]).flatten ++ post105)) :: L105) P105 w := H
                refine ⟨i105 + 1, ⟨rfl, rfl, ?_, rfl, rfl, rfl, rfl, rfl, rfl, rfl, rfl, rfl, rfl, rfl, rfl, rfl, rfl, rfl, rfl, trivial⟩, ⟨by omega, ListI.back hgo105 (LoopI.next hes105 hez105 hrn105 hts105 (cur := [.int .i32 n106]) (x := numT n106) (hr106) rfl (by rw [← hL105]; exact H) fun w hP => ?_)⟩, by omega⟩
                · show some (Value.int .i32 _) = _
                  rw [IntKind.wrap_i32]
                  simp only [Option.some.injEq, Value.int.injEq, true_and]
                  omega
                · skip
                  rw [hP105] at hP
                  exact ⟨⟨_, hn106, rfl, rfl⟩, hP⟩
              have hge105 : ¬ (i105 : Int) < n105 := of_decide_eq_false h9
              obtain ⟨l107, s107, hone107, hl107, hr107, H⟩ := H.done hge105 hln105 (nl := nlF (.mk 11 3 (-1) (-1) (-1) 0 3 []) v) (sz := elZ true 6 3 []) rfl hpL105 rfl
              ((conv=>whnf);repeat((first|refine mvT ?_|refine mvF ?_|refine yT ?_|refine yF ?_);conv=>whnf))
              obtain ⟨P108, hP108⟩ : ∃ P : World → Prop, P = fun w => ListR true (elZ true 6 3 []) (elQ true 6 3 [] ⟨w, FG w0 G0⟩) w (FG w0 G0) a105 (.mk 0 [] (decide (n105 ≤ 0)) l107 []) ∧ P103 w := ⟨_, rfl⟩
              replace H : St w0 G0 p pb s107 ((g73, 67, es73.flatten ++ [str u74, .int .i32 n77, .int .i32 n79, .int .i32 n81, .int .i32 n83, a85, .int .i32 n90, a92, c97, .slice none 0 0, .bool false, .int .i8 0, .map none] ++ ((List.replicate (n73.toNat - (i73 + 1)) [str [], .int .i32 0, .int .i32 0, .int .i32 0, .int .i32 0, .slice none 0 0, .int .i32 0, .slice none 0 0, .slice none 0 0, .slice none 0 0, .bool false, .int .i8 0, .map none]).flatten ++ post73)) :: L73) P108 w := by rw [hP108]; exact H
              refine H.st1 (v := a105) 9 (cells_one hone107) (hone107) rfl (by first | omega | (simp [hlen2]; done) | (simp [hlen2]; omega)) rfl (Nat.lt_of_lt_of_le (Nat.lt_succ_self _) (Nat.le_of_ble_eq_true rfl)) ?_
              intro w H
              ((conv=>whnf);repeat((first|refine mvT ?_|refine mvF ?_|refine yT ?_|refine yF ?_);conv=>whnf))
              replace H : St w0 G0 p pb s107 ((g73, 67, es73.flatten ++ [str u74, .int .i32 n77, .int .i32 n79, .int .i32 n81, .int .i32 n83, a85, .int .i32 n90, a92, c97, a105, .bool false, .int .i8 0, .map none] ++ ((List.replicate (n73.toNat - (i73 + 1)) [str [], .int .i32 0, .int .i32 0, .int .i32 0, .int .i32 0, .slice none 0 0, .int .i32 0, .slice none 0 0, .slice none 0 0, .slice none 0 0, .bool false, .int .i8 0, .map none]).flatten ++ post73)) :: L73) P108 w := H
              exact ⟨(a105, decide (n105 ≤ 0), l107, s107), ⟨rfl, rfl, rfl, rfl, rfl, rfl, rfl, rfl, rfl, rfl, rfl, rfl, rfl, rfl, rfl, rfl, trivial⟩, hl107, by rw [if_pos hh]; exact ((rdField_list _ _ _ _ _ _ _ _ _ _ _).trans hr107), by rw [hP108] at H; exact H⟩
            · ((conv=>whnf);repeat((first|refine mvT ?_|refine mvF ?_|refine yT ?_|refine yF ?_);conv=>whnf))
              have hh : ¬ hasF (.mk 11 3 (-1) (-1) (-1) 0 3 []) v = true := by have := of_decide_eq_false hcv; rw [hasF_iff]; omega
              exact ⟨(.slice none 0 0, true, [], s97), ⟨rfl, rfl, rfl, rfl, rfl, rfl, rfl, rfl, rfl, rfl, rfl, rfl, rfl, rfl, rfl, rfl, trivial⟩, fun _ => rfl, by rw [if_neg hh]; rfl, H.add fun w' _ => .inl ⟨rfl, rfl⟩⟩
          clear H
          rintro ⟨c104, nl104, l104, s104⟩ w ⟨hnl104, hr104, H⟩
          dsimp only at hnl104 hr104 H
          ((conv=>whnf);repeat((first|refine mvT ?_|refine mvF ?_|refine yT ?_|refine yF ?_);conv=>whnf))
          obtain ⟨P110, hP110⟩ : ∃ P : World → Prop, P = fun w => ListR true (elZ true 6 3 []) (elQ true 6 3 [] ⟨w, FG w0 G0⟩) w (FG w0 G0) c104 (.mk 0 [] (nl104) l104 []) ∧ P103 w := ⟨_, rfl⟩
          replace H : St w0 G0 p pb s104 ((g73, 67, es73.flatten ++ [str u74, .int .i32 n77, .int .i32 n79, .int .i32 n81, .int .i32 n83, a85, .int .i32 n90, a92, c97, c104, .bool false, .int .i8 0, .map none] ++ ((List.replicate (n73.toNat - (i73 + 1)) [str [], .int .i32 0, .int .i32 0, .int .i32 0, .int .i32 0, .slice none 0 0, .int .i32 0, .slice none 0 0, .slice none 0 0, .slice none 0 0, .bool false, .int .i8 0, .map none]).flatten ++ post73)) :: L73) P110 w := by rw [hP110]; exact H
          refine VC.cutE (fun q : Bool × Rd => [(0, .pointer (some ⟨p, 0, none⟩)), (2, .bool uns), (7, .pointer (some ⟨pb, 0, none⟩)), (8, .int .i16 v), (9, .bool fx), (10, .pointer (some ⟨p, 0, none⟩)), (52, .int .i32 n66), (51, .slice (some ⟨g66, 0, none⟩) n66.toNat cap66), (53, .int .i32 i66), (54, .pointer (some ⟨g66, 0 + (i66 : Int).toNat * 19, none⟩)), (55, .pointer (some ⟨g66, 0 + (i66 : Int).toNat * 19, none⟩)), (60, .int .i32 n73), (59, .slice (some ⟨g73, 0, none⟩) n73.toNat cap73), (61, .int .i32 i73), (62, .pointer (some ⟨g73, 0 + (i73 : Int).toNat * 13, none⟩)), (63, .pointer (some ⟨g73, 0 + (i73 : Int).toNat * 13, none⟩))]) (fun q w' => (if hasF (.mk 0 1 (-1) (-1) (-1) 0 0 []) v = true then rdField 7 v fx (.mk 0 1 (-1) (-1) (-1) 0 0 []) s104 else (dfT 7 (.mk 0 1 (-1) (-1) (-1) 0 0 []), s104)) = (numT (if q.1 = true then 1 else 0), q.2) ∧ St w0 G0 p pb q.2 ((g73, 67, es73.flatten ++ [str u74, .int .i32 n77, .int .i32 n79, .int .i32 n81, .int .i32 n83, a85, .int .i32 n90, a92, c97, c104, .bool q.1, .int .i8 0, .map none] ++ ((List.replicate (n73.toNat - (i73 + 1)) [str [], .int .i32 0, .int .i32 0, .int .i32 0, .int .i32 0, .slice none 0 0, .int .i32 0, .slice none 0 0, .slice none 0 0, .slice none 0 0, .bool false, .int .i8 0, .map none]).flatten ++ post73)) :: L73) P110 w') ?_ ?_
          · refine cI (by rfl) (fun hcv=>?_) (fun hcv=>?_)
            · ((conv=>whnf);repeat((first|refine mvT ?_|refine mvF ?_|refine yT ?_|refine yF ?_);conv=>whnf))
              refine Does.mono H.bool ?_
              rintro r w ⟨b112, s112, rfl, hr112, H⟩
              ((conv=>whnf);repeat((first|refine mvT ?_|refine mvF ?_|refine yT ?_|refine yF ?_);conv=>whnf))
              (refine mvB ?_;((conv=>whnf);repeat((first|refine mvT ?_|refine mvF ?_|refine yT ?_|refine yF ?_);conv=>whnf)))
              refine H.st1 (v := .bool b112) 10 (rfl) (rfl) rfl (by first | omega | (simp [hlen2]; done) | (simp [hlen2]; omega)) rfl (Nat.lt_of_lt_of_le (Nat.lt_succ_self _) (Nat.le_of_ble_eq_true rfl)) ?_
              intro w H
              ((conv=>whnf);repeat((first|refine mvT ?_|refine mvF ?_|refine yT ?_|refine yF ?_);conv=>whnf))
              replace H : St w0 G0 p pb s112 ((g73, 67, es73.flatten ++ [str u74, .int .i32 n77, .int .i32 n79, .int .i32 n81, .int .i32 n83, a85, .int .i32 n90, a92, c97, c104, .bool b112, .int .i8 0, .map none] ++ ((List.replicate (n73.toNat - (i73 + 1)) [str [], .int .i32 0, .int .i32 0, .int .i32 0, .int .i32 0, .slice none 0 0, .int .i32 0, .slice none 0 0, .slice none 0 0, .slice none 0 0, .bool false, .int .i8 0, .map none]).flatten ++ post73)) :: L73) P110 w := H
              have hh : hasF (.mk 0 1 (-1) (-1) (-1) 0 0 []) v = true := by have := of_decide_eq_true hcv; rw [hasF_iff]; omega
              exact ⟨(b112, s112), ⟨rfl, rfl, rfl, rfl, rfl, rfl, rfl, rfl, rfl, rfl, rfl, rfl, rfl, rfl, rfl, rfl, trivial⟩, by rw [if_pos hh]; exact (rdField0.trans hr112), H⟩
            · ((conv=>whnf);repeat((first|refine mvT ?_|refine mvF ?_|refine yT ?_|refine yF ?_);conv=>whnf))
              have hh : ¬ hasF (.mk 0 1 (-1) (-1) (-1) 0 0 []) v = true := by have := of_decide_eq_false hcv; rw [hasF_iff]; omega
              exact ⟨(false, s104), ⟨rfl, rfl, rfl, rfl, rfl, rfl, rfl, rfl, rfl, rfl, rfl, rfl, rfl, rfl, rfl, rfl, trivial⟩, by rw [if_neg hh]; rfl, H⟩
          clear H
          rintro ⟨n111, s111⟩ w ⟨hr111, H⟩
          dsimp only at hr111 H
          ((conv=>whnf);repeat((first|refine mvT ?_|refine mvF ?_|refine yT ?_|refine yF ?_);conv=>whnf))
          replace H : St w0 G0 p pb s111 ((g73, 67, es73.flatten ++ [str u74, .int .i32 n77, .int .i32 n79, .int .i32 n81, .int .i32 n83, a85, .int .i32 n90, a92, c97, c104, .bool n111, .int .i8 0, .map none] ++ ((List.replicate (n73.toNat - (i73 + 1)) [str [], .int .i32 0, .int .i32 0, .int .i32 0, .int .i32 0, .slice none 0 0, .int .i32 0, .slice none 0 0, .slice none 0 0, .slice none 0 0, .bool false, .int .i8 0, .map none]).flatten ++ post73)) :: L73) P110 w := H
          refine VC.cutE (fun q : Int × Rd => [(0, .pointer (some ⟨p, 0, none⟩)), (2, .bool uns), (7, .pointer (some ⟨pb, 0, none⟩)), (8, .int .i16 v), (9, .bool fx), (10, .pointer (some ⟨p, 0, none⟩)), (52, .int .i32 n66), (51, .slice (some ⟨g66, 0, none⟩) n66.toNat cap66), (53, .int .i32 i66), (54, .pointer (some ⟨g66, 0 + (i66 : Int).toNat * 19, none⟩)), (55, .pointer (some ⟨g66, 0 + (i66 : Int).toNat * 19, none⟩)), (60, .int .i32 n73), (59, .slice (some ⟨g73, 0, none⟩) n73.toNat cap73), (61, .int .i32 i73), (62, .pointer (some ⟨g73, 0 + (i73 : Int).toNat * 13, none⟩)), (63, .pointer (some ⟨g73, 0 + (i73 : Int).toNat * 13, none⟩))]) (fun q w' => IntKind.i8.wrap q.1 = q.1 ∧ (if hasF (.mk 1 6 (-1) (-1) (-1) 0 0 []) v = true then rdField 7 v fx (.mk 1 6 (-1) (-1) (-1) 0 0 []) s111 else (dfT 7 (.mk 1 6 (-1) (-1) (-1) 0 0 []), s111)) = (numT q.1, q.2) ∧ St w0 G0 p pb q.2 ((g73, 67, es73.flatten ++ [str u74, .int .i32 n77, .int .i32 n79, .int .i32 n81, .int .i32 n83, a85, .int .i32 n90, a92, c97, c104, .bool n111, .int .i8 q.1, .map none] ++ ((List.replicate (n73.toNat - (i73 + 1)) [str [], .int .i32 0, .int .i32 0, .int .i32 0, .int .i32 0, .slice none 0 0, .int .i32 0, .slice none 0 0, .slice none 0 0, .slice none 0 0, .bool false, .int .i8 0, .map none]).flatten ++ post73)) :: L73) P110 w') ?_ ?_
          · refine cI (by rfl) (fun hcv=>?_) (fun hcv=>?_)
            · ((conv=>whnf);repeat((first|refine mvT ?_|refine mvF ?_|refine yT ?_|refine yF ?_);conv=>whnf))
              refine Does.mono H.int8 ?_
              rintro r w ⟨n115, s115, rfl, hn115, hr115, H⟩
              ((conv=>whnf);repeat((first|refine mvT ?_|refine mvF ?_|refine yT ?_|refine yF ?_);conv=>whnf))
              refine H.st1 (v := .int .i8 n115) 11 (rfl) (rfl) rfl (by first | omega | (simp [hlen2]; done) | (simp [hlen2]; omega)) rfl (Nat.lt_of_lt_of_le (Nat.lt_succ_self _) (Nat.le_of_ble_eq_true rfl)) ?_
              intro w H
              ((conv=>whnf);repeat((first|refine mvT ?_|refine mvF ?_|refine yT ?_|refine yF ?_);conv=>whnf))
              replace H : St w0 G0 p pb s115 ((g73, 67, es73.flatten ++ [str u74, .int .i32 n77, .int .i32 n79, .int .i32 n81, .int .i32 n83, a85, .int .i32 n90, a92, c97, c104, .bool n111, .int .i8 n115, .map none] ++ ((List.replicate (n73.toNat - (i73 + 1)) [str [], .int .i32 0, .int .i32 0, .int .i32 0, .int .i32 0, .slice none 0 0, .int .i32 0, .slice none 0 0, .slice none 0 0, .slice none 0 0, .bool false, .int .i8 0, .map none]).flatten ++ post73)) :: L73) P110 w := H
              have hh : hasF (.mk 1 6 (-1) (-1) (-1) 0 0 []) v = true := by have := of_decide_eq_true hcv; rw [hasF_iff]; omega
              exact ⟨(n115, s115), ⟨rfl, rfl, rfl, rfl, rfl, rfl, rfl, rfl, rfl, rfl, rfl, rfl, rfl, rfl, rfl, rfl, trivial⟩, hn115, by rw [if_pos hh]; exact (rdField1.trans hr115), H⟩
            · ((conv=>whnf);repeat((first|refine mvT ?_|refine mvF ?_|refine yT ?_|refine yF ?_);conv=>whnf))
              have hh : ¬ hasF (.mk 1 6 (-1) (-1) (-1) 0 0 []) v = true := by have := of_decide_eq_false hcv; rw [hasF_iff]; omega
              exact ⟨(0, s111), ⟨rfl, rfl, rfl, rfl, rfl, rfl, rfl, rfl, rfl, rfl, rfl, rfl, rfl, rfl, rfl, rfl, trivial⟩, rfl, by rw [if_neg hh]; rfl, H⟩
          clear H
          rintro ⟨n114, s114⟩ w ⟨hn114, hr114, H⟩
          dsimp only at hn114 hr114 H
          ((conv=>whnf);repeat((first|refine mvT ?_|refine mvF ?_|refine yT ?_|refine yF ?_);conv=>whnf))
          replace H : St w0 G0 p pb s114 ((g73, 67, es73.flatten ++ [str u74, .int .i32 n77, .int .i32 n79, .int .i32 n81, .int .i32 n83, a85, .int .i32 n90, a92, c97, c104, .bool n111, .int .i8 n114, .map none] ++ ((List.replicate (n73.toNat - (i73 + 1)) [str [], .int .i32 0, .int .i32 0, .int .i32 0, .int .i32 0, .slice none 0 0, .int .i32 0, .slice none 0 0, .slice none 0 0, .slice none 0 0, .bool false, .int .i8 0, .map none]).flatten ++ post73)) :: L73) P110 w := H
          (refine mvB ?_;((conv=>whnf);repeat((first|refine mvT ?_|refine mvF ?_|refine yT ?_|refine yF ?_);conv=>whnf)))
          refine VC.cutB (fun q : Value × List Tg × Rd => [(0, .pointer (some ⟨p, 0, none⟩)), (2, .bool uns), (7, .pointer (some ⟨pb, 0, none⟩)), (8, .int .i16 v), (9, .bool fx), (10, .pointer (some ⟨p, 0, none⟩)), (52, .int .i32 n66), (51, .slice (some ⟨g66, 0, none⟩) n66.toNat cap66), (53, .int .i32 i66), (54, .pointer (some ⟨g66, 0 + (i66 : Int).toNat * 19, none⟩)), (55, .pointer (some ⟨g66, 0 + (i66 : Int).toNat * 19, none⟩)), (60, .int .i32 n73), (59, .slice (some ⟨g73, 0, none⟩) n73.toNat cap73), (61, .int .i32 i73), (62, .pointer (some ⟨g73, 0 + (i73 : Int).toNat * 13, none⟩)), (63, .pointer (some ⟨g73, 0 + (i73 : Int).toNat * 13, none⟩))]) (fun q w' => rdTagsF fx s114 = q.2 ∧ St w0 G0 p pb q.2.2 ((g73, 67, es73.flatten ++ [str u74, .int .i32 n77, .int .i32 n79, .int .i32 n81, .int .i32 n83, a85, .int .i32 n90, a92, c97, c104, .bool n111, .int .i8 n114, q.1] ++ ((List.replicate (n73.toNat - (i73 + 1)) [str [], .int .i32 0, .int .i32 0, .int .i32 0, .int .i32 0, .slice none 0 0, .int .i32 0, .slice none 0 0, .slice none 0 0, .slice none 0 0, .bool false, .int .i8 0, .map none]).flatten ++ post73)) :: L73) (fun w => TGf w0 G0 q.1 q.2.1 w ∧ P110 w) w') ?_ ?_
          · refine cI (by rfl) (fun hc=>?_) (fun hc=>?_)
            · ((conv=>whnf);repeat((first|refine mvT ?_|refine mvF ?_|refine yT ?_|refine yF ?_);conv=>whnf))
              refine Does.mono H.tags ?_
              rintro r w ⟨m, u, s', rfl, hone, hr, H⟩
              ((conv=>whnf);repeat((first|refine mvT ?_|refine mvF ?_|refine yT ?_|refine yF ?_);conv=>whnf))
              refine H.st1 (v := m) 12 (rfl) (hone) rfl (by first | omega | (simp [hlen2]; done) | (simp [hlen2]; omega)) rfl (Nat.lt_of_lt_of_le (Nat.lt_succ_self _) (Nat.le_of_ble_eq_true rfl)) ?_
              intro w H
              ((conv=>whnf);repeat((first|refine mvT ?_|refine mvF ?_|refine yT ?_|refine yF ?_);conv=>whnf))
              exact ⟨(m, u, s'), ⟨rfl, rfl, rfl, rfl, rfl, rfl, rfl, rfl, rfl, rfl, rfl, rfl, rfl, rfl, rfl, rfl, trivial⟩, by rw [rdTagsF, if_pos hc]; exact hr, H⟩
            · ((conv=>whnf);repeat((first|refine mvT ?_|refine mvF ?_|refine yT ?_|refine yF ?_);conv=>whnf))
              exact ⟨(.map none, [], s114), ⟨rfl, rfl, rfl, rfl, rfl, rfl, rfl, rfl, rfl, rfl, rfl, rfl, rfl, rfl, rfl, rfl, trivial⟩, by rw [rdTagsF, if_neg (by rw [hc]; decide)], H.add fun w' _ => TagsR.nil _ _⟩
          clear H
          rintro ⟨m117, u117, s117⟩ w ⟨htg, H⟩
          dsimp only at htg H
          ((conv=>whnf);repeat((first|refine mvT ?_|refine mvF ?_|refine yT ?_|refine yF ?_);conv=>whnf))
          obtain ⟨P118, hP118⟩ : ∃ P : World → Prop, P = fun w => TGf w0 G0 m117 u117 w ∧ P110 w := ⟨_, rfl⟩
          replace H : St w0 G0 p pb s117 ((g73, 67, es73.flatten ++ [str u74, .int .i32 n77, .int .i32 n79, .int .i32 n81, .int .i32 n83, a85, .int .i32 n90, a92, c97, c104, .bool n111, .int .i8 n114, m117] ++ ((List.replicate (n73.toNat - (i73 + 1)) [str [], .int .i32 0, .int .i32 0, .int .i32 0, .int .i32 0, .slice none 0 0, .int .i32 0, .slice none 0 0, .slice none 0 0, .slice none 0 0, .bool false, .int .i8 0, .map none]).flatten ++ post73)) :: L73) P118 w := by rw [hP118]; exact H
          have hpart : rdPart 7 v fx dLeaderAndISRRequestTopicPartition si73 = (.mk 0 [] false [.mk 0 u74 false [] [], numT n77, numT n79, numT n81, numT n83, .mk 0 [] (decide (n85 ≤ 0)) l87 [], numT n90, .mk 0 [] (decide (n92 ≤ 0)) l94 [], .mk 0 [] nl97 l97 [], .mk 0 [] nl104 l104 [], numT (if n111 = true then 1 else 0), numT n114] u117, s117) := by
            unfold rdPart rdPartW
            rw [rdTail_plain (by decide)]
            rw [rdAll_ver hr74 (by decide), rdAll_yes (df := dfT 7) (rdField3.trans hr77) ⟨by decide, has_all hv⟩, rdAll_yes (df := dfT 7) (rdField3.trans hr79) ⟨by decide, has_all hv⟩, rdAll_yes (df := dfT 7) (rdField3.trans hr81) ⟨by decide, has_all hv⟩, rdAll_yes (df := dfT 7) (rdField3.trans hr83) ⟨by decide, has_all hv⟩, rdAll_yes (df := dfT 7) ((rdField_list _ _ _ _ _ _ _ _ _ _ _).trans hr87) ⟨by decide, has_all hv⟩, rdAll_yes (df := dfT 7) (rdField3.trans hr90) ⟨by decide, has_all hv⟩, rdAll_yes (df := dfT 7) ((rdField_list _ _ _ _ _ _ _ _ _ _ _).trans hr94) ⟨by decide, has_all hv⟩, rdAll_ver hr97 (by decide), rdAll_ver hr104 (by decide), rdAll_ver hr111 (by decide), rdAll_ver hr114 (by decide)]
            simp only [rdAll]
            rw [htg]
          refine ⟨i73 + 1, ⟨rfl, rfl, ?_, rfl, rfl, rfl, rfl, rfl, rfl, rfl, rfl, rfl, rfl, rfl, trivial⟩, ⟨by omega, ListI.back hgo73 (LoopI.next hes73 hez73 hrn73 hts73 (cur := [str u74, .int .i32 n77, .int .i32 n79, .int .i32 n81, .int .i32 n83, a85, .int .i32 n90, a92, c97, c104, .bool n111, .int .i8 n114, m117]) (x := .mk 0 [] false [.mk 0 u74 false [] [], numT n77, numT n79, numT n81, numT n83, .mk 0 [] (decide (n85 ≤ 0)) l87 [], numT n90, .mk 0 [] (decide (n92 ≤ 0)) l94 [], .mk 0 [] nl97 l97 [], .mk 0 [] nl104 l104 [], numT (if n111 = true then 1 else 0), numT n114] u117) (hpart) rfl (by rw [← hL73]; exact H) fun w hP => ?_)⟩, by omega⟩
          · show some (Value.int .i32 _) = _
            rw [IntKind.wrap_i32]
            simp only [Option.some.injEq, Value.int.injEq, true_and]
            omega
          · skip
            rw [hP118] at hP
            obtain ⟨hf118_, hP⟩ := hP
            rw [hP110] at hP
            obtain ⟨hf110_, hP⟩ := hP
            rw [hP103] at hP
            obtain ⟨hf103_, hP⟩ := hP
            rw [hP95] at hP
            obtain ⟨hf95_, hP⟩ := hP
            rw [hP88] at hP
            obtain ⟨hf88_, hP⟩ := hP
            rw [hP73] at hP
            exact ⟨QPt (QA1 (QF8 (by decide) u74) (QA1 (QF3 hn77) (QA1 (QF3 hn79) (QA1 (QF3 hn81) (QA1 (QF3 hn83) (QA1 (QF11 hl87 hf88_) (QA1 (QF3 hn90) (QA1 (QF11 hl94 hf95_) (QA1 (QF11 hnl97 hf103_) (QA1 (QF11 hnl104 hf110_) (QA1 (QF0 n111) (QA1 (QF1 hn114) (QA0))))))))))))) hf118_, hP⟩
        have hge73 : ¬ (i73 : Int) < n73 := of_decide_eq_false h9
        obtain ⟨l119, s119, hone119, hl119, hr119, H⟩ := H.done hge73 hln73 (nl := nlF (.mk 11 0 (-1) (-1) (-1) 0 10 dLeaderAndISRRequestTopicPartition) v) (sz := elZ true 7 10 dLeaderAndISRRequestTopicPartition) rfl hpL73 rfl
        ((conv=>whnf);repeat((first|refine mvT ?_|refine mvF ?_|refine yT ?_|refine yF ?_);conv=>whnf))
        obtain ⟨P120, hP120⟩ : ∃ P : World → Prop, P = fun w => ListR true (elZ true 7 10 dLeaderAndISRRequestTopicPartition) (elQ true 7 10 dLeaderAndISRRequestTopicPartition ⟨w, FG w0 G0⟩) w (FG w0 G0) a73 (.mk 0 [] (decide (n73 ≤ 0)) l119 []) ∧ P66 w := ⟨_, rfl⟩
        replace H : St w0 G0 p pb s119 ((g66, 72, es66.flatten ++ [str u67, bcell u69_0, bcell u69_1, bcell u69_2, bcell u69_3, bcell u69_4, bcell u69_5, bcell u69_6, bcell u69_7, bcell u69_8, bcell u69_9, bcell u69_10, bcell u69_11, bcell u69_12, bcell u69_13, bcell u69_14, bcell u69_15, .slice none 0 0, .map none] ++ ((List.replicate (n66.toNat - (i66 + 1)) [str [], .int .u8 0, .int .u8 0, .int .u8 0, .int .u8 0, .int .u8 0, .int .u8 0, .int .u8 0, .int .u8 0, .int .u8 0, .int .u8 0, .int .u8 0, .int .u8 0, .int .u8 0, .int .u8 0, .int .u8 0, .int .u8 0, .slice none 0 0, .map none]).flatten ++ post66)) :: L66) P120 w := by rw [hP120]; exact H
        refine H.st1 (v := a73) 17 (cells_one hone119) (hone119) rfl (by first | omega | (simp [hlen1]; done) | (simp [hlen1]; omega)) rfl (Nat.lt_of_lt_of_le (Nat.lt_succ_self _) (Nat.le_of_ble_eq_true rfl)) ?_
        intro w H
        ((conv=>whnf);repeat((first|refine mvT ?_|refine mvF ?_|refine yT ?_|refine yF ?_);conv=>whnf))
        replace H : St w0 G0 p pb s119 ((g66, 72, es66.flatten ++ [str u67, bcell u69_0, bcell u69_1, bcell u69_2, bcell u69_3, bcell u69_4, bcell u69_5, bcell u69_6, bcell u69_7, bcell u69_8, bcell u69_9, bcell u69_10, bcell u69_11, bcell u69_12, bcell u69_13, bcell u69_14, bcell u69_15, a73, .map none] ++ ((List.replicate (n66.toNat - (i66 + 1)) [str [], .int .u8 0, .int .u8 0, .int .u8 0, .int .u8 0, .int .u8 0, .int .u8 0, .int .u8 0, .int .u8 0, .int .u8 0, .int .u8 0, .int .u8 0, .int .u8 0, .int .u8 0, .int .u8 0, .int .u8 0, .int .u8 0, .slice none 0 0, .map none]).flatten ++ post66)) :: L66) P120 w := H
        (refine mvB ?_;((conv=>whnf);repeat((first|refine mvT ?_|refine mvF ?_|refine yT ?_|refine yF ?_);conv=>whnf)))
        refine VC.cutB (fun q : Value × List Tg × Rd => [(0, .pointer (some ⟨p, 0, none⟩)), (2, .bool uns), (7, .pointer (some ⟨pb, 0, none⟩)), (8, .int .i16 v), (9, .bool fx), (10, .pointer (some ⟨p, 0, none⟩)), (52, .int .i32 n66), (51, .slice (some ⟨g66, 0, none⟩) n66.toNat cap66), (53, .int .i32 i66), (54, .pointer (some ⟨g66, 0 + (i66 : Int).toNat * 19, none⟩)), (55, .pointer (some ⟨g66, 0 + (i66 : Int).toNat * 19, none⟩))]) (fun q w' => rdTagsF fx s119 = q.2 ∧ St w0 G0 p pb q.2.2 ((g66, 72, es66.flatten ++ [str u67, bcell u69_0, bcell u69_1, bcell u69_2, bcell u69_3, bcell u69_4, bcell u69_5, bcell u69_6, bcell u69_7, bcell u69_8, bcell u69_9, bcell u69_10, bcell u69_11, bcell u69_12, bcell u69_13, bcell u69_14, bcell u69_15, a73, q.1] ++ ((List.replicate (n66.toNat - (i66 + 1)) [str [], .int .u8 0, .int .u8 0, .int .u8 0, .int .u8 0, .int .u8 0, .int .u8 0, .int .u8 0, .int .u8 0, .int .u8 0, .int .u8 0, .int .u8 0, .int .u8 0, .int .u8 0, .int .u8 0, .int .u8 0, .int .u8 0, .slice none 0 0, .map none]).flatten ++ post66)) :: L66) (fun w => TGf w0 G0 q.1 q.2.1 w ∧ P120 w) w') ?_ ?_
        · refine cI (by rfl) (fun hc=>?_) (fun hc=>?_)
          · ((conv=>whnf);repeat((first|refine mvT ?_|refine mvF ?_|refine yT ?_|refine yF ?_);conv=>whnf))
            refine Does.mono H.tags ?_
            rintro r w ⟨m, u, s', rfl, hone, hr, H⟩
            ((conv=>whnf);repeat((first|refine mvT ?_|refine mvF ?_|refine yT ?_|refine yF ?_);conv=>whnf))
            refine H.st1 (v := m) 18 (rfl) (hone) rfl (by first | omega | (simp [hlen1]; done) | (simp [hlen1]; omega)) rfl (Nat.lt_of_lt_of_le (Nat.lt_succ_self _) (Nat.le_of_ble_eq_true rfl)) ?_
            intro w H
            ((conv=>whnf);repeat((first|refine mvT ?_|refine mvF ?_|refine yT ?_|refine yF ?_);conv=>whnf))
            exact ⟨(m, u, s'), ⟨rfl, rfl, rfl, rfl, rfl, rfl, rfl, rfl, rfl, rfl, rfl, trivial⟩, by rw [rdTagsF, if_pos hc]; exact hr, H⟩
          · ((conv=>whnf);repeat((first|refine mvT ?_|refine mvF ?_|refine yT ?_|refine yF ?_);conv=>whnf))
            exact ⟨(.map none, [], s119), ⟨rfl, rfl, rfl, rfl, rfl, rfl, rfl, rfl, rfl, rfl, rfl, trivial⟩, by rw [rdTagsF, if_neg (by rw [hc]; decide)], H.add fun w' _ => TagsR.nil _ _⟩
        clear H
        rintro ⟨m122, u122, s122⟩ w ⟨htg, H⟩
        dsimp only at htg H
        ((conv=>whnf);repeat((first|refine mvT ?_|refine mvF ?_|refine yT ?_|refine yF ?_);conv=>whnf))
        obtain ⟨P123, hP123⟩ : ∃ P : World → Prop, P = fun w => TGf w0 G0 m122 u122 w ∧ P120 w := ⟨_, rfl⟩
        replace H : St w0 G0 p pb s122 ((g66, 72, es66.flatten ++ [str u67, bcell u69_0, bcell u69_1, bcell u69_2, bcell u69_3, bcell u69_4, bcell u69_5, bcell u69_6, bcell u69_7, bcell u69_8, bcell u69_9, bcell u69_10, bcell u69_11, bcell u69_12, bcell u69_13, bcell u69_14, bcell u69_15, a73, m122] ++ ((List.replicate (n66.toNat - (i66 + 1)) [str [], .int .u8 0, .int .u8 0, .int .u8 0, .int .u8 0, .int .u8 0, .int .u8 0, .int .u8 0, .int .u8 0, .int .u8 0, .int .u8 0, .int .u8 0, .int .u8 0, .int .u8 0, .int .u8 0, .int .u8 0, .int .u8 0, .slice none 0 0, .map none]).flatten ++ post66)) :: L66) P123 w := by rw [hP123]; exact H
        have hpart : rdPart 8 v fx dLeaderAndISRRequestTopicState si66 = (.mk 0 [] false [.mk 0 u67 false [] [], .mk 0 [u69_0, u69_1, u69_2, u69_3, u69_4, u69_5, u69_6, u69_7, u69_8, u69_9, u69_10, u69_11, u69_12, u69_13, u69_14, u69_15] false [] [], .mk 0 [] (decide (n73 ≤ 0)) l119 []] u122, s122) := by
          unfold rdPart rdPartW
          rw [rdTail_plain (by decide)]
          rw [rdAll_yes (df := dfT 8) (rdField8 (by decide) hr67) ⟨by decide, has_all hv⟩, rdAll_ver hr69 (by decide), rdAll_yes (df := dfT 8) ((rdField_list _ _ _ _ _ _ _ _ _ _ _).trans hr119) ⟨by decide, has_all hv⟩]
          simp only [rdAll]
          rw [htg]
        refine ⟨i66 + 1, ⟨rfl, rfl, ?_, rfl, rfl, rfl, rfl, rfl, rfl, trivial⟩, ⟨by omega, ListI.back hgo66 (LoopI.next hes66 hez66 hrn66 hts66 (cur := [str u67, bcell u69_0, bcell u69_1, bcell u69_2, bcell u69_3, bcell u69_4, bcell u69_5, bcell u69_6, bcell u69_7, bcell u69_8, bcell u69_9, bcell u69_10, bcell u69_11, bcell u69_12, bcell u69_13, bcell u69_14, bcell u69_15, a73, m122]) (x := .mk 0 [] false [.mk 0 u67 false [] [], .mk 0 [u69_0, u69_1, u69_2, u69_3, u69_4, u69_5, u69_6, u69_7, u69_8, u69_9, u69_10, u69_11, u69_12, u69_13, u69_14, u69_15] false [] [], .mk 0 [] (decide (n73 ≤ 0)) l119 []] u122) (hpart) rfl (by rw [← hL66]; exact H) fun w hP => ?_)⟩, by omega⟩
        · show some (Value.int .i32 _) = _
          rw [IntKind.wrap_i32]
          simp only [Option.some.injEq, Value.int.injEq, true_and]
          omega
        · skip
          rw [hP123] at hP
          obtain ⟨hf123_, hP⟩ := hP
          rw [hP120] at hP
          obtain ⟨hf120_, hP⟩ := hP
          rw [hP66] at hP
          exact ⟨QPt (QA1 (QF8 (by decide) u67) (QA1 (QF7 (u := [u69_0, u69_1, u69_2, u69_3, u69_4, u69_5, u69_6, u69_7, u69_8, u69_9, u69_10, u69_11, u69_12, u69_13, u69_14, u69_15]) rfl) (QA1 (QF11 hl119 hf120_) (QA0)))) hf123_, hP⟩
      have hge66 : ¬ (i66 : Int) < n66 := of_decide_eq_false h9
      obtain ⟨l124, s124, hone124, hl124, hr124, H⟩ := H.done hge66 hln66 (nl := nlF (.mk 11 2 (-1) (-1) (-1) 0 10 dLeaderAndISRRequestTopicState) v) (sz := elZ true 8 10 dLeaderAndISRRequestTopicState) rfl hpL66 rfl
      ((conv=>whnf);repeat((first|refine mvT ?_|refine mvF ?_|refine yT ?_|refine yF ?_);conv=>whnf))
      obtain ⟨P125, hP125⟩ : ∃ P : World → Prop, P = fun w => ListR true (elZ true 8 10 dLeaderAndISRRequestTopicState) (elQ true 8 10 dLeaderAndISRRequestTopicState ⟨w, FG w0 G0⟩) w (FG w0 G0) a66 (.mk 0 [] (decide (n66 ≤ 0)) l124 []) ∧ P64 w := ⟨_, rfl⟩
      replace H : St w0 G0 p pb s124 ((p, ty, [] ++ [.int .i16 v, .int .i32 n1, .bool n3, .int .i32 n6, .int .i64 n8, .int .i8 n11, c14, .slice none 0 0, .slice none 0 0, .map none] ++ []) :: []) P125 w := by rw [hP125]; exact H
      refine H.st1 (v := a66) 7 (cells_one hone124) (hone124) rfl (by simp) rfl (Nat.lt_of_lt_of_le (Nat.lt_succ_self _) (Nat.le_of_ble_eq_true rfl)) ?_
      intro w H
      ((conv=>whnf);repeat((first|refine mvT ?_|refine mvF ?_|refine yT ?_|refine yF ?_);conv=>whnf))
      replace H : St w0 G0 p pb s124 ((p, ty, [] ++ [.int .i16 v, .int .i32 n1, .bool n3, .int .i32 n6, .int .i64 n8, .int .i8 n11, c14, a66, .slice none 0 0, .map none] ++ []) :: []) P125 w := H
      exact ⟨(a66, decide (n66 ≤ 0), l124, s124), ⟨rfl, rfl, rfl, rfl, rfl, rfl, trivial⟩, hl124, by rw [if_pos hh]; exact ((rdField_list _ _ _ _ _ _ _ _ _ _ _).trans hr124), by rw [hP125] at H; exact H⟩
    · ((conv=>whnf);repeat((first|refine mvT ?_|refine mvF ?_|refine yT ?_|refine yF ?_);conv=>whnf))
      have hh : ¬ hasF (.mk 11 2 (-1) (-1) (-1) 0 10 dLeaderAndISRRequestTopicState) v = true := by have := of_decide_eq_false hcv; rw [hasF_iff]; omega
      exact ⟨(.slice none 0 0, true, [], s14), ⟨rfl, rfl, rfl, rfl, rfl, rfl, trivial⟩, fun _ => rfl, by rw [if_neg hh]; rfl, H.add fun w' _ => .inl ⟨rfl, rfl⟩⟩
  clear H
  rintro ⟨c65, nl65, l65, s65⟩ w ⟨hnl65, hr65, H⟩
  dsimp only at hnl65 hr65 H
  ((conv=>whnf);repeat((first|refine mvT ?_|refine mvF ?_|refine yT ?_|refine yF ?_);conv=>whnf))
  obtain ⟨P127, hP127⟩ : ∃ P : World → Prop, P = fun w => ListR true (elZ true 8 10 dLeaderAndISRRequestTopicState) (elQ true 8 10 dLeaderAndISRRequestTopicState ⟨w, FG w0 G0⟩) w (FG w0 G0) c65 (.mk 0 [] (nl65) l65 []) ∧ P64 w := ⟨_, rfl⟩
  replace H : St w0 G0 p pb s65 ((p, ty, [] ++ [.int .i16 v, .int .i32 n1, .bool n3, .int .i32 n6, .int .i64 n8, .int .i8 n11, c14, c65, .slice none 0 0, .map none] ++ []) :: []) P127 w := by rw [hP127]; exact H
  refine ldS (H.cell (o := 0) rfl (k := 8) rfl) ?_;((conv=>whnf);repeat((first|refine mvT ?_|refine mvF ?_|refine yT ?_|refine yF ?_);conv=>whnf))
  (refine mvB ?_;((conv=>whnf);repeat((first|refine mvT ?_|refine mvF ?_|refine yT ?_|refine yF ?_);conv=>whnf)))
  refine VC.cutE (fun q : Int × Rd => [(94, .int .i32 q.1), (93, .slice none 0 0), (0, .pointer (some ⟨p, 0, none⟩)), (2, .bool uns), (7, .pointer (some ⟨pb, 0, none⟩)), (8, .int .i16 v), (9, .bool fx), (10, .pointer (some ⟨p, 0, none⟩))]) (fun q w' => (-2147483648 ≤ q.1 ∧ q.1 ≤ 2147483647) ∧ rdLn fx s65 = q ∧ St w0 G0 p pb q.2 ((p, ty, [] ++ [.int .i16 v, .int .i32 n1, .bool n3, .int .i32 n6, .int .i64 n8, .int .i8 n11, c14, c65, .slice none 0 0, .map none] ++ []) :: []) P127 w') ?_ ?_
  · refine cI (by rfl) (fun hc=>?_) (fun hc=>?_)
    · ((conv=>whnf);repeat((first|refine mvT ?_|refine mvF ?_|refine yT ?_|refine yF ?_);conv=>whnf))
      refine Does.mono H.lnc ?_
      rintro r w ⟨n, s', rfl, hn, hr, H⟩
      ((conv=>whnf);repeat((first|refine mvT ?_|refine mvF ?_|refine yT ?_|refine yF ?_);conv=>whnf))
      exact ⟨(n, s'), ⟨rfl, rfl, rfl, rfl, rfl, rfl, rfl, rfl, trivial⟩, hn, by rw [hc]; exact hr, H⟩
    · ((conv=>whnf);repeat((first|refine mvT ?_|refine mvF ?_|refine yT ?_|refine yF ?_);conv=>whnf))
      refine Does.mono H.lnp ?_
      rintro r w ⟨n, s', rfl, hn, hr, H⟩
      ((conv=>whnf);repeat((first|refine mvT ?_|refine mvF ?_|refine yT ?_|refine yF ?_);conv=>whnf))
      exact ⟨(n, s'), ⟨rfl, rfl, rfl, rfl, rfl, rfl, rfl, rfl, trivial⟩, hn, by rw [hc]; exact hr, H⟩
  clear H
  rintro ⟨n128, s128⟩ w ⟨hn128, hln128, H⟩
  dsimp only at hn128 hln128 H
  ((conv=>whnf);repeat((first|refine mvT ?_|refine mvF ?_|refine yT ?_|refine yF ?_);conv=>whnf))
  refine Does.mono H.ok ?_
  rintro r w ⟨rfl, H⟩
  ((conv=>whnf);repeat((first|refine mvT ?_|refine mvF ?_|refine yT ?_|refine yF ?_);conv=>whnf))
  refine cI (by rfl) (fun hbd=>?_) (fun hbd=>?_)
  · have hbd : s128.2 = true := by simpa using hbd
    ((conv=>whnf);repeat((first|refine mvT ?_|refine mvF ?_|refine yT ?_|refine yF ?_);conv=>whnf))
    refine Does.mono (H.done hL hp1) ?_
    rintro r w ⟨rfl, H⟩
    ((conv=>whnf);repeat((first|refine mvT ?_|refine mvF ?_|refine yT ?_|refine yF ?_);conv=>whnf))
    refine RdPost.early hbd (hup0 (?_)) H
    rw [tail_yes (rdField3.trans hr1) ⟨by decide, has_all hv⟩, tail_ver hr3 (by decide), tail_yes (rdField3.trans hr6) ⟨by decide, has_all hv⟩, tail_ver hr8 (by decide), tail_ver hr11 (by decide), tail_ver hr14 (by decide), tail_ver hr65 (by decide), tail_len ⟨by decide, has_all hv⟩ hln128 hbd]
  have hbd : s128.2 = false := by simpa using hbd
  clear hbd
  ((conv=>whnf);repeat((first|refine mvT ?_|refine mvF ?_|refine yT ?_|refine yF ?_);conv=>whnf))
  refine cut_zero ?_
  ((conv=>whnf);repeat((first|refine mvT ?_|refine mvF ?_|refine yT ?_|refine yF ?_);conv=>whnf))
  refine VC.cutE (fun a : Value => [(94, .int .i32 n128), (93, a), (0, .pointer (some ⟨p, 0, none⟩)), (2, .bool uns), (7, .pointer (some ⟨pb, 0, none⟩)), (8, .int .i16 v), (9, .bool fx), (10, .pointer (some ⟨p, 0, none⟩))]) (fun a w' => ListI w0 G0 p pb 76 [.int .i32 0, str [], .int .i32 0, .map none] (elR 8 v fx 10 dLeaderAndISRRequestLiveLeader) (elQ true 8 10 dLeaderAndISRRequestLiveLeader) s128 n128 (decide (n128 ≤ 0)) ((p, ty, [] ++ [.int .i16 v, .int .i32 n1, .bool n3, .int .i32 n6, .int .i64 n8, .int .i8 n11, c14, c65, .slice none 0 0, .map none] ++ []) :: []) P127 a 0 w') ?_ ?_
  · refine cI (by rfl) (fun hps=>?_) (fun hps=>?_)
    · have hps : 0 < n128 := by have := of_decide_eq_true hps; omega
      ((conv=>whnf);repeat((first|refine mvT ?_|refine mvF ?_|refine yT ?_|refine yF ?_);conv=>whnf))
      refine H.grow hps hn128.2 (by decide) rfl rfl (by decide) ?_
      intro g cap post w hc1 hc2 H
      ((conv=>whnf);repeat((first|refine mvT ?_|refine mvF ?_|refine yT ?_|refine yF ?_);conv=>whnf))
      exact ⟨_, ⟨rfl, rfl, rfl, rfl, rfl, rfl, rfl, rfl, trivial⟩, ListI.some hps (decide_eq_false (by omega)) hc1 hc2 H⟩
    · have hps : n128 ≤ 0 := by have := of_decide_eq_false hps; omega
      ((conv=>whnf);repeat((first|refine mvT ?_|refine mvF ?_|refine yT ?_|refine yF ?_);conv=>whnf))
      exact ⟨_, ⟨rfl, rfl, rfl, rfl, rfl, rfl, rfl, rfl, trivial⟩, ListI.none hps (decide_eq_true hps) H⟩
  clear H
  rintro a128 w H
  ((conv=>whnf);repeat((first|refine mvT ?_|refine mvF ?_|refine yT ?_|refine yF ?_);conv=>whnf))
  have hpL128 : inL ((p, ty, [] ++ [.int .i16 v, .int .i32 n1, .bool n3, .int .i32 n6, .int .i64 n8, .int .i8 n11, c14, c65, .slice none 0 0, .map none] ++ []) :: []) p := inL.head _ _
  refine VL.loop (fun i : Nat => [(94, .int .i32 n128), (93, a128), (95, .int .i32 i), (0, .pointer (some ⟨p, 0, none⟩)), (2, .bool uns), (7, .pointer (some ⟨pb, 0, none⟩)), (8, .int .i16 v), (9, .bool fx), (10, .pointer (some ⟨p, 0, none⟩))]) (fun i w' => i ≤ 2147483647 ∧ ListI w0 G0 p pb 76 [.int .i32 0, str [], .int .i32 0, .map none] (elR 8 v fx 10 dLeaderAndISRRequestLiveLeader) (elQ true 8 10 dLeaderAndISRRequestLiveLeader) s128 n128 (decide (n128 ≤ 0)) ((p, ty, [] ++ [.int .i16 v, .int .i32 n1, .bool n3, .int .i32 n6, .int .i64 n8, .int .i8 n11, c14, c65, .slice none 0 0, .map none] ++ []) :: []) P127 a128 i w') (fun i => n128.toNat - i) 0 ⟨rfl, rfl, rfl, rfl, rfl, rfl, rfl, rfl, rfl, trivial⟩ ⟨by decide, H⟩ ?_
  clear H
  rintro i128 w ⟨hi128, H⟩
  ((conv=>whnf);repeat((first|refine mvT ?_|refine mvF ?_|refine yT ?_|refine yF ?_);conv=>whnf))
  refine cI (by rfl) (fun h9=>?_) (fun h9=>?_)
  · have hlt128 : (i128 : Int) < n128 := of_decide_eq_true h9
    obtain ⟨g128, cap128, post128, rfl, hgo128, HI⟩ := H.go hlt128
    obtain ⟨es128, ts128, si128, hes128, hez128, hrn128, hts128, hlen1, H⟩ := HI.open hgo128.2.2.2.2
    obtain ⟨L128, hL128⟩ : ∃ L : List Ob, L = ((p, ty, [] ++ [.int .i16 v, .int .i32 n1, .bool n3, .int .i32 n6, .int .i64 n8, .int .i8 n11, c14, c65, .slice none 0 0, .map none] ++ []) :: []) := ⟨_, rfl⟩
    rw [← hL128] at H hpL128
    obtain ⟨P128, hP128⟩ : ∃ P : World → Prop, P = fun w => (∀ (j : Nat) (c : List Value) (y : T), es128[j]? = some c → ts128[j]? = some y → elQ true 8 10 dLeaderAndISRRequestLiveLeader ⟨w, FG w0 G0⟩ c y) ∧ P127 w := ⟨_, rfl⟩
    rw [← hP128] at H
    replace H : St w0 G0 p pb si128 ((g128, 76, es128.flatten ++ [.int .i32 0, str [], .int .i32 0, .map none] ++ ((List.replicate (n128.toNat - (i128 + 1)) [.int .i32 0, str [], .int .i32 0, .map none]).flatten ++ post128)) :: L128) P128 w := H
    ((conv=>whnf);repeat((first|refine mvT ?_|refine mvF ?_|refine yT ?_|refine yF ?_);conv=>whnf))
    refine ⟨g128, 0, rfl, ⟨by omega, by omega⟩, ?_⟩
    ((conv=>whnf);repeat((first|refine mvT ?_|refine mvF ?_|refine yT ?_|refine yF ?_);conv=>whnf))
    refine Does.mono (dfLeaderAndISRRequestLiveLeader (pre := es128.flatten) (cur := [.int .i32 0, str [], .int .i32 0, .map none]) (post := ((List.replicate (n128.toNat - (i128 + 1)) [.int .i32 0, str [], .int .i32 0, .map none]).flatten ++ post128)) H.head (by first | (rw [hlen1]; simp; done) | (simp [hlen1]; done) | (simp [hlen1]; omega)) rfl) ?_
    rintro rd w2 ⟨hdf, hxd⟩
    replace H := H.put hdf hxd
    clear hdf hxd
    replace H : St w0 G0 p pb si128 ((g128, 76, es128.flatten ++ [.int .i32 0, str [], .int .i32 0, .map none] ++ ((List.replicate (n128.toNat - (i128 + 1)) [.int .i32 0, str [], .int .i32 0, .map none]).flatten ++ post128)) :: L128) P128 w2 := H
    ((conv=>whnf);repeat((first|refine mvT ?_|refine mvF ?_|refine yT ?_|refine yF ?_);conv=>whnf))
    have hup128 : tailBad 8 v fx dLeaderAndISRRequestLiveLeader dLeaderAndISRRequestLiveLeader si128 = true → (rdPart 9 v fx dLeaderAndISRRequest (l, false)).2.2 = true := by
      intro hb
      refine hup0 ?_
      rw [tail_yes (rdField3.trans hr1) ⟨by decide, has_all hv⟩, tail_ver hr3 (by decide), tail_yes (rdField3.trans hr6) ⟨by decide, has_all hv⟩, tail_ver hr8 (by decide), tail_ver hr11 (by decide), tail_ver hr14 (by decide), tail_ver hr65 (by decide), tail_el ⟨by decide, has_all hv⟩ hln128 hgo128.2.2.2.2 hrn128 ((tailBad_part _ _ _ _ _).symm.trans hb)]
    refine Does.mono H.int32 ?_
    rintro r w ⟨n129, s129, rfl, hn129, hr129, H⟩
    ((conv=>whnf);repeat((first|refine mvT ?_|refine mvF ?_|refine yT ?_|refine yF ?_);conv=>whnf))
    refine H.st1 (v := .int .i32 n129) 0 (rfl) (rfl) rfl (by first | omega | (simp [hlen1]; done) | (simp [hlen1]; omega)) rfl (Nat.lt_of_lt_of_le (Nat.lt_succ_self _) (Nat.le_of_ble_eq_true rfl)) ?_
    intro w H
    ((conv=>whnf);repeat((first|refine mvT ?_|refine mvF ?_|refine yT ?_|refine yF ?_);conv=>whnf))
    replace H : St w0 G0 p pb s129 ((g128, 76, es128.flatten ++ [.int .i32 n129, str [], .int .i32 0, .map none] ++ ((List.replicate (n128.toNat - (i128 + 1)) [.int .i32 0, str [], .int .i32 0, .map none]).flatten ++ post128)) :: L128) P128 w := H
    (refine mvB ?_;((conv=>whnf);repeat((first|refine mvT ?_|refine mvF ?_|refine yT ?_|refine yF ?_);conv=>whnf)))
    refine VC.cutE (fun q : List UInt8 × Rd => [(99, str q.1), (0, .pointer (some ⟨p, 0, none⟩)), (2, .bool uns), (7, .pointer (some ⟨pb, 0, none⟩)), (8, .int .i16 v), (9, .bool fx), (10, .pointer (some ⟨p, 0, none⟩)), (94, .int .i32 n128), (93, .slice (some ⟨g128, 0, none⟩) n128.toNat cap128), (95, .int .i32 i128), (96, .pointer (some ⟨g128, 0 + (i128 : Int).toNat * 4, none⟩)), (97, .pointer (some ⟨g128, 0 + (i128 : Int).toNat * 4, none⟩))]) (fun q w' => rdTx fx s129 = q ∧ St w0 G0 p pb q.2 ((g128, 76, es128.flatten ++ [.int .i32 n129, str [], .int .i32 0, .map none] ++ ((List.replicate (n128.toNat - (i128 + 1)) [.int .i32 0, str [], .int .i32 0, .map none]).flatten ++ post128)) :: L128) P128 w') ?_ ?_
    · refine cI (by rfl) (fun hu=>?_) (fun hu=>?_)
      · ((conv=>whnf);repeat((first|refine mvT ?_|refine mvF ?_|refine yT ?_|refine yF ?_);conv=>whnf))
        (refine mvB ?_;((conv=>whnf);repeat((first|refine mvT ?_|refine mvF ?_|refine yT ?_|refine yF ?_);conv=>whnf)))
        refine cI (by rfl) (fun hc=>?_) (fun hc=>?_)
        · ((conv=>whnf);repeat((first|refine mvT ?_|refine mvF ?_|refine yT ?_|refine yF ?_);conv=>whnf))
          refine Does.mono H.utxc ?_
          rintro r w ⟨u, s', rfl, hr, H⟩
          ((conv=>whnf);repeat((first|refine mvT ?_|refine mvF ?_|refine yT ?_|refine yF ?_);conv=>whnf))
          exact ⟨(u, s'), ⟨rfl, rfl, rfl, rfl, rfl, rfl, rfl, rfl, rfl, rfl, rfl, rfl, trivial⟩, by rw [hc]; exact hr, H⟩
        · ((conv=>whnf);repeat((first|refine mvT ?_|refine mvF ?_|refine yT ?_|refine yF ?_);conv=>whnf))
          refine Does.mono H.utxp ?_
          rintro r w ⟨u, s', rfl, hr, H⟩
          ((conv=>whnf);repeat((first|refine mvT ?_|refine mvF ?_|refine yT ?_|refine yF ?_);conv=>whnf))
          exact ⟨(u, s'), ⟨rfl, rfl, rfl, rfl, rfl, rfl, rfl, rfl, rfl, rfl, rfl, rfl, trivial⟩, by rw [hc]; exact hr, H⟩
      · ((conv=>whnf);repeat((first|refine mvT ?_|refine mvF ?_|refine yT ?_|refine yF ?_);conv=>whnf))
        (refine mvB ?_;((conv=>whnf);repeat((first|refine mvT ?_|refine mvF ?_|refine yT ?_|refine yF ?_);conv=>whnf)))
        refine cI (by rfl) (fun hc=>?_) (fun hc=>?_)
        · ((conv=>whnf);repeat((first|refine mvT ?_|refine mvF ?_|refine yT ?_|refine yF ?_);conv=>whnf))
          refine Does.mono H.txc ?_
          rintro r w ⟨u, s', rfl, hr, H⟩
          ((conv=>whnf);repeat((first|refine mvT ?_|refine mvF ?_|refine yT ?_|refine yF ?_);conv=>whnf))
          exact ⟨(u, s'), ⟨rfl, rfl, rfl, rfl, rfl, rfl, rfl, rfl, rfl, rfl, rfl, rfl, trivial⟩, by rw [hc]; exact hr, H⟩
        · ((conv=>whnf);repeat((first|refine mvT ?_|refine mvF ?_|refine yT ?_|refine yF ?_);conv=>whnf))
          refine Does.mono H.txp ?_
          rintro r w ⟨u, s', rfl, hr, H⟩
          ((conv=>whnf);repeat((first|refine mvT ?_|refine mvF ?_|refine yT ?_|refine yF ?_);conv=>whnf))
          exact ⟨(u, s'), ⟨rfl, rfl, rfl, rfl, rfl, rfl, rfl, rfl, rfl, rfl, rfl, rfl, trivial⟩, by rw [hc]; exact hr, H⟩
    clear H
    rintro ⟨u131, s131⟩ w ⟨hr131, H⟩
    dsimp only at hr131 H
    ((conv=>whnf);repeat((first|refine mvT ?_|refine mvF ?_|refine yT ?_|refine yF ?_);conv=>whnf))
    refine H.st1 (v := str u131) 1 (rfl) (rfl) rfl (by first | omega | (simp [hlen1]; done) | (simp [hlen1]; omega)) rfl (Nat.lt_of_lt_of_le (Nat.lt_succ_self _) (Nat.le_of_ble_eq_true rfl)) ?_
    intro w H
    ((conv=>whnf);repeat((first|refine mvT ?_|refine mvF ?_|refine yT ?_|refine yF ?_);conv=>whnf))
    replace H : St w0 G0 p pb s131 ((g128, 76, es128.flatten ++ [.int .i32 n129, str u131, .int .i32 0, .map none] ++ ((List.replicate (n128.toNat - (i128 + 1)) [.int .i32 0, str [], .int .i32 0, .map none]).flatten ++ post128)) :: L128) P128 w := H
    refine Does.mono H.int32 ?_
    rintro r w ⟨n133, s133, rfl, hn133, hr133, H⟩
    ((conv=>whnf);repeat((first|refine mvT ?_|refine mvF ?_|refine yT ?_|refine yF ?_);conv=>whnf))
    refine H.st1 (v := .int .i32 n133) 2 (rfl) (rfl) rfl (by first | omega | (simp [hlen1]; done) | (simp [hlen1]; omega)) rfl (Nat.lt_of_lt_of_le (Nat.lt_succ_self _) (Nat.le_of_ble_eq_true rfl)) ?_
    intro w H
    ((conv=>whnf);repeat((first|refine mvT ?_|refine mvF ?_|refine yT ?_|refine yF ?_);conv=>whnf))
    replace H : St w0 G0 p pb s133 ((g128, 76, es128.flatten ++ [.int .i32 n129, str u131, .int .i32 n133, .map none] ++ ((List.replicate (n128.toNat - (i128 + 1)) [.int .i32 0, str [], .int .i32 0, .map none]).flatten ++ post128)) :: L128) P128 w := H
    (refine mvB ?_;((conv=>whnf);repeat((first|refine mvT ?_|refine mvF ?_|refine yT ?_|refine yF ?_);conv=>whnf)))
    refine VC.cutB (fun q : Value × List Tg × Rd => [(0, .pointer (some ⟨p, 0, none⟩)), (2, .bool uns), (7, .pointer (some ⟨pb, 0, none⟩)), (8, .int .i16 v), (9, .bool fx), (10, .pointer (some ⟨p, 0, none⟩)), (94, .int .i32 n128), (93, .slice (some ⟨g128, 0, none⟩) n128.toNat cap128), (95, .int .i32 i128), (96, .pointer (some ⟨g128, 0 + (i128 : Int).toNat * 4, none⟩)), (97, .pointer (some ⟨g128, 0 + (i128 : Int).toNat * 4, none⟩))]) (fun q w' => rdTagsF fx s133 = q.2 ∧ St w0 G0 p pb q.2.2 ((g128, 76, es128.flatten ++ [.int .i32 n129, str u131, .int .i32 n133, q.1] ++ ((List.replicate (n128.toNat - (i128 + 1)) [.int .i32 0, str [], .int .i32 0, .map none]).flatten ++ post128)) :: L128) (fun w => TGf w0 G0 q.1 q.2.1 w ∧ P128 w) w') ?_ ?_
    · refine cI (by rfl) (fun hc=>?_) (fun hc=>?_)
      · ((conv=>whnf);repeat((first|refine mvT ?_|refine mvF ?_|refine yT ?_|refine yF ?_);conv=>whnf))
        refine Does.mono H.tags ?_
        rintro r w ⟨m, u, s', rfl, hone, hr, H⟩
        ((conv=>whnf);repeat((first|refine mvT ?_|refine mvF ?_|refine yT ?_|refine yF ?_);conv=>whnf))
        refine H.st1 (v := m) 3 (rfl) (hone) rfl (by first | omega | (simp [hlen1]; done) | (simp [hlen1]; omega)) rfl (Nat.lt_of_lt_of_le (Nat.lt_succ_self _) (Nat.le_of_ble_eq_true rfl)) ?_
        intro w H
        ((conv=>whnf);repeat((first|refine mvT ?_|refine mvF ?_|refine yT ?_|refine yF ?_);conv=>whnf))
        exact ⟨(m, u, s'), ⟨rfl, rfl, rfl, rfl, rfl, rfl, rfl, rfl, rfl, rfl, rfl, trivial⟩, by rw [rdTagsF, if_pos hc]; exact hr, H⟩
      · ((conv=>whnf);repeat((first|refine mvT ?_|refine mvF ?_|refine yT ?_|refine yF ?_);conv=>whnf))
        exact ⟨(.map none, [], s133), ⟨rfl, rfl, rfl, rfl, rfl, rfl, rfl, rfl, rfl, rfl, rfl, trivial⟩, by rw [rdTagsF, if_neg (by rw [hc]; decide)], H.add fun w' _ => TagsR.nil _ _⟩
    clear H
    rintro ⟨m135, u135, s135⟩ w ⟨htg, H⟩
    dsimp only at htg H
    ((conv=>whnf);repeat((first|refine mvT ?_|refine mvF ?_|refine yT ?_|refine yF ?_);conv=>whnf))
    obtain ⟨P136, hP136⟩ : ∃ P : World → Prop, P = fun w => TGf w0 G0 m135 u135 w ∧ P128 w := ⟨_, rfl⟩
    replace H : St w0 G0 p pb s135 ((g128, 76, es128.flatten ++ [.int .i32 n129, str u131, .int .i32 n133, m135] ++ ((List.replicate (n128.toNat - (i128 + 1)) [.int .i32 0, str [], .int .i32 0, .map none]).flatten ++ post128)) :: L128) P136 w := by rw [hP136]; exact H
    have hpart : rdPart 8 v fx dLeaderAndISRRequestLiveLeader si128 = (.mk 0 [] false [numT n129, .mk 0 u131 false [] [], numT n133] u135, s135) := by
      unfold rdPart rdPartW
      rw [rdTail_plain (by decide)]
      rw [rdAll_yes (df := dfT 8) (rdField3.trans hr129) ⟨by decide, has_all hv⟩, rdAll_yes (df := dfT 8) (rdField8 (by decide) hr131) ⟨by decide, has_all hv⟩, rdAll_yes (df := dfT 8) (rdField3.trans hr133) ⟨by decide, has_all hv⟩]
      simp only [rdAll]
      rw [htg]
    refine ⟨i128 + 1, ⟨rfl, rfl, ?_, rfl, rfl, rfl, rfl, rfl, rfl, trivial⟩, ⟨by omega, ListI.back hgo128 (LoopI.next hes128 hez128 hrn128 hts128 (cur := [.int .i32 n129, str u131, .int .i32 n133, m135]) (x := .mk 0 [] false [numT n129, .mk 0 u131 false [] [], numT n133] u135) (hpart) rfl (by rw [← hL128]; exact H) fun w hP => ?_)⟩, by omega⟩
    · show some (Value.int .i32 _) = _
      rw [IntKind.wrap_i32]
      simp only [Option.some.injEq, Value.int.injEq, true_and]
      omega
    · skip
      rw [hP136] at hP
      obtain ⟨hf136_, hP⟩ := hP
      rw [hP128] at hP
      exact ⟨QPt (QA1 (QF3 hn129) (QA1 (QF8 (by decide) u131) (QA1 (QF3 hn133) (QA0)))) hf136_, hP⟩
  have hge128 : ¬ (i128 : Int) < n128 := of_decide_eq_false h9
  obtain ⟨l137, s137, hone137, hl137, hr137, H⟩ := H.done hge128 hln128 (nl := nlF (.mk 11 0 (-1) (-1) (-1) 0 10 dLeaderAndISRRequestLiveLeader) v) (sz := elZ true 8 10 dLeaderAndISRRequestLiveLeader) rfl hpL128 rfl
  ((conv=>whnf);repeat((first|refine mvT ?_|refine mvF ?_|refine yT ?_|refine yF ?_);conv=>whnf))
  obtain ⟨P138, hP138⟩ : ∃ P : World → Prop, P = fun w => ListR true (elZ true 8 10 dLeaderAndISRRequestLiveLeader) (elQ true 8 10 dLeaderAndISRRequestLiveLeader ⟨w, FG w0 G0⟩) w (FG w0 G0) a128 (.mk 0 [] (decide (n128 ≤ 0)) l137 []) ∧ P127 w := ⟨_, rfl⟩
  replace H : St w0 G0 p pb s137 ((p, ty, [] ++ [.int .i16 v, .int .i32 n1, .bool n3, .int .i32 n6, .int .i64 n8, .int .i8 n11, c14, c65, .slice none 0 0, .map none] ++ []) :: []) P138 w := by rw [hP138]; exact H
  refine H.st1 (v := a128) 8 (cells_one hone137) (hone137) rfl (by simp) rfl (Nat.lt_of_lt_of_le (Nat.lt_succ_self _) (Nat.le_of_ble_eq_true rfl)) ?_
  intro w H
  ((conv=>whnf);repeat((first|refine mvT ?_|refine mvF ?_|refine yT ?_|refine yF ?_);conv=>whnf))
  replace H : St w0 G0 p pb s137 ((p, ty, [] ++ [.int .i16 v, .int .i32 n1, .bool n3, .int .i32 n6, .int .i64 n8, .int .i8 n11, c14, c65, a128, .map none] ++ []) :: []) P138 w := H
  (refine mvB ?_;((conv=>whnf);repeat((first|refine mvT ?_|refine mvF ?_|refine yT ?_|refine yF ?_);conv=>whnf)))
  refine VC.cutE (fun q : Value × List Tg × Rd => [(0, .pointer (some ⟨p, 0, none⟩)), (2, .bool uns), (7, .pointer (some ⟨pb, 0, none⟩)), (8, .int .i16 v), (9, .bool fx), (10, .pointer (some ⟨p, 0, none⟩))]) (fun q w' => rdTagsF fx s137 = q.2 ∧ St w0 G0 p pb q.2.2 ((p, ty, [] ++ [.int .i16 v, .int .i32 n1, .bool n3, .int .i32 n6, .int .i64 n8, .int .i8 n11, c14, c65, a128, q.1] ++ []) :: []) (fun w => TGf w0 G0 q.1 q.2.1 w ∧ P138 w) w') ?_ ?_
  · refine cI (by rfl) (fun hc=>?_) (fun hc=>?_)
    · ((conv=>whnf);repeat((first|refine mvT ?_|refine mvF ?_|refine yT ?_|refine yF ?_);conv=>whnf))
      refine Does.mono H.tags ?_
      rintro r w ⟨m, u, s', rfl, hone, hr, H⟩
      ((conv=>whnf);repeat((first|refine mvT ?_|refine mvF ?_|refine yT ?_|refine yF ?_);conv=>whnf))
      refine H.st1 (v := m) 9 (rfl) (hone) rfl (by simp) rfl (Nat.lt_of_lt_of_le (Nat.lt_succ_self _) (Nat.le_of_ble_eq_true rfl)) ?_
      intro w H
      ((conv=>whnf);repeat((first|refine mvT ?_|refine mvF ?_|refine yT ?_|refine yF ?_);conv=>whnf))
      exact ⟨(m, u, s'), ⟨rfl, rfl, rfl, rfl, rfl, rfl, trivial⟩, by rw [rdTagsF, if_pos hc]; exact hr, H⟩
    · ((conv=>whnf);repeat((first|refine mvT ?_|refine mvF ?_|refine yT ?_|refine yF ?_);conv=>whnf))
      exact ⟨(.map none, [], s137), ⟨rfl, rfl, rfl, rfl, rfl, rfl, trivial⟩, by rw [rdTagsF, if_neg (by rw [hc]; decide)], H.add fun w' _ => TagsR.nil _ _⟩
  clear H
  rintro ⟨m140, u140, s140⟩ w ⟨htg, H⟩
  dsimp only at htg H
  ((conv=>whnf);repeat((first|refine mvT ?_|refine mvF ?_|refine yT ?_|refine yF ?_);conv=>whnf))
  obtain ⟨P141, hP141⟩ : ∃ P : World → Prop, P = fun w => TGf w0 G0 m140 u140 w ∧ P138 w := ⟨_, rfl⟩
  replace H : St w0 G0 p pb s140 ((p, ty, [] ++ [.int .i16 v, .int .i32 n1, .bool n3, .int .i32 n6, .int .i64 n8, .int .i8 n11, c14, c65, a128, m140] ++ []) :: []) P141 w := by rw [hP141]; exact H
  have hpart : rdPart 9 v fx dLeaderAndISRRequest (l, false) = (.mk 0 [] false [numT n1, numT (if n3 = true then 1 else 0), numT n6, numT n8, numT n11, .mk 0 [] nl14 l14 [], .mk 0 [] nl65 l65 [], .mk 0 [] (decide (n128 ≤ 0)) l137 []] u140, s140) := by
    unfold rdPart rdPartW
    rw [rdTail_plain (by decide)]
    rw [rdAll_yes (df := dfT 9) (rdField3.trans hr1) ⟨by decide, has_all hv⟩, rdAll_ver hr3 (by decide), rdAll_yes (df := dfT 9) (rdField3.trans hr6) ⟨by decide, has_all hv⟩, rdAll_ver hr8 (by decide), rdAll_ver hr11 (by decide), rdAll_ver hr14 (by decide), rdAll_ver hr65 (by decide), rdAll_yes (df := dfT 9) ((rdField_list _ _ _ _ _ _ _ _ _ _ _).trans hr137) ⟨by decide, has_all hv⟩]
    simp only [rdAll]
    rw [htg]
  refine Does.mono (H.done hL hp1) ?_
  rintro r w ⟨rfl, H⟩
  ((conv=>whnf);repeat((first|refine mvT ?_|refine mvF ?_|refine yT ?_|refine yF ?_);conv=>whnf))
  refine RdPost.end hpart H fun hP => ?_
  rw [hP141] at hP
  obtain ⟨hf141_, hP⟩ := hP
  rw [hP138] at hP
  obtain ⟨hf138_, hP⟩ := hP
  rw [hP127] at hP
  obtain ⟨hf127_, hP⟩ := hP
  rw [hP64] at hP
  obtain ⟨hf64_, hP⟩ := hP
  exact QPt (QA1 (QF3 hn1) (QA1 (QF0 n3) (QA1 (QF3 hn6) (QA1 (QF4 hn8) (QA1 (QF1 hn11) (QA1 (QF11 hnl14 hf64_) (QA1 (QF11 hnl65 hf127_) (QA1 (QF11 hl137 hf138_) (QA0))))))))) hf141_
end Go.Proofs.YtjepglidlblmlaaDoor.K
