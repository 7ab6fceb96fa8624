
/- Reading of AlterReplicaLogDirsResponse. -/
import Derived.Test.YtmmieooipcfbiabDoorRE5
set_option linter.unusedVariables false
set_option linter.unusedSimpArgs false
namespace Go.Proofs.YtmmieooipcfbiabDoorR.K
open Go
set_option maxHeartbeats 4000000
set_option maxRecDepth 100000

abbrev dAlterReplicaLogDirsResponseTopicPartition : List Fd := [.mk 3 0 (-1) (-1) (-1) 0 0 [], .mk 2 0 (-1) (-1) (-1) 0 0 []]
abbrev dAlterReplicaLogDirsResponseTopic : List Fd := [.mk 8 0 (-1) (-1) (-1) 0 0 [], .mk 11 0 (-1) (-1) (-1) 0 10 dAlterReplicaLogDirsResponseTopicPartition]
abbrev dAlterReplicaLogDirsResponse : List Fd := [.mk 3 0 (-1) (-1) (-1) 0 0 [], .mk 11 0 (-1) (-1) (-1) 0 10 dAlterReplicaLogDirsResponseTopic]
theorem dfAlterReplicaLogDirsResponseTopicPartition {w : World} {q o : Nat} {T : TypeId} {pre cur post : List Value} (ho : Own w q T (pre ++ cur ++ post)) (hp : pre.length = o) (hl : cur.length = 3) :
    Does X.P 79 #[.pointer (some ⟨q, o, none⟩)] w fun r w' => Own w' q T (pre ++ cur ++ post) ∧ Ext (fun k => k = q) w w' := by
  have hx : Ext (fun k => k = q) w w := Ext.refl _ _
  refine Does.go (X := X) (l := [_]) Tryd.func79 rfl (by kernel_rfl) (by kernel_rfl) _ rfl ?_
  ((conv=>whnf);repeat(first|(refine mvT ?_;conv=>whnf)|(refine mvF ?_;conv=>whnf)|(refine cT (by rfl) ?_;conv=>whnf)|(refine cF (by rfl) ?_;conv=>whnf)))
  exact ⟨ho, hx⟩
theorem dfAlterReplicaLogDirsResponseTopic {w : World} {q o : Nat} {T : TypeId} {pre cur post : List Value} (ho : Own w q T (pre ++ cur ++ post)) (hp : pre.length = o) (hl : cur.length = 3) :
    Does X.P 78 #[.pointer (some ⟨q, o, none⟩)] w fun r w' => Own w' q T (pre ++ cur ++ post) ∧ Ext (fun k => k = q) w w' := by
  have hx : Ext (fun k => k = q) w w := Ext.refl _ _
  refine Does.go (X := X) (l := [_]) Tryd.func78 rfl (by kernel_rfl) (by kernel_rfl) _ rfl ?_
  ((conv=>whnf);repeat(first|(refine mvT ?_;conv=>whnf)|(refine mvF ?_;conv=>whnf)|(refine cT (by rfl) ?_;conv=>whnf)|(refine cF (by rfl) ?_;conv=>whnf)))
  exact ⟨ho, hx⟩
theorem dfAlterReplicaLogDirsResponse {w : World} {q o : Nat} {T : TypeId} {pre cur post : List Value} (ho : Own w q T (pre ++ cur ++ post)) (hp : pre.length = o) (hl : cur.length = 4) :
    Does X.P 55 #[.pointer (some ⟨q, o, none⟩)] w fun r w' => Own w' q T (pre ++ cur ++ post) ∧ Ext (fun k => k = q) w w' := by
  have hx : Ext (fun k => k = q) w w := Ext.refl _ _
  refine Does.go (X := X) (l := [_]) Tryd.func55 rfl (by kernel_rfl) (by kernel_rfl) _ rfl ?_
  ((conv=>whnf);repeat(first|(refine mvT ?_;conv=>whnf)|(refine mvF ?_;conv=>whnf)|(refine cT (by rfl) ?_;conv=>whnf)|(refine cF (by rfl) ?_;conv=>whnf)))
  exact ⟨ho, hx⟩
theorem readAlterReplicaLogDirsResponse {w0 : World} {F : Nat → Prop} {p : Nat} {ty : TypeId} {v : Int} {x ev : Value} {l : List UInt8} (hL : Laid w0 ev) (hp : Own w0 p ty [.int .i16 v, .int .i32 0, .slice none 0 0, .map none]) (hx : Bytes w0 F x l) (hF : ∀ k, F k → k ≠ p) (hv : 0 ≤ v) (hp1 : p ≠ errG) :
    Does X.P 56 #[.pointer (some ⟨p, 0, none⟩), x, .bool false] w0 fun r w' => RdPost w0 p ty v (decide (v ≥ 2)) true dAlterReplicaLogDirsResponse ev l r w' := by
  have hpl := hp.lt
  obtain ⟨fx, hfx⟩ : ∃ fx, fx = decide (v ≥ 2) := ⟨_, rfl⟩
  rw [← hfx]
  obtain ⟨G0, hG0, hx⟩ : ∃ G0 : Nat → Prop, (∀ k, G0 k → k < w0.heap.size ∧ k ≠ p) ∧ Bytes w0 G0 x l := ⟨fun k => F k ∧ k < w0.heap.size, fun k h => ⟨h.2, hF k h.1⟩, Sl.mono hx fun k hk h => ⟨h, hk⟩⟩
  obtain ⟨a0, c0, rfl, _⟩ := hx.view
  refine Does.go (X := X) (l := [_, _, _]) Tryd.func56 rfl (by kernel_rfl) (by kernel_rfl) _ rfl ?_
  ((conv=>whnf);repeat(first|(refine mvT ?_;conv=>whnf)|(refine mvF ?_;conv=>whnf)|(refine cT (by rfl) ?_;conv=>whnf)|(refine cF (by rfl) ?_;conv=>whnf)))
  refine Does.mono (dfAlterReplicaLogDirsResponse (pre := []) (cur := [.int .i16 v, .int .i32 0, .slice none 0 0, .map none]) (post := []) (by simpa using hp) rfl rfl) ?_
  rintro rd wd ⟨hpd, hxd⟩
  ((conv=>whnf);repeat(first|(refine mvT ?_;conv=>whnf)|(refine mvF ?_;conv=>whnf)|(refine cT (by rfl) ?_;conv=>whnf)|(refine cF (by rfl) ?_;conv=>whnf)))
  intro pb w1 hpb hb hx1
  ((conv=>whnf);repeat(first|(refine mvT ?_;conv=>whnf)|(refine mvF ?_;conv=>whnf)|(refine cT (by rfl) ?_;conv=>whnf)|(refine cF (by rfl) ?_;conv=>whnf)))
  refine st_all [.slice a0 l.length c0, .bool false] hb rfl rfl rfl ?_
  intro w hb hx2
  ((conv=>whnf);repeat(first|(refine mvT ?_;conv=>whnf)|(refine mvF ?_;conv=>whnf)|(refine cT (by rfl) ?_;conv=>whnf)|(refine cF (by rfl) ?_;conv=>whnf)))
  have hsd := hxd.size
  have hwp : w0.heap.size ≤ pb := by omega
  have he1 : Ext nob wd w := hx1.trans hx2 fun k hk h => by omega
  have hpw : Own w p ty [.int .i16 v, .int .i32 0, .slice none 0 0, .map none] := by have := hpd.e0 he1; simpa using this
  have he := hxd.tr0 he1
  have H := St.init hpw hb (hx.ext he fun k _ h => (hG0 k h).2) hG0 he hpl hwp
  clear hpd hxd hx1 hx2 hb hpw he1 hp
  refine ldS (H.cell (o := 0) rfl (k := 0) rfl) ?_;((conv=>whnf);repeat(first|(refine mvT ?_;conv=>whnf)|(refine mvF ?_;conv=>whnf)|(refine cT (by rfl) ?_;conv=>whnf)|(refine cF (by rfl) ?_;conv=>whnf)))
  rw [← hfx]
  (refine mvB ?_;((conv=>whnf);repeat(first|(refine mvT ?_;conv=>whnf)|(refine mvF ?_;conv=>whnf)|(refine cT (by rfl) ?_;conv=>whnf)|(refine cF (by rfl) ?_;conv=>whnf))))
  have hup0 : tailBad 9 v fx dAlterReplicaLogDirsResponse (l, false) = true → (rdPart 9 v fx dAlterReplicaLogDirsResponse (l, false)).2.2 = true := id
  refine Does.mono H.int32 ?_
  rintro r w ⟨n1, s1, rfl, hn1, hr1, H⟩
  ((conv=>whnf);repeat(first|(refine mvT ?_;conv=>whnf)|(refine mvF ?_;conv=>whnf)|(refine cT (by rfl) ?_;conv=>whnf)|(refine cF (by rfl) ?_;conv=>whnf)))
  refine H.st1 (v := .int .i32 n1) 1 (rfl) (rfl) rfl (by simp) rfl (Nat.lt_of_lt_of_le (Nat.lt_succ_self _) (Nat.le_of_ble_eq_true rfl)) ?_
  intro w H
  ((conv=>whnf);repeat(first|(refine mvT ?_;conv=>whnf)|(refine mvF ?_;conv=>whnf)|(refine cT (by rfl) ?_;conv=>whnf)|(refine cF (by rfl) ?_;conv=>whnf)))
  replace H : St w0 G0 p pb s1 ((p, ty, [] ++ [.int .i16 v, .int .i32 n1, .slice none 0 0, .map none] ++ []) :: []) (fun _ => True) w := H
  refine ldS (H.cell (o := 0) rfl (k := 2) rfl) ?_;((conv=>whnf);repeat(first|(refine mvT ?_;conv=>whnf)|(refine mvF ?_;conv=>whnf)|(refine cT (by rfl) ?_;conv=>whnf)|(refine cF (by rfl) ?_;conv=>whnf)))
  (refine mvB ?_;((conv=>whnf);repeat(first|(refine mvT ?_;conv=>whnf)|(refine mvF ?_;conv=>whnf)|(refine cT (by rfl) ?_;conv=>whnf)|(refine cF (by rfl) ?_;conv=>whnf))))
  refine VC.cutE (fun q : Int × Rd => [(14, .int .i32 q.1), (13, .slice none 0 0), (0, .pointer (some ⟨p, 0, none⟩)), (2, .bool false), (7, .pointer (some ⟨pb, 0, none⟩)), (8, .int .i16 v), (9, .bool fx), (10, .pointer (some ⟨p, 0, none⟩))]) (fun q w' => (-2147483648 ≤ q.1 ∧ q.1 ≤ 2147483647) ∧ rdLn fx s1 = q ∧ St w0 G0 p pb q.2 ((p, ty, [] ++ [.int .i16 v, .int .i32 n1, .slice none 0 0, .map none] ++ []) :: []) (fun _ => True) w') ?_ ?_
  · refine cI (by rfl) (fun hc=>?_) (fun hc=>?_)
    · ((conv=>whnf);repeat(first|(refine mvT ?_;conv=>whnf)|(refine mvF ?_;conv=>whnf)|(refine cT (by rfl) ?_;conv=>whnf)|(refine cF (by rfl) ?_;conv=>whnf)))
      refine Does.mono H.lnc ?_
      rintro r w ⟨n, s', rfl, hn, hr, H⟩
      ((conv=>whnf);repeat(first|(refine mvT ?_;conv=>whnf)|(refine mvF ?_;conv=>whnf)|(refine cT (by rfl) ?_;conv=>whnf)|(refine cF (by rfl) ?_;conv=>whnf)))
      exact ⟨(n, s'), ⟨rfl, rfl, rfl, rfl, rfl, rfl, rfl, rfl, trivial⟩, hn, by rw [hc]; exact hr, H⟩
    · ((conv=>whnf);repeat(first|(refine mvT ?_;conv=>whnf)|(refine mvF ?_;conv=>whnf)|(refine cT (by rfl) ?_;conv=>whnf)|(refine cF (by rfl) ?_;conv=>whnf)))
      refine Does.mono H.lnp ?_
      rintro r w ⟨n, s', rfl, hn, hr, H⟩
      ((conv=>whnf);repeat(first|(refine mvT ?_;conv=>whnf)|(refine mvF ?_;conv=>whnf)|(refine cT (by rfl) ?_;conv=>whnf)|(refine cF (by rfl) ?_;conv=>whnf)))
      exact ⟨(n, s'), ⟨rfl, rfl, rfl, rfl, rfl, rfl, rfl, rfl, trivial⟩, hn, by rw [hc]; exact hr, H⟩
  clear H
  rintro ⟨n3, s3⟩ w ⟨hn3, hln3, H⟩
  dsimp only at hn3 hln3 H
  ((conv=>whnf);repeat(first|(refine mvT ?_;conv=>whnf)|(refine mvF ?_;conv=>whnf)|(refine cT (by rfl) ?_;conv=>whnf)|(refine cF (by rfl) ?_;conv=>whnf)))
  refine Does.mono H.ok ?_
  rintro r w ⟨rfl, H⟩
  ((conv=>whnf);repeat(first|(refine mvT ?_;conv=>whnf)|(refine mvF ?_;conv=>whnf)|(refine cT (by rfl) ?_;conv=>whnf)|(refine cF (by rfl) ?_;conv=>whnf)))
  refine cI (by rfl) (fun hbd=>?_) (fun hbd=>?_)
  · have hbd : s3.2 = true := by simpa using hbd
    ((conv=>whnf);repeat(first|(refine mvT ?_;conv=>whnf)|(refine mvF ?_;conv=>whnf)|(refine cT (by rfl) ?_;conv=>whnf)|(refine cF (by rfl) ?_;conv=>whnf)))
    refine Does.mono (H.done hL hp1) ?_
    rintro r w ⟨rfl, H⟩
    ((conv=>whnf);repeat(first|(refine mvT ?_;conv=>whnf)|(refine mvF ?_;conv=>whnf)|(refine cT (by rfl) ?_;conv=>whnf)|(refine cF (by rfl) ?_;conv=>whnf)))
    refine RdPost.early hbd (hup0 (?_)) H
    rw [tail_yes (rdField3.trans hr1) ⟨by decide, has_all hv⟩, tail_len ⟨by decide, has_all hv⟩ hln3 hbd]
  have hbd : s3.2 = false := by simpa using hbd
  clear hbd
  ((conv=>whnf);repeat(first|(refine mvT ?_;conv=>whnf)|(refine mvF ?_;conv=>whnf)|(refine cT (by rfl) ?_;conv=>whnf)|(refine cF (by rfl) ?_;conv=>whnf)))
  refine cut_zero ?_
  ((conv=>whnf);repeat(first|(refine mvT ?_;conv=>whnf)|(refine mvF ?_;conv=>whnf)|(refine cT (by rfl) ?_;conv=>whnf)|(refine cF (by rfl) ?_;conv=>whnf)))
  refine VC.cutE (fun a : Value => [(14, .int .i32 n3), (13, a), (0, .pointer (some ⟨p, 0, none⟩)), (2, .bool false), (7, .pointer (some ⟨pb, 0, none⟩)), (8, .int .i16 v), (9, .bool fx), (10, .pointer (some ⟨p, 0, none⟩))]) (fun a w' => ListI w0 G0 p pb 80 [str [], .slice none 0 0, .map none] (elR 8 v fx 10 dAlterReplicaLogDirsResponseTopic) (elQ true 8 10 dAlterReplicaLogDirsResponseTopic) s3 n3 (decide (n3 ≤ 0)) ((p, ty, [] ++ [.int .i16 v, .int .i32 n1, .slice none 0 0, .map none] ++ []) :: []) (fun _ => True) a 0 w') ?_ ?_
  · refine cI (by rfl) (fun hps=>?_) (fun hps=>?_)
    · have hps : 0 < n3 := by have := of_decide_eq_true hps; omega
      ((conv=>whnf);repeat(first|(refine mvT ?_;conv=>whnf)|(refine mvF ?_;conv=>whnf)|(refine cT (by rfl) ?_;conv=>whnf)|(refine cF (by rfl) ?_;conv=>whnf)))
      refine H.grow hps hn3.2 (by decide) rfl rfl (by decide) ?_
      intro g cap post w hc1 hc2 H
      ((conv=>whnf);repeat(first|(refine mvT ?_;conv=>whnf)|(refine mvF ?_;conv=>whnf)|(refine cT (by rfl) ?_;conv=>whnf)|(refine cF (by rfl) ?_;conv=>whnf)))
      exact ⟨_, ⟨rfl, rfl, rfl, rfl, rfl, rfl, rfl, rfl, trivial⟩, ListI.some hps (decide_eq_false (by omega)) hc1 hc2 H⟩
    · have hps : n3 ≤ 0 := by have := of_decide_eq_false hps; omega
      ((conv=>whnf);repeat(first|(refine mvT ?_;conv=>whnf)|(refine mvF ?_;conv=>whnf)|(refine cT (by rfl) ?_;conv=>whnf)|(refine cF (by rfl) ?_;conv=>whnf)))
      exact ⟨_, ⟨rfl, rfl, rfl, rfl, rfl, rfl, rfl, rfl, trivial⟩, ListI.none hps (decide_eq_true hps) H⟩
  clear H
  rintro a3 w H
  ((conv=>whnf);repeat(first|(refine mvT ?_;conv=>whnf)|(refine mvF ?_;conv=>whnf)|(refine cT (by rfl) ?_;conv=>whnf)|(refine cF (by rfl) ?_;conv=>whnf)))
  have hpL3 : inL ((p, ty, [] ++ [.int .i16 v, .int .i32 n1, .slice none 0 0, .map none] ++ []) :: []) p := inL.head _ _
  refine VL.loop (fun i : Nat => [(14, .int .i32 n3), (13, a3), (15, .int .i32 i), (0, .pointer (some ⟨p, 0, none⟩)), (2, .bool false), (7, .pointer (some ⟨pb, 0, none⟩)), (8, .int .i16 v), (9, .bool fx), (10, .pointer (some ⟨p, 0, none⟩))]) (fun i w' => i ≤ 2147483647 ∧ ListI w0 G0 p pb 80 [str [], .slice none 0 0, .map none] (elR 8 v fx 10 dAlterReplicaLogDirsResponseTopic) (elQ true 8 10 dAlterReplicaLogDirsResponseTopic) s3 n3 (decide (n3 ≤ 0)) ((p, ty, [] ++ [.int .i16 v, .int .i32 n1, .slice none 0 0, .map none] ++ []) :: []) (fun _ => True) a3 i w') (fun i => n3.toNat - i) 0 ⟨rfl, rfl, rfl, rfl, rfl, rfl, rfl, rfl, rfl, trivial⟩ ⟨by decide, H⟩ ?_
  clear H
  rintro i3 w ⟨hi3, H⟩
  ((conv=>whnf);repeat(first|(refine mvT ?_;conv=>whnf)|(refine mvF ?_;conv=>whnf)|(refine cT (by rfl) ?_;conv=>whnf)|(refine cF (by rfl) ?_;conv=>whnf)))
  refine cI (by rfl) (fun h9=>?_) (fun h9=>?_)
  · have hlt3 : (i3 : Int) < n3 := of_decide_eq_true h9
    obtain ⟨g3, cap3, post3, rfl, hgo3, HI⟩ := H.go hlt3
    obtain ⟨es3, ts3, si3, hes3, hez3, hrn3, hts3, hlen1, H⟩ := HI.open hgo3.2.2.2.2
    obtain ⟨L3, hL3⟩ : ∃ L : List Ob, L = ((p, ty, [] ++ [.int .i16 v, .int .i32 n1, .slice none 0 0, .map none] ++ []) :: []) := ⟨_, rfl⟩
    rw [← hL3] at H hpL3
    obtain ⟨P3, hP3⟩ : ∃ P : World → Prop, P = fun w => (∀ (j : Nat) (c : List Value) (y : T), es3[j]? = some c → ts3[j]? = some y → elQ true 8 10 dAlterReplicaLogDirsResponseTopic ⟨w, fun k => k ≠ p⟩ c y) ∧ (fun _ => True) w := ⟨_, rfl⟩
    rw [← hP3] at H
    replace H : St w0 G0 p pb si3 ((g3, 80, es3.flatten ++ [str [], .slice none 0 0, .map none] ++ ((List.replicate (n3.toNat - (i3 + 1)) [str [], .slice none 0 0, .map none]).flatten ++ post3)) :: L3) P3 w := H
    ((conv=>whnf);repeat(first|(refine mvT ?_;conv=>whnf)|(refine mvF ?_;conv=>whnf)|(refine cT (by rfl) ?_;conv=>whnf)|(refine cF (by rfl) ?_;conv=>whnf)))
    refine ⟨g3, 0, rfl, ⟨by omega, by omega⟩, ?_⟩
    ((conv=>whnf);repeat(first|(refine mvT ?_;conv=>whnf)|(refine mvF ?_;conv=>whnf)|(refine cT (by rfl) ?_;conv=>whnf)|(refine cF (by rfl) ?_;conv=>whnf)))
    refine Does.mono (dfAlterReplicaLogDirsResponseTopic (pre := es3.flatten) (cur := [str [], .slice none 0 0, .map none]) (post := ((List.replicate (n3.toNat - (i3 + 1)) [str [], .slice none 0 0, .map none]).flatten ++ post3)) H.head (by first | (rw [hlen1]; simp; done) | (simp [hlen1]; done) | (simp [hlen1]; omega)) rfl) ?_
    rintro rd w2 ⟨hdf, hxd⟩
    replace H := H.put hdf hxd
    clear hdf hxd
    replace H : St w0 G0 p pb si3 ((g3, 80, es3.flatten ++ [str [], .slice none 0 0, .map none] ++ ((List.replicate (n3.toNat - (i3 + 1)) [str [], .slice none 0 0, .map none]).flatten ++ post3)) :: L3) P3 w2 := H
    ((conv=>whnf);repeat(first|(refine mvT ?_;conv=>whnf)|(refine mvF ?_;conv=>whnf)|(refine cT (by rfl) ?_;conv=>whnf)|(refine cF (by rfl) ?_;conv=>whnf)))
    have hup3 : tailBad 8 v fx dAlterReplicaLogDirsResponseTopic si3 = true → (rdPart 9 v fx dAlterReplicaLogDirsResponse (l, false)).2.2 = true := by
      intro hb
      refine hup0 ?_
      rw [tail_yes (rdField3.trans hr1) ⟨by decide, has_all hv⟩, tail_el ⟨by decide, has_all hv⟩ hln3 hgo3.2.2.2.2 hrn3 hb]
    (refine mvB ?_;((conv=>whnf);repeat(first|(refine mvT ?_;conv=>whnf)|(refine mvF ?_;conv=>whnf)|(refine cT (by rfl) ?_;conv=>whnf)|(refine cF (by rfl) ?_;conv=>whnf))))
    refine VC.cutE (fun q : List UInt8 × Rd => [(18, str q.1), (0, .pointer (some ⟨p, 0, none⟩)), (2, .bool false), (7, .pointer (some ⟨pb, 0, none⟩)), (8, .int .i16 v), (9, .bool fx), (10, .pointer (some ⟨p, 0, none⟩)), (14, .int .i32 n3), (13, .slice (some ⟨g3, 0, none⟩) n3.toNat cap3), (15, .int .i32 i3), (16, .pointer (some ⟨g3, 0 + (i3 : Int).toNat * 3, none⟩)), (17, .pointer (some ⟨g3, 0 + (i3 : Int).toNat * 3, none⟩))]) (fun q w' => rdTx fx si3 = q ∧ St w0 G0 p pb q.2 ((g3, 80, es3.flatten ++ [str [], .slice none 0 0, .map none] ++ ((List.replicate (n3.toNat - (i3 + 1)) [str [], .slice none 0 0, .map none]).flatten ++ post3)) :: L3) P3 w') ?_ ?_
    · refine cI (by rfl) (fun hc=>?_) (fun hc=>?_)
      · ((conv=>whnf);repeat(first|(refine mvT ?_;conv=>whnf)|(refine mvF ?_;conv=>whnf)|(refine cT (by rfl) ?_;conv=>whnf)|(refine cF (by rfl) ?_;conv=>whnf)))
        refine Does.mono H.txc ?_
        rintro r w ⟨u, s', rfl, hr, H⟩
        ((conv=>whnf);repeat(first|(refine mvT ?_;conv=>whnf)|(refine mvF ?_;conv=>whnf)|(refine cT (by rfl) ?_;conv=>whnf)|(refine cF (by rfl) ?_;conv=>whnf)))
        exact ⟨(u, s'), ⟨rfl, rfl, rfl, rfl, rfl, rfl, rfl, rfl, rfl, rfl, rfl, rfl, trivial⟩, by rw [hc]; exact hr, H⟩
      · ((conv=>whnf);repeat(first|(refine mvT ?_;conv=>whnf)|(refine mvF ?_;conv=>whnf)|(refine cT (by rfl) ?_;conv=>whnf)|(refine cF (by rfl) ?_;conv=>whnf)))
        refine Does.mono H.txp ?_
        rintro r w ⟨u, s', rfl, hr, H⟩
        ((conv=>whnf);repeat(first|(refine mvT ?_;conv=>whnf)|(refine mvF ?_;conv=>whnf)|(refine cT (by rfl) ?_;conv=>whnf)|(refine cF (by rfl) ?_;conv=>whnf)))
        exact ⟨(u, s'), ⟨rfl, rfl, rfl, rfl, rfl, rfl, rfl, rfl, rfl, rfl, rfl, rfl, trivial⟩, by rw [hc]; exact hr, H⟩
    clear H
    rintro ⟨u4, s4⟩ w ⟨hr4, H⟩
    dsimp only at hr4 H
    ((conv=>whnf);repeat(first|(refine mvT ?_;conv=>whnf)|(refine mvF ?_;conv=>whnf)|(refine cT (by rfl) ?_;conv=>whnf)|(refine cF (by rfl) ?_;conv=>whnf)))
    refine H.st1 (v := str u4) 0 (rfl) (rfl) rfl (by first | omega | (simp [hlen1]; done) | (simp [hlen1]; omega)) rfl (Nat.lt_of_lt_of_le (Nat.lt_succ_self _) (Nat.le_of_ble_eq_true rfl)) ?_
    intro w H
    ((conv=>whnf);repeat(first|(refine mvT ?_;conv=>whnf)|(refine mvF ?_;conv=>whnf)|(refine cT (by rfl) ?_;conv=>whnf)|(refine cF (by rfl) ?_;conv=>whnf)))
    replace H : St w0 G0 p pb s4 ((g3, 80, es3.flatten ++ [str u4, .slice none 0 0, .map none] ++ ((List.replicate (n3.toNat - (i3 + 1)) [str [], .slice none 0 0, .map none]).flatten ++ post3)) :: L3) P3 w := H
    refine ⟨_, ld (H.cell rfl (k := 1) rfl) (by first | omega | (simp [hlen1]; done) | (simp [hlen1]; omega)), ?_⟩; ((conv=>whnf);repeat(first|(refine mvT ?_;conv=>whnf)|(refine mvF ?_;conv=>whnf)|(refine cT (by rfl) ?_;conv=>whnf)|(refine cF (by rfl) ?_;conv=>whnf)))
    (refine mvB ?_;((conv=>whnf);repeat(first|(refine mvT ?_;conv=>whnf)|(refine mvF ?_;conv=>whnf)|(refine cT (by rfl) ?_;conv=>whnf)|(refine cF (by rfl) ?_;conv=>whnf))))
    refine VC.cutE (fun q : Int × Rd => [(21, .int .i32 q.1), (20, .slice none 0 0), (0, .pointer (some ⟨p, 0, none⟩)), (2, .bool false), (7, .pointer (some ⟨pb, 0, none⟩)), (8, .int .i16 v), (9, .bool fx), (10, .pointer (some ⟨p, 0, none⟩)), (14, .int .i32 n3), (13, .slice (some ⟨g3, 0, none⟩) n3.toNat cap3), (15, .int .i32 i3), (16, .pointer (some ⟨g3, 0 + (i3 : Int).toNat * 3, none⟩)), (17, .pointer (some ⟨g3, 0 + (i3 : Int).toNat * 3, none⟩))]) (fun q w' => (-2147483648 ≤ q.1 ∧ q.1 ≤ 2147483647) ∧ rdLn fx s4 = q ∧ St w0 G0 p pb q.2 ((g3, 80, es3.flatten ++ [str u4, .slice none 0 0, .map none] ++ ((List.replicate (n3.toNat - (i3 + 1)) [str [], .slice none 0 0, .map none]).flatten ++ post3)) :: L3) P3 w') ?_ ?_
    · refine cI (by rfl) (fun hc=>?_) (fun hc=>?_)
      · ((conv=>whnf);repeat(first|(refine mvT ?_;conv=>whnf)|(refine mvF ?_;conv=>whnf)|(refine cT (by rfl) ?_;conv=>whnf)|(refine cF (by rfl) ?_;conv=>whnf)))
        refine Does.mono H.lnc ?_
        rintro r w ⟨n, s', rfl, hn, hr, H⟩
        ((conv=>whnf);repeat(first|(refine mvT ?_;conv=>whnf)|(refine mvF ?_;conv=>whnf)|(refine cT (by rfl) ?_;conv=>whnf)|(refine cF (by rfl) ?_;conv=>whnf)))
        exact ⟨(n, s'), ⟨rfl, rfl, rfl, rfl, rfl, rfl, rfl, rfl, rfl, rfl, rfl, rfl, rfl, trivial⟩, hn, by rw [hc]; exact hr, H⟩
      · ((conv=>whnf);repeat(first|(refine mvT ?_;conv=>whnf)|(refine mvF ?_;conv=>whnf)|(refine cT (by rfl) ?_;conv=>whnf)|(refine cF (by rfl) ?_;conv=>whnf)))
        refine Does.mono H.lnp ?_
        rintro r w ⟨n, s', rfl, hn, hr, H⟩
        ((conv=>whnf);repeat(first|(refine mvT ?_;conv=>whnf)|(refine mvF ?_;conv=>whnf)|(refine cT (by rfl) ?_;conv=>whnf)|(refine cF (by rfl) ?_;conv=>whnf)))
        exact ⟨(n, s'), ⟨rfl, rfl, rfl, rfl, rfl, rfl, rfl, rfl, rfl, rfl, rfl, rfl, rfl, trivial⟩, hn, by rw [hc]; exact hr, H⟩
    clear H
    rintro ⟨n6, s6⟩ w ⟨hn6, hln6, H⟩
    dsimp only at hn6 hln6 H
    ((conv=>whnf);repeat(first|(refine mvT ?_;conv=>whnf)|(refine mvF ?_;conv=>whnf)|(refine cT (by rfl) ?_;conv=>whnf)|(refine cF (by rfl) ?_;conv=>whnf)))
    refine Does.mono H.ok ?_
    rintro r w ⟨rfl, H⟩
    ((conv=>whnf);repeat(first|(refine mvT ?_;conv=>whnf)|(refine mvF ?_;conv=>whnf)|(refine cT (by rfl) ?_;conv=>whnf)|(refine cF (by rfl) ?_;conv=>whnf)))
    refine cI (by rfl) (fun hbd=>?_) (fun hbd=>?_)
    · have hbd : s6.2 = true := by simpa using hbd
      ((conv=>whnf);repeat(first|(refine mvT ?_;conv=>whnf)|(refine mvF ?_;conv=>whnf)|(refine cT (by rfl) ?_;conv=>whnf)|(refine cF (by rfl) ?_;conv=>whnf)))
      refine Does.mono (H.done hL hp1) ?_
      rintro r w ⟨rfl, H⟩
      ((conv=>whnf);repeat(first|(refine mvT ?_;conv=>whnf)|(refine mvF ?_;conv=>whnf)|(refine cT (by rfl) ?_;conv=>whnf)|(refine cF (by rfl) ?_;conv=>whnf)))
      refine RdPost.early hbd (hup3 (?_)) H
      rw [tail_yes (rdField8 (by decide) hr4) ⟨by decide, has_all hv⟩, tail_len ⟨by decide, has_all hv⟩ hln6 hbd]
    have hbd : s6.2 = false := by simpa using hbd
    clear hbd
    ((conv=>whnf);repeat(first|(refine mvT ?_;conv=>whnf)|(refine mvF ?_;conv=>whnf)|(refine cT (by rfl) ?_;conv=>whnf)|(refine cF (by rfl) ?_;conv=>whnf)))
    refine cut_zero ?_
    ((conv=>whnf);repeat(first|(refine mvT ?_;conv=>whnf)|(refine mvF ?_;conv=>whnf)|(refine cT (by rfl) ?_;conv=>whnf)|(refine cF (by rfl) ?_;conv=>whnf)))
    refine VC.cutE (fun a : Value => [(21, .int .i32 n6), (20, a), (0, .pointer (some ⟨p, 0, none⟩)), (2, .bool false), (7, .pointer (some ⟨pb, 0, none⟩)), (8, .int .i16 v), (9, .bool fx), (10, .pointer (some ⟨p, 0, none⟩)), (14, .int .i32 n3), (13, .slice (some ⟨g3, 0, none⟩) n3.toNat cap3), (15, .int .i32 i3), (16, .pointer (some ⟨g3, 0 + (i3 : Int).toNat * 3, none⟩)), (17, .pointer (some ⟨g3, 0 + (i3 : Int).toNat * 3, none⟩))]) (fun a w' => ListI w0 G0 p pb 107 [.int .i32 0, .int .i16 0, .map none] (elR 7 v fx 10 dAlterReplicaLogDirsResponseTopicPartition) (elQ true 7 10 dAlterReplicaLogDirsResponseTopicPartition) s6 n6 (decide (n6 ≤ 0)) ((g3, 80, es3.flatten ++ [str u4, .slice none 0 0, .map none] ++ ((List.replicate (n3.toNat - (i3 + 1)) [str [], .slice none 0 0, .map none]).flatten ++ post3)) :: L3) P3 a 0 w') ?_ ?_
    · refine cI (by rfl) (fun hps=>?_) (fun hps=>?_)
      · have hps : 0 < n6 := by have := of_decide_eq_true hps; omega
        ((conv=>whnf);repeat(first|(refine mvT ?_;conv=>whnf)|(refine mvF ?_;conv=>whnf)|(refine cT (by rfl) ?_;conv=>whnf)|(refine cF (by rfl) ?_;conv=>whnf)))
        refine H.grow hps hn6.2 (by decide) rfl rfl (by decide) ?_
        intro g cap post w hc1 hc2 H
        ((conv=>whnf);repeat(first|(refine mvT ?_;conv=>whnf)|(refine mvF ?_;conv=>whnf)|(refine cT (by rfl) ?_;conv=>whnf)|(refine cF (by rfl) ?_;conv=>whnf)))
        exact ⟨_, ⟨rfl, rfl, rfl, rfl, rfl, rfl, rfl, rfl, rfl, rfl, rfl, rfl, rfl, trivial⟩, ListI.some hps (decide_eq_false (by omega)) hc1 hc2 H⟩
      · have hps : n6 ≤ 0 := by have := of_decide_eq_false hps; omega
        ((conv=>whnf);repeat(first|(refine mvT ?_;conv=>whnf)|(refine mvF ?_;conv=>whnf)|(refine cT (by rfl) ?_;conv=>whnf)|(refine cF (by rfl) ?_;conv=>whnf)))
        exact ⟨_, ⟨rfl, rfl, rfl, rfl, rfl, rfl, rfl, rfl, rfl, rfl, rfl, rfl, rfl, trivial⟩, ListI.none hps (decide_eq_true hps) H⟩
    clear H
    rintro a6 w H
    ((conv=>whnf);repeat(first|(refine mvT ?_;conv=>whnf)|(refine mvF ?_;conv=>whnf)|(refine cT (by rfl) ?_;conv=>whnf)|(refine cF (by rfl) ?_;conv=>whnf)))
    have hpL6 : inL ((g3, 80, es3.flatten ++ [str u4, .slice none 0 0, .map none] ++ ((List.replicate (n3.toNat - (i3 + 1)) [str [], .slice none 0 0, .map none]).flatten ++ post3)) :: L3) p := inL.tail hpL3
    refine VL.loop (fun i : Nat => [(21, .int .i32 n6), (20, a6), (22, .int .i32 i), (0, .pointer (some ⟨p, 0, none⟩)), (2, .bool false), (7, .pointer (some ⟨pb, 0, none⟩)), (8, .int .i16 v), (9, .bool fx), (10, .pointer (some ⟨p, 0, none⟩)), (14, .int .i32 n3), (13, .slice (some ⟨g3, 0, none⟩) n3.toNat cap3), (15, .int .i32 i3), (16, .pointer (some ⟨g3, 0 + (i3 : Int).toNat * 3, none⟩)), (17, .pointer (some ⟨g3, 0 + (i3 : Int).toNat * 3, none⟩))]) (fun i w' => i ≤ 2147483647 ∧ ListI w0 G0 p pb 107 [.int .i32 0, .int .i16 0, .map none] (elR 7 v fx 10 dAlterReplicaLogDirsResponseTopicPartition) (elQ true 7 10 dAlterReplicaLogDirsResponseTopicPartition) s6 n6 (decide (n6 ≤ 0)) ((g3, 80, es3.flatten ++ [str u4, .slice none 0 0, .map none] ++ ((List.replicate (n3.toNat - (i3 + 1)) [str [], .slice none 0 0, .map none]).flatten ++ post3)) :: L3) P3 a6 i w') (fun i => n6.toNat - i) 0 ⟨rfl, rfl, rfl, rfl, rfl, rfl, rfl, rfl, rfl, rfl, rfl, rfl, rfl, rfl, trivial⟩ ⟨by decide, H⟩ ?_
    clear H
    rintro i6 w ⟨hi6, H⟩
    ((conv=>whnf);repeat(first|(refine mvT ?_;conv=>whnf)|(refine mvF ?_;conv=>whnf)|(refine cT (by rfl) ?_;conv=>whnf)|(refine cF (by rfl) ?_;conv=>whnf)))
    refine cI (by rfl) (fun h9=>?_) (fun h9=>?_)
    · have hlt6 : (i6 : Int) < n6 := of_decide_eq_true h9
      obtain ⟨g6, cap6, post6, rfl, hgo6, HI⟩ := H.go hlt6
      obtain ⟨es6, ts6, si6, hes6, hez6, hrn6, hts6, hlen2, H⟩ := HI.open hgo6.2.2.2.2
      obtain ⟨L6, hL6⟩ : ∃ L : List Ob, L = ((g3, 80, es3.flatten ++ [str u4, .slice none 0 0, .map none] ++ ((List.replicate (n3.toNat - (i3 + 1)) [str [], .slice none 0 0, .map none]).flatten ++ post3)) :: L3) := ⟨_, rfl⟩
      rw [← hL6] at H hpL6
      obtain ⟨P6, hP6⟩ : ∃ P : World → Prop, P = fun w => (∀ (j : Nat) (c : List Value) (y : T), es6[j]? = some c → ts6[j]? = some y → elQ true 7 10 dAlterReplicaLogDirsResponseTopicPartition ⟨w, fun k => k ≠ p⟩ c y) ∧ P3 w := ⟨_, rfl⟩
      rw [← hP6] at H
      replace H : St w0 G0 p pb si6 ((g6, 107, es6.flatten ++ [.int .i32 0, .int .i16 0, .map none] ++ ((List.replicate (n6.toNat - (i6 + 1)) [.int .i32 0, .int .i16 0, .map none]).flatten ++ post6)) :: L6) P6 w := H
      ((conv=>whnf);repeat(first|(refine mvT ?_;conv=>whnf)|(refine mvF ?_;conv=>whnf)|(refine cT (by rfl) ?_;conv=>whnf)|(refine cF (by rfl) ?_;conv=>whnf)))
      refine ⟨g6, 0, rfl, ⟨by omega, by omega⟩, ?_⟩
      ((conv=>whnf);repeat(first|(refine mvT ?_;conv=>whnf)|(refine mvF ?_;conv=>whnf)|(refine cT (by rfl) ?_;conv=>whnf)|(refine cF (by rfl) ?_;conv=>whnf)))
      refine Does.mono (dfAlterReplicaLogDirsResponseTopicPartition (pre := es6.flatten) (cur := [.int .i32 0, .int .i16 0, .map none]) (post := ((List.replicate (n6.toNat - (i6 + 1)) [.int .i32 0, .int .i16 0, .map none]).flatten ++ post6)) H.head (by first | (rw [hlen2]; simp; done) | (simp [hlen2]; done) | (simp [hlen2]; omega)) rfl) ?_
      rintro rd w2 ⟨hdf, hxd⟩
      replace H := H.put hdf hxd
      clear hdf hxd
      replace H : St w0 G0 p pb si6 ((g6, 107, es6.flatten ++ [.int .i32 0, .int .i16 0, .map none] ++ ((List.replicate (n6.toNat - (i6 + 1)) [.int .i32 0, .int .i16 0, .map none]).flatten ++ post6)) :: L6) P6 w2 := H
      ((conv=>whnf);repeat(first|(refine mvT ?_;conv=>whnf)|(refine mvF ?_;conv=>whnf)|(refine cT (by rfl) ?_;conv=>whnf)|(refine cF (by rfl) ?_;conv=>whnf)))
      have hup6 : tailBad 7 v fx dAlterReplicaLogDirsResponseTopicPartition si6 = true → (rdPart 9 v fx dAlterReplicaLogDirsResponse (l, false)).2.2 = true := by
        intro hb
        refine hup3 ?_
        rw [tail_yes (rdField8 (by decide) hr4) ⟨by decide, has_all hv⟩, tail_el ⟨by decide, has_all hv⟩ hln6 hgo6.2.2.2.2 hrn6 hb]
      refine Does.mono H.int32 ?_
      rintro r w ⟨n7, s7, rfl, hn7, hr7, H⟩
      ((conv=>whnf);repeat(first|(refine mvT ?_;conv=>whnf)|(refine mvF ?_;conv=>whnf)|(refine cT (by rfl) ?_;conv=>whnf)|(refine cF (by rfl) ?_;conv=>whnf)))
      refine H.st1 (v := .int .i32 n7) 0 (rfl) (rfl) rfl (by first | omega | (simp [hlen2]; done) | (simp [hlen2]; omega)) rfl (Nat.lt_of_lt_of_le (Nat.lt_succ_self _) (Nat.le_of_ble_eq_true rfl)) ?_
      intro w H
      ((conv=>whnf);repeat(first|(refine mvT ?_;conv=>whnf)|(refine mvF ?_;conv=>whnf)|(refine cT (by rfl) ?_;conv=>whnf)|(refine cF (by rfl) ?_;conv=>whnf)))
      replace H : St w0 G0 p pb s7 ((g6, 107, es6.flatten ++ [.int .i32 n7, .int .i16 0, .map none] ++ ((List.replicate (n6.toNat - (i6 + 1)) [.int .i32 0, .int .i16 0, .map none]).flatten ++ post6)) :: L6) P6 w := H
      refine Does.mono H.int16 ?_
      rintro r w ⟨n9, s9, rfl, hn9, hr9, H⟩
      ((conv=>whnf);repeat(first|(refine mvT ?_;conv=>whnf)|(refine mvF ?_;conv=>whnf)|(refine cT (by rfl) ?_;conv=>whnf)|(refine cF (by rfl) ?_;conv=>whnf)))
      refine H.st1 (v := .int .i16 n9) 1 (rfl) (rfl) rfl (by first | omega | (simp [hlen2]; done) | (simp [hlen2]; omega)) rfl (Nat.lt_of_lt_of_le (Nat.lt_succ_self _) (Nat.le_of_ble_eq_true rfl)) ?_
      intro w H
      ((conv=>whnf);repeat(first|(refine mvT ?_;conv=>whnf)|(refine mvF ?_;conv=>whnf)|(refine cT (by rfl) ?_;conv=>whnf)|(refine cF (by rfl) ?_;conv=>whnf)))
      replace H : St w0 G0 p pb s9 ((g6, 107, es6.flatten ++ [.int .i32 n7, .int .i16 n9, .map none] ++ ((List.replicate (n6.toNat - (i6 + 1)) [.int .i32 0, .int .i16 0, .map none]).flatten ++ post6)) :: L6) P6 w := H
      (refine mvB ?_;((conv=>whnf);repeat(first|(refine mvT ?_;conv=>whnf)|(refine mvF ?_;conv=>whnf)|(refine cT (by rfl) ?_;conv=>whnf)|(refine cF (by rfl) ?_;conv=>whnf))))
      refine VC.cutB (fun q : Value × List Tg × Rd => [(0, .pointer (some ⟨p, 0, none⟩)), (2, .bool false), (7, .pointer (some ⟨pb, 0, none⟩)), (8, .int .i16 v), (9, .bool fx), (10, .pointer (some ⟨p, 0, none⟩)), (14, .int .i32 n3), (13, .slice (some ⟨g3, 0, none⟩) n3.toNat cap3), (15, .int .i32 i3), (16, .pointer (some ⟨g3, 0 + (i3 : Int).toNat * 3, none⟩)), (17, .pointer (some ⟨g3, 0 + (i3 : Int).toNat * 3, none⟩)), (21, .int .i32 n6), (20, .slice (some ⟨g6, 0, none⟩) n6.toNat cap6), (22, .int .i32 i6), (23, .pointer (some ⟨g6, 0 + (i6 : Int).toNat * 3, none⟩)), (24, .pointer (some ⟨g6, 0 + (i6 : Int).toNat * 3, none⟩))]) (fun q w' => rdTagsF fx s9 = q.2 ∧ St w0 G0 p pb q.2.2 ((g6, 107, es6.flatten ++ [.int .i32 n7, .int .i16 n9, q.1] ++ ((List.replicate (n6.toNat - (i6 + 1)) [.int .i32 0, .int .i16 0, .map none]).flatten ++ post6)) :: L6) (fun w => TGf p q.1 q.2.1 w ∧ P6 w) w') ?_ ?_
      · refine cI (by rfl) (fun hc=>?_) (fun hc=>?_)
        · ((conv=>whnf);repeat(first|(refine mvT ?_;conv=>whnf)|(refine mvF ?_;conv=>whnf)|(refine cT (by rfl) ?_;conv=>whnf)|(refine cF (by rfl) ?_;conv=>whnf)))
          refine Does.mono H.tags ?_
          rintro r w ⟨m, u, s', rfl, hone, hr, H⟩
          ((conv=>whnf);repeat(first|(refine mvT ?_;conv=>whnf)|(refine mvF ?_;conv=>whnf)|(refine cT (by rfl) ?_;conv=>whnf)|(refine cF (by rfl) ?_;conv=>whnf)))
          refine H.st1 (v := m) 2 (rfl) (hone) rfl (by first | omega | (simp [hlen2]; done) | (simp [hlen2]; omega)) rfl (Nat.lt_of_lt_of_le (Nat.lt_succ_self _) (Nat.le_of_ble_eq_true rfl)) ?_
          intro w H
          ((conv=>whnf);repeat(first|(refine mvT ?_;conv=>whnf)|(refine mvF ?_;conv=>whnf)|(refine cT (by rfl) ?_;conv=>whnf)|(refine cF (by rfl) ?_;conv=>whnf)))
          exact ⟨(m, u, s'), ⟨rfl, rfl, rfl, rfl, rfl, rfl, rfl, rfl, rfl, rfl, rfl, rfl, rfl, rfl, rfl, rfl, trivial⟩, by rw [rdTagsF, if_pos hc]; exact hr, H⟩
        · ((conv=>whnf);repeat(first|(refine mvT ?_;conv=>whnf)|(refine mvF ?_;conv=>whnf)|(refine cT (by rfl) ?_;conv=>whnf)|(refine cF (by rfl) ?_;conv=>whnf)))
          exact ⟨(.map none, [], s9), ⟨rfl, rfl, rfl, rfl, rfl, rfl, rfl, rfl, rfl, rfl, rfl, rfl, rfl, rfl, rfl, rfl, trivial⟩, by rw [rdTagsF, if_neg (by rw [hc]; decide)], H.add fun w' _ => TagsR.nil _ _⟩
      clear H
      rintro ⟨m11, u11, s11⟩ w ⟨htg, H⟩
      dsimp only at htg H
      ((conv=>whnf);repeat(first|(refine mvT ?_;conv=>whnf)|(refine mvF ?_;conv=>whnf)|(refine cT (by rfl) ?_;conv=>whnf)|(refine cF (by rfl) ?_;conv=>whnf)))
      obtain ⟨P12, hP12⟩ : ∃ P : World → Prop, P = fun w => TGf p m11 u11 w ∧ P6 w := ⟨_, rfl⟩
      replace H : St w0 G0 p pb s11 ((g6, 107, es6.flatten ++ [.int .i32 n7, .int .i16 n9, m11] ++ ((List.replicate (n6.toNat - (i6 + 1)) [.int .i32 0, .int .i16 0, .map none]).flatten ++ post6)) :: L6) P12 w := by rw [hP12]; exact H
      have hpart : rdPart 7 v fx dAlterReplicaLogDirsResponseTopicPartition si6 = (.mk 0 [] false [numT n7, numT n9] u11, s11) := by
        unfold rdPart rdPartW
        rw [rdAll_yes (df := dfT 7) (rdField3.trans hr7) ⟨by decide, has_all hv⟩, rdAll_yes (df := dfT 7) (rdField2.trans hr9) ⟨by decide, has_all hv⟩]
        simp only [rdAll]
        rw [htg]
      refine ⟨i6 + 1, ⟨rfl, rfl, ?_, rfl, rfl, rfl, rfl, rfl, rfl, rfl, rfl, rfl, rfl, rfl, trivial⟩, ⟨by omega, ListI.back hgo6 (LoopI.next hes6 hez6 hrn6 hts6 (cur := [.int .i32 n7, .int .i16 n9, m11]) (x := .mk 0 [] false [numT n7, numT n9] u11) (hpart) rfl (by rw [← hL6]; exact H) fun w hP => ?_)⟩, by omega⟩
      · show some (Value.int .i32 _) = _
        rw [IntKind.wrap_i32]
        simp only [Option.some.injEq, Value.int.injEq, true_and]
        omega
      · skip
        rw [hP12] at hP
        obtain ⟨hf12_, hP⟩ := hP
        rw [hP6] at hP
        exact ⟨QPt (QA1 (QF3 hn7) (QA1 (QF2 hn9) (QA0))) hf12_, hP⟩
    have hge6 : ¬ (i6 : Int) < n6 := of_decide_eq_false h9
    obtain ⟨l13, s13, hone13, hl13, hr13, H⟩ := H.done hge6 hln6 (nl := nlF (.mk 11 0 (-1) (-1) (-1) 0 10 dAlterReplicaLogDirsResponseTopicPartition) v) (sz := elZ true 7 10 dAlterReplicaLogDirsResponseTopicPartition) rfl hpL6 rfl
    ((conv=>whnf);repeat(first|(refine mvT ?_;conv=>whnf)|(refine mvF ?_;conv=>whnf)|(refine cT (by rfl) ?_;conv=>whnf)|(refine cF (by rfl) ?_;conv=>whnf)))
    obtain ⟨P14, hP14⟩ : ∃ P : World → Prop, P = fun w => ListR true (elZ true 7 10 dAlterReplicaLogDirsResponseTopicPartition) (elQ true 7 10 dAlterReplicaLogDirsResponseTopicPartition ⟨w, fun k => k ≠ p⟩) w (fun k => k ≠ p) a6 (.mk 0 [] (decide (n6 ≤ 0)) l13 []) ∧ P3 w := ⟨_, rfl⟩
    replace H : St w0 G0 p pb s13 ((g3, 80, es3.flatten ++ [str u4, .slice none 0 0, .map none] ++ ((List.replicate (n3.toNat - (i3 + 1)) [str [], .slice none 0 0, .map none]).flatten ++ post3)) :: L3) P14 w := by rw [hP14]; exact H
    refine H.st1 (v := a6) 1 (cells_one hone13) (hone13) rfl (by first | omega | (simp [hlen1]; done) | (simp [hlen1]; omega)) rfl (Nat.lt_of_lt_of_le (Nat.lt_succ_self _) (Nat.le_of_ble_eq_true rfl)) ?_
    intro w H
    ((conv=>whnf);repeat(first|(refine mvT ?_;conv=>whnf)|(refine mvF ?_;conv=>whnf)|(refine cT (by rfl) ?_;conv=>whnf)|(refine cF (by rfl) ?_;conv=>whnf)))
    replace H : St w0 G0 p pb s13 ((g3, 80, es3.flatten ++ [str u4, a6, .map none] ++ ((List.replicate (n3.toNat - (i3 + 1)) [str [], .slice none 0 0, .map none]).flatten ++ post3)) :: L3) P14 w := H
    (refine mvB ?_;((conv=>whnf);repeat(first|(refine mvT ?_;conv=>whnf)|(refine mvF ?_;conv=>whnf)|(refine cT (by rfl) ?_;conv=>whnf)|(refine cF (by rfl) ?_;conv=>whnf))))
    refine VC.cutB (fun q : Value × List Tg × Rd => [(0, .pointer (some ⟨p, 0, none⟩)), (2, .bool false), (7, .pointer (some ⟨pb, 0, none⟩)), (8, .int .i16 v), (9, .bool fx), (10, .pointer (some ⟨p, 0, none⟩)), (14, .int .i32 n3), (13, .slice (some ⟨g3, 0, none⟩) n3.toNat cap3), (15, .int .i32 i3), (16, .pointer (some ⟨g3, 0 + (i3 : Int).toNat * 3, none⟩)), (17, .pointer (some ⟨g3, 0 + (i3 : Int).toNat * 3, none⟩))]) (fun q w' => rdTagsF fx s13 = q.2 ∧ St w0 G0 p pb q.2.2 ((g3, 80, es3.flatten ++ [str u4, a6, q.1] ++ ((List.replicate (n3.toNat - (i3 + 1)) [str [], .slice none 0 0, .map none]).flatten ++ post3)) :: L3) (fun w => TGf p q.1 q.2.1 w ∧ P14 w) w') ?_ ?_
    · refine cI (by rfl) (fun hc=>?_) (fun hc=>?_)
      · ((conv=>whnf);repeat(first|(refine mvT ?_;conv=>whnf)|(refine mvF ?_;conv=>whnf)|(refine cT (by rfl) ?_;conv=>whnf)|(refine cF (by rfl) ?_;conv=>whnf)))
        refine Does.mono H.tags ?_
        rintro r w ⟨m, u, s', rfl, hone, hr, H⟩
        ((conv=>whnf);repeat(first|(refine mvT ?_;conv=>whnf)|(refine mvF ?_;conv=>whnf)|(refine cT (by rfl) ?_;conv=>whnf)|(refine cF (by rfl) ?_;conv=>whnf)))
        refine H.st1 (v := m) 2 (rfl) (hone) rfl (by first | omega | (simp [hlen1]; done) | (simp [hlen1]; omega)) rfl (Nat.lt_of_lt_of_le (Nat.lt_succ_self _) (Nat.le_of_ble_eq_true rfl)) ?_
        intro w H
        ((conv=>whnf);repeat(first|(refine mvT ?_;conv=>whnf)|(refine mvF ?_;conv=>whnf)|(refine cT (by rfl) ?_;conv=>whnf)|(refine cF (by rfl) ?_;conv=>whnf)))
        exact ⟨(m, u, s'), ⟨rfl, rfl, rfl, rfl, rfl, rfl, rfl, rfl, rfl, rfl, rfl, trivial⟩, by rw [rdTagsF, if_pos hc]; exact hr, H⟩
      · ((conv=>whnf);repeat(first|(refine mvT ?_;conv=>whnf)|(refine mvF ?_;conv=>whnf)|(refine cT (by rfl) ?_;conv=>whnf)|(refine cF (by rfl) ?_;conv=>whnf)))
        exact ⟨(.map none, [], s13), ⟨rfl, rfl, rfl, rfl, rfl, rfl, rfl, rfl, rfl, rfl, rfl, trivial⟩, by rw [rdTagsF, if_neg (by rw [hc]; decide)], H.add fun w' _ => TagsR.nil _ _⟩
    clear H
    rintro ⟨m16, u16, s16⟩ w ⟨htg, H⟩
    dsimp only at htg H
    ((conv=>whnf);repeat(first|(refine mvT ?_;conv=>whnf)|(refine mvF ?_;conv=>whnf)|(refine cT (by rfl) ?_;conv=>whnf)|(refine cF (by rfl) ?_;conv=>whnf)))
    obtain ⟨P17, hP17⟩ : ∃ P : World → Prop, P = fun w => TGf p m16 u16 w ∧ P14 w := ⟨_, rfl⟩
    replace H : St w0 G0 p pb s16 ((g3, 80, es3.flatten ++ [str u4, a6, m16] ++ ((List.replicate (n3.toNat - (i3 + 1)) [str [], .slice none 0 0, .map none]).flatten ++ post3)) :: L3) P17 w := by rw [hP17]; exact H
    have hpart : rdPart 8 v fx dAlterReplicaLogDirsResponseTopic si3 = (.mk 0 [] false [.mk 0 u4 false [] [], .mk 0 [] (decide (n6 ≤ 0)) l13 []] u16, s16) := by
      unfold rdPart rdPartW
      rw [rdAll_yes (df := dfT 8) (rdField8 (by decide) hr4) ⟨by decide, has_all hv⟩, rdAll_yes (df := dfT 8) ((rdField_list _ _ _ _ _ _ _ _ _ _ _).trans hr13) ⟨by decide, has_all hv⟩]
      simp only [rdAll]
      rw [htg]
    refine ⟨i3 + 1, ⟨rfl, rfl, ?_, rfl, rfl, rfl, rfl, rfl, rfl, trivial⟩, ⟨by omega, ListI.back hgo3 (LoopI.next hes3 hez3 hrn3 hts3 (cur := [str u4, a6, m16]) (x := .mk 0 [] false [.mk 0 u4 false [] [], .mk 0 [] (decide (n6 ≤ 0)) l13 []] u16) (hpart) rfl (by rw [← hL3]; exact H) fun w hP => ?_)⟩, by omega⟩
    · show some (Value.int .i32 _) = _
      rw [IntKind.wrap_i32]
      simp only [Option.some.injEq, Value.int.injEq, true_and]
      omega
    · skip
      rw [hP17] at hP
      obtain ⟨hf17_, hP⟩ := hP
      rw [hP14] at hP
      obtain ⟨hf14_, hP⟩ := hP
      rw [hP3] at hP
      exact ⟨QPt (QA1 (QF8 (by decide) u4) (QA1 (QF11 hl13 hf14_) (QA0))) hf17_, hP⟩
  have hge3 : ¬ (i3 : Int) < n3 := of_decide_eq_false h9
  obtain ⟨l18, s18, hone18, hl18, hr18, H⟩ := H.done hge3 hln3 (nl := nlF (.mk 11 0 (-1) (-1) (-1) 0 10 dAlterReplicaLogDirsResponseTopic) v) (sz := elZ true 8 10 dAlterReplicaLogDirsResponseTopic) rfl hpL3 rfl
  ((conv=>whnf);repeat(first|(refine mvT ?_;conv=>whnf)|(refine mvF ?_;conv=>whnf)|(refine cT (by rfl) ?_;conv=>whnf)|(refine cF (by rfl) ?_;conv=>whnf)))
  obtain ⟨P19, hP19⟩ : ∃ P : World → Prop, P = fun w => ListR true (elZ true 8 10 dAlterReplicaLogDirsResponseTopic) (elQ true 8 10 dAlterReplicaLogDirsResponseTopic ⟨w, fun k => k ≠ p⟩) w (fun k => k ≠ p) a3 (.mk 0 [] (decide (n3 ≤ 0)) l18 []) ∧ (fun _ => True) w := ⟨_, rfl⟩
  replace H : St w0 G0 p pb s18 ((p, ty, [] ++ [.int .i16 v, .int .i32 n1, .slice none 0 0, .map none] ++ []) :: []) P19 w := by rw [hP19]; exact H
  refine H.st1 (v := a3) 2 (cells_one hone18) (hone18) rfl (by simp) rfl (Nat.lt_of_lt_of_le (Nat.lt_succ_self _) (Nat.le_of_ble_eq_true rfl)) ?_
  intro w H
  ((conv=>whnf);repeat(first|(refine mvT ?_;conv=>whnf)|(refine mvF ?_;conv=>whnf)|(refine cT (by rfl) ?_;conv=>whnf)|(refine cF (by rfl) ?_;conv=>whnf)))
  replace H : St w0 G0 p pb s18 ((p, ty, [] ++ [.int .i16 v, .int .i32 n1, a3, .map none] ++ []) :: []) P19 w := H
  (refine mvB ?_;((conv=>whnf);repeat(first|(refine mvT ?_;conv=>whnf)|(refine mvF ?_;conv=>whnf)|(refine cT (by rfl) ?_;conv=>whnf)|(refine cF (by rfl) ?_;conv=>whnf))))
  refine VC.cutE (fun q : Value × List Tg × Rd => [(0, .pointer (some ⟨p, 0, none⟩)), (2, .bool false), (7, .pointer (some ⟨pb, 0, none⟩)), (8, .int .i16 v), (9, .bool fx), (10, .pointer (some ⟨p, 0, none⟩))]) (fun q w' => rdTagsF fx s18 = q.2 ∧ St w0 G0 p pb q.2.2 ((p, ty, [] ++ [.int .i16 v, .int .i32 n1, a3, q.1] ++ []) :: []) (fun w => TGf p q.1 q.2.1 w ∧ P19 w) w') ?_ ?_
  · refine cI (by rfl) (fun hc=>?_) (fun hc=>?_)
    · ((conv=>whnf);repeat(first|(refine mvT ?_;conv=>whnf)|(refine mvF ?_;conv=>whnf)|(refine cT (by rfl) ?_;conv=>whnf)|(refine cF (by rfl) ?_;conv=>whnf)))
      refine Does.mono H.tags ?_
      rintro r w ⟨m, u, s', rfl, hone, hr, H⟩
      ((conv=>whnf);repeat(first|(refine mvT ?_;conv=>whnf)|(refine mvF ?_;conv=>whnf)|(refine cT (by rfl) ?_;conv=>whnf)|(refine cF (by rfl) ?_;conv=>whnf)))
      refine H.st1 (v := m) 3 (rfl) (hone) rfl (by simp) rfl (Nat.lt_of_lt_of_le (Nat.lt_succ_self _) (Nat.le_of_ble_eq_true rfl)) ?_
      intro w H
      ((conv=>whnf);repeat(first|(refine mvT ?_;conv=>whnf)|(refine mvF ?_;conv=>whnf)|(refine cT (by rfl) ?_;conv=>whnf)|(refine cF (by rfl) ?_;conv=>whnf)))
      exact ⟨(m, u, s'), ⟨rfl, rfl, rfl, rfl, rfl, rfl, trivial⟩, by rw [rdTagsF, if_pos hc]; exact hr, H⟩
    · ((conv=>whnf);repeat(first|(refine mvT ?_;conv=>whnf)|(refine mvF ?_;conv=>whnf)|(refine cT (by rfl) ?_;conv=>whnf)|(refine cF (by rfl) ?_;conv=>whnf)))
      exact ⟨(.map none, [], s18), ⟨rfl, rfl, rfl, rfl, rfl, rfl, trivial⟩, by rw [rdTagsF, if_neg (by rw [hc]; decide)], H.add fun w' _ => TagsR.nil _ _⟩
  clear H
  rintro ⟨m21, u21, s21⟩ w ⟨htg, H⟩
  dsimp only at htg H
  ((conv=>whnf);repeat(first|(refine mvT ?_;conv=>whnf)|(refine mvF ?_;conv=>whnf)|(refine cT (by rfl) ?_;conv=>whnf)|(refine cF (by rfl) ?_;conv=>whnf)))
  obtain ⟨P22, hP22⟩ : ∃ P : World → Prop, P = fun w => TGf p m21 u21 w ∧ P19 w := ⟨_, rfl⟩
  replace H : St w0 G0 p pb s21 ((p, ty, [] ++ [.int .i16 v, .int .i32 n1, a3, m21] ++ []) :: []) P22 w := by rw [hP22]; exact H
  have hpart : rdPart 9 v fx dAlterReplicaLogDirsResponse (l, false) = (.mk 0 [] false [numT n1, .mk 0 [] (decide (n3 ≤ 0)) l18 []] u21, s21) := by
    unfold rdPart rdPartW
    rw [rdAll_yes (df := dfT 9) (rdField3.trans hr1) ⟨by decide, has_all hv⟩, rdAll_yes (df := dfT 9) ((rdField_list _ _ _ _ _ _ _ _ _ _ _).trans hr18) ⟨by decide, has_all hv⟩]
    simp only [rdAll]
    rw [htg]
  refine Does.mono (H.done hL hp1) ?_
  rintro r w ⟨rfl, H⟩
  ((conv=>whnf);repeat(first|(refine mvT ?_;conv=>whnf)|(refine mvF ?_;conv=>whnf)|(refine cT (by rfl) ?_;conv=>whnf)|(refine cF (by rfl) ?_;conv=>whnf)))
  refine RdPost.end hpart H fun hP => ?_
  rw [hP22] at hP
  obtain ⟨hf22_, hP⟩ := hP
  rw [hP19] at hP
  obtain ⟨hf19_, hP⟩ := hP
  exact QPt (QA1 (QF3 hn1) (QA1 (QF11 hl18 hf19_) (QA0))) hf22_
end Go.Proofs.YtmmieooipcfbiabDoorR.K
