
/- Reading of ApiVersionsResponse. -/
import Derived.Test.YtabhhkdgfdjicaaDoorE7
set_option linter.unusedVariables false
set_option linter.unusedSimpArgs false
namespace Go.Proofs.YtabhhkdgfdjicaaDoor.K
open Go
set_option maxHeartbeats 4000000
set_option maxRecDepth 100000

abbrev dApiVersionsResponseApiKey : List Fd := [.mk 2 0 (-1) (-1) (-1) 0 0 [], .mk 2 0 (-1) (-1) (-1) 0 0 [], .mk 2 0 (-1) (-1) (-1) 0 0 []]
abbrev dApiVersionsResponseSupportedFeature : List Fd := [.mk 8 0 (-1) (-1) (-1) 0 0 [], .mk 2 0 (-1) (-1) (-1) 0 0 [], .mk 2 0 (-1) (-1) (-1) 0 0 []]
abbrev dApiVersionsResponseFinalizedFeature : List Fd := [.mk 8 0 (-1) (-1) (-1) 0 0 [], .mk 2 0 (-1) (-1) (-1) 0 0 [], .mk 2 0 (-1) (-1) (-1) 0 0 []]
abbrev dApiVersionsResponse : List Fd := [.mk 2 0 (-1) (-1) (-1) 0 0 [], .mk 11 0 (-1) (-1) (-1) 0 10 dApiVersionsResponseApiKey, .mk 3 1 (-1) (-1) (-1) 0 0 [], .mk 11 0 (-1) (-1) 0 0 10 dApiVersionsResponseSupportedFeature, .mk 4 0 (-1) (-1) 1 (-1) 0 [], .mk 11 0 (-1) (-1) 2 0 10 dApiVersionsResponseFinalizedFeature, .mk 0 0 (-1) (-1) 3 0 0 []]
theorem dfApiVersionsResponseApiKey {w : World} {q o : Nat} {T : TypeId} {pre cur post : List Value} (ho : Own w q T (pre ++ cur ++ post)) (hp : pre.length = o) (hl : cur.length = 4) :
    Does X.P 31 #[.pointer (some ⟨q, o, none⟩)] w fun r w' => Own w' q T (pre ++ cur ++ post) ∧ Ext (fun k => k = q) w w' := by
  have hx : Ext (fun k => k = q) w w := Ext.refl _ _
  refine Does.go (X := X) (l := [_]) Tryd.func31 rfl (by kernel_rfl) (by kernel_rfl) _ rfl ?_
  ((conv=>whnf);repeat(first|(refine mvT ?_;conv=>whnf)|(refine mvF ?_;conv=>whnf)|(refine cT (by rfl) ?_;conv=>whnf)|(refine cF (by rfl) ?_;conv=>whnf)))
  exact ⟨ho, hx⟩
theorem dfApiVersionsResponseSupportedFeature {w : World} {q o : Nat} {T : TypeId} {pre cur post : List Value} (ho : Own w q T (pre ++ cur ++ post)) (hp : pre.length = o) (hl : cur.length = 4) :
    Does X.P 37 #[.pointer (some ⟨q, o, none⟩)] w fun r w' => Own w' q T (pre ++ cur ++ post) ∧ Ext (fun k => k = q) w w' := by
  have hx : Ext (fun k => k = q) w w := Ext.refl _ _
  refine Does.go (X := X) (l := [_]) Tryd.func37 rfl (by kernel_rfl) (by kernel_rfl) _ rfl ?_
  ((conv=>whnf);repeat(first|(refine mvT ?_;conv=>whnf)|(refine mvF ?_;conv=>whnf)|(refine cT (by rfl) ?_;conv=>whnf)|(refine cF (by rfl) ?_;conv=>whnf)))
  exact ⟨ho, hx⟩
theorem dfApiVersionsResponseFinalizedFeature {w : World} {q o : Nat} {T : TypeId} {pre cur post : List Value} (ho : Own w q T (pre ++ cur ++ post)) (hp : pre.length = o) (hl : cur.length = 4) :
    Does X.P 43 #[.pointer (some ⟨q, o, none⟩)] w fun r w' => Own w' q T (pre ++ cur ++ post) ∧ Ext (fun k => k = q) w w' := by
  have hx : Ext (fun k => k = q) w w := Ext.refl _ _
  refine Does.go (X := X) (l := [_]) Tryd.func43 rfl (by kernel_rfl) (by kernel_rfl) _ rfl ?_
  ((conv=>whnf);repeat(first|(refine mvT ?_;conv=>whnf)|(refine mvF ?_;conv=>whnf)|(refine cT (by rfl) ?_;conv=>whnf)|(refine cF (by rfl) ?_;conv=>whnf)))
  exact ⟨ho, hx⟩
theorem dfApiVersionsResponse {w : World} {q o : Nat} {T : TypeId} {pre cur post : List Value} (ho : Own w q T (pre ++ cur ++ post)) (hp : pre.length = o) (hl : cur.length = 9) :
    Does X.P 17 #[.pointer (some ⟨q, o, none⟩)] w fun r w' => Own w' q T (pre ++ (cur.set 5 (.int .i64 (-1))) ++ post) ∧ Ext (fun k => k = q) w w' := by
  have hx : Ext (fun k => k = q) w w := Ext.refl _ _
  refine Does.go (X := X) (l := [_]) Tryd.func17 rfl (by kernel_rfl) (by kernel_rfl) _ rfl ?_
  ((conv=>whnf);repeat(first|(refine mvT ?_;conv=>whnf)|(refine mvF ?_;conv=>whnf)|(refine cT (by rfl) ?_;conv=>whnf)|(refine cF (by rfl) ?_;conv=>whnf)))
  refine stm ho 5 rfl rfl hp (by omega) rfl (by first | omega | (simp only [List.length_set]; omega)) ?_
  intro w0 ho hxd
  have hx := hx.trans hxd fun _ _ h => h
  ((conv=>whnf);repeat(first|(refine mvT ?_;conv=>whnf)|(refine mvF ?_;conv=>whnf)|(refine cT (by rfl) ?_;conv=>whnf)|(refine cF (by rfl) ?_;conv=>whnf)))
  exact ⟨ho, hx⟩
theorem readApiVersionsResponse {w0 : World} {F : Nat → Prop} {p : Nat} {ty : TypeId} {v : Int} {x ev : Value} {l : List UInt8} (hL : Laid w0 ev) (hp : Own w0 p ty [.int .i16 v, .int .i16 0, .slice none 0 0, .int .i32 0, .slice none 0 0, .int .i64 (-1), .slice none 0 0, .bool false, .map none]) (hx : Bytes w0 F x l) (hF : ∀ k, F k → k ≠ p) (hv : 0 ≤ v) (hp1 : p ≠ errG) :
    Does X.P 18 #[.pointer (some ⟨p, 0, none⟩), x, .bool false] w0 fun r w' => RdPost w0 p ty v (decide (v ≥ 3)) true dApiVersionsResponse ev l r w' := by
  have hpl := hp.lt
  obtain ⟨fx, hfx⟩ : ∃ fx, fx = decide (v ≥ 3) := ⟨_, rfl⟩
  rw [← hfx]
  obtain ⟨G0, hG0, hx⟩ : ∃ G0 : Nat → Prop, (∀ k, G0 k → k < w0.heap.size ∧ k ≠ p) ∧ Bytes w0 G0 x l := ⟨fun k => F k ∧ k < w0.heap.size, fun k h => ⟨h.2, hF k h.1⟩, Sl.mono hx fun k hk h => ⟨h, hk⟩⟩
  obtain ⟨a0, c0, rfl, _⟩ := hx.view
  refine Does.go (X := X) (l := [_, _, _]) Tryd.func18 rfl (by kernel_rfl) (by kernel_rfl) _ rfl ?_
  ((conv=>whnf);repeat(first|(refine mvT ?_;conv=>whnf)|(refine mvF ?_;conv=>whnf)|(refine cT (by rfl) ?_;conv=>whnf)|(refine cF (by rfl) ?_;conv=>whnf)))
  refine Does.mono (dfApiVersionsResponse (pre := []) (cur := [.int .i16 v, .int .i16 0, .slice none 0 0, .int .i32 0, .slice none 0 0, .int .i64 (-1), .slice none 0 0, .bool false, .map none]) (post := []) (by simpa using hp) rfl rfl) ?_
  rintro rd wd ⟨hpd, hxd⟩
  ((conv=>whnf);repeat(first|(refine mvT ?_;conv=>whnf)|(refine mvF ?_;conv=>whnf)|(refine cT (by rfl) ?_;conv=>whnf)|(refine cF (by rfl) ?_;conv=>whnf)))
  intro pb w1 hpb hb hx1
  ((conv=>whnf);repeat(first|(refine mvT ?_;conv=>whnf)|(refine mvF ?_;conv=>whnf)|(refine cT (by rfl) ?_;conv=>whnf)|(refine cF (by rfl) ?_;conv=>whnf)))
  refine st_all [.slice a0 l.length c0, .bool false] hb rfl rfl rfl ?_
  intro w hb hx2
  ((conv=>whnf);repeat(first|(refine mvT ?_;conv=>whnf)|(refine mvF ?_;conv=>whnf)|(refine cT (by rfl) ?_;conv=>whnf)|(refine cF (by rfl) ?_;conv=>whnf)))
  have hsd := hxd.size
  have hwp : w0.heap.size ≤ pb := by omega
  have he1 : Ext nob wd w := hx1.trans hx2 fun k hk h => by omega
  have hpw : Own w p ty [.int .i16 v, .int .i16 0, .slice none 0 0, .int .i32 0, .slice none 0 0, .int .i64 (-1), .slice none 0 0, .bool false, .map none] := by have := hpd.e0 he1; simpa using this
  have he := hxd.tr0 he1
  have H := St.init hpw hb (hx.ext he fun k _ h => (hG0 k h).2) hG0 he hpl hwp
  clear hpd hxd hx1 hx2 hb hpw he1 hp
  refine ldS (H.cell (o := 0) rfl (k := 0) rfl) ?_;((conv=>whnf);repeat(first|(refine mvT ?_;conv=>whnf)|(refine mvF ?_;conv=>whnf)|(refine cT (by rfl) ?_;conv=>whnf)|(refine cF (by rfl) ?_;conv=>whnf)))
  rw [← hfx]
  (refine mvB ?_;((conv=>whnf);repeat(first|(refine mvT ?_;conv=>whnf)|(refine mvF ?_;conv=>whnf)|(refine cT (by rfl) ?_;conv=>whnf)|(refine cF (by rfl) ?_;conv=>whnf))))
  have hup0 : tailBad 9 v fx dApiVersionsResponse dApiVersionsResponse (l, false) = true → (rdPart 9 v fx dApiVersionsResponse (l, false)).2.2 = true := fun h => (tailBad_part _ _ _ _ _).symm.trans h
  refine Does.mono H.int16 ?_
  rintro r w ⟨n1, s1, rfl, hn1, hr1, H⟩
  ((conv=>whnf);repeat(first|(refine mvT ?_;conv=>whnf)|(refine mvF ?_;conv=>whnf)|(refine cT (by rfl) ?_;conv=>whnf)|(refine cF (by rfl) ?_;conv=>whnf)))
  refine H.st1 (v := .int .i16 n1) 1 (rfl) (rfl) rfl (by simp) rfl (Nat.lt_of_lt_of_le (Nat.lt_succ_self _) (Nat.le_of_ble_eq_true rfl)) ?_
  intro w H
  ((conv=>whnf);repeat(first|(refine mvT ?_;conv=>whnf)|(refine mvF ?_;conv=>whnf)|(refine cT (by rfl) ?_;conv=>whnf)|(refine cF (by rfl) ?_;conv=>whnf)))
  replace H : St w0 G0 p pb s1 ((p, ty, [] ++ [.int .i16 v, .int .i16 n1, .slice none 0 0, .int .i32 0, .slice none 0 0, .int .i64 (-1), .slice none 0 0, .bool false, .map none] ++ []) :: []) (fun _ => True) w := H
  refine ldS (H.cell (o := 0) rfl (k := 2) rfl) ?_;((conv=>whnf);repeat(first|(refine mvT ?_;conv=>whnf)|(refine mvF ?_;conv=>whnf)|(refine cT (by rfl) ?_;conv=>whnf)|(refine cF (by rfl) ?_;conv=>whnf)))
  (refine mvB ?_;((conv=>whnf);repeat(first|(refine mvT ?_;conv=>whnf)|(refine mvF ?_;conv=>whnf)|(refine cT (by rfl) ?_;conv=>whnf)|(refine cF (by rfl) ?_;conv=>whnf))))
  refine VC.cutE (fun q : Int × Rd => [(14, .int .i32 q.1), (13, .slice none 0 0), (0, .pointer (some ⟨p, 0, none⟩)), (2, .bool false), (7, .pointer (some ⟨pb, 0, none⟩)), (8, .int .i16 v), (9, .bool fx), (10, .pointer (some ⟨p, 0, none⟩))]) (fun q w' => (-2147483648 ≤ q.1 ∧ q.1 ≤ 2147483647) ∧ rdLn fx s1 = q ∧ St w0 G0 p pb q.2 ((p, ty, [] ++ [.int .i16 v, .int .i16 n1, .slice none 0 0, .int .i32 0, .slice none 0 0, .int .i64 (-1), .slice none 0 0, .bool false, .map none] ++ []) :: []) (fun _ => True) w') ?_ ?_
  · refine cI (by rfl) (fun hc=>?_) (fun hc=>?_)
    · ((conv=>whnf);repeat(first|(refine mvT ?_;conv=>whnf)|(refine mvF ?_;conv=>whnf)|(refine cT (by rfl) ?_;conv=>whnf)|(refine cF (by rfl) ?_;conv=>whnf)))
      refine Does.mono H.lnc ?_
      rintro r w ⟨n, s', rfl, hn, hr, H⟩
      ((conv=>whnf);repeat(first|(refine mvT ?_;conv=>whnf)|(refine mvF ?_;conv=>whnf)|(refine cT (by rfl) ?_;conv=>whnf)|(refine cF (by rfl) ?_;conv=>whnf)))
      exact ⟨(n, s'), ⟨rfl, rfl, rfl, rfl, rfl, rfl, rfl, rfl, trivial⟩, hn, by rw [hc]; exact hr, H⟩
    · ((conv=>whnf);repeat(first|(refine mvT ?_;conv=>whnf)|(refine mvF ?_;conv=>whnf)|(refine cT (by rfl) ?_;conv=>whnf)|(refine cF (by rfl) ?_;conv=>whnf)))
      refine Does.mono H.lnp ?_
      rintro r w ⟨n, s', rfl, hn, hr, H⟩
      ((conv=>whnf);repeat(first|(refine mvT ?_;conv=>whnf)|(refine mvF ?_;conv=>whnf)|(refine cT (by rfl) ?_;conv=>whnf)|(refine cF (by rfl) ?_;conv=>whnf)))
      exact ⟨(n, s'), ⟨rfl, rfl, rfl, rfl, rfl, rfl, rfl, rfl, trivial⟩, hn, by rw [hc]; exact hr, H⟩
  clear H
  rintro ⟨n3, s3⟩ w ⟨hn3, hln3, H⟩
  dsimp only at hn3 hln3 H
  ((conv=>whnf);repeat(first|(refine mvT ?_;conv=>whnf)|(refine mvF ?_;conv=>whnf)|(refine cT (by rfl) ?_;conv=>whnf)|(refine cF (by rfl) ?_;conv=>whnf)))
  refine Does.mono H.ok ?_
  rintro r w ⟨rfl, H⟩
  ((conv=>whnf);repeat(first|(refine mvT ?_;conv=>whnf)|(refine mvF ?_;conv=>whnf)|(refine cT (by rfl) ?_;conv=>whnf)|(refine cF (by rfl) ?_;conv=>whnf)))
  refine cI (by rfl) (fun hbd=>?_) (fun hbd=>?_)
  · have hbd : s3.2 = true := by simpa using hbd
    ((conv=>whnf);repeat(first|(refine mvT ?_;conv=>whnf)|(refine mvF ?_;conv=>whnf)|(refine cT (by rfl) ?_;conv=>whnf)|(refine cF (by rfl) ?_;conv=>whnf)))
    refine Does.mono (H.done hL hp1) ?_
    rintro r w ⟨rfl, H⟩
    ((conv=>whnf);repeat(first|(refine mvT ?_;conv=>whnf)|(refine mvF ?_;conv=>whnf)|(refine cT (by rfl) ?_;conv=>whnf)|(refine cF (by rfl) ?_;conv=>whnf)))
    refine RdPost.early hbd (hup0 (?_)) H
    rw [tail_yes (rdField2.trans hr1) ⟨by decide, has_all hv⟩, tail_len ⟨by decide, has_all hv⟩ hln3 hbd]
  have hbd : s3.2 = false := by simpa using hbd
  clear hbd
  ((conv=>whnf);repeat(first|(refine mvT ?_;conv=>whnf)|(refine mvF ?_;conv=>whnf)|(refine cT (by rfl) ?_;conv=>whnf)|(refine cF (by rfl) ?_;conv=>whnf)))
  refine cut_zero ?_
  ((conv=>whnf);repeat(first|(refine mvT ?_;conv=>whnf)|(refine mvF ?_;conv=>whnf)|(refine cT (by rfl) ?_;conv=>whnf)|(refine cF (by rfl) ?_;conv=>whnf)))
  refine VC.cutE (fun a : Value => [(14, .int .i32 n3), (13, a), (0, .pointer (some ⟨p, 0, none⟩)), (2, .bool false), (7, .pointer (some ⟨pb, 0, none⟩)), (8, .int .i16 v), (9, .bool fx), (10, .pointer (some ⟨p, 0, none⟩))]) (fun a w' => ListI w0 G0 p pb 64 [.int .i16 0, .int .i16 0, .int .i16 0, .map none] (elR 8 v fx 10 dApiVersionsResponseApiKey) (elQ true 8 10 dApiVersionsResponseApiKey) s3 n3 (decide (n3 ≤ 0)) ((p, ty, [] ++ [.int .i16 v, .int .i16 n1, .slice none 0 0, .int .i32 0, .slice none 0 0, .int .i64 (-1), .slice none 0 0, .bool false, .map none] ++ []) :: []) (fun _ => True) a 0 w') ?_ ?_
  · refine cI (by rfl) (fun hps=>?_) (fun hps=>?_)
    · have hps : 0 < n3 := by have := of_decide_eq_true hps; omega
      ((conv=>whnf);repeat(first|(refine mvT ?_;conv=>whnf)|(refine mvF ?_;conv=>whnf)|(refine cT (by rfl) ?_;conv=>whnf)|(refine cF (by rfl) ?_;conv=>whnf)))
      refine H.grow hps hn3.2 (by decide) rfl rfl (by decide) ?_
      intro g cap post w hc1 hc2 H
      ((conv=>whnf);repeat(first|(refine mvT ?_;conv=>whnf)|(refine mvF ?_;conv=>whnf)|(refine cT (by rfl) ?_;conv=>whnf)|(refine cF (by rfl) ?_;conv=>whnf)))
      exact ⟨_, ⟨rfl, rfl, rfl, rfl, rfl, rfl, rfl, rfl, trivial⟩, ListI.some hps (decide_eq_false (by omega)) hc1 hc2 H⟩
    · have hps : n3 ≤ 0 := by have := of_decide_eq_false hps; omega
      ((conv=>whnf);repeat(first|(refine mvT ?_;conv=>whnf)|(refine mvF ?_;conv=>whnf)|(refine cT (by rfl) ?_;conv=>whnf)|(refine cF (by rfl) ?_;conv=>whnf)))
      exact ⟨_, ⟨rfl, rfl, rfl, rfl, rfl, rfl, rfl, rfl, trivial⟩, ListI.none hps (decide_eq_true hps) H⟩
  clear H
  rintro a3 w H
  ((conv=>whnf);repeat(first|(refine mvT ?_;conv=>whnf)|(refine mvF ?_;conv=>whnf)|(refine cT (by rfl) ?_;conv=>whnf)|(refine cF (by rfl) ?_;conv=>whnf)))
  have hpL3 : inL ((p, ty, [] ++ [.int .i16 v, .int .i16 n1, .slice none 0 0, .int .i32 0, .slice none 0 0, .int .i64 (-1), .slice none 0 0, .bool false, .map none] ++ []) :: []) p := inL.head _ _
  refine VL.loop (fun i : Nat => [(14, .int .i32 n3), (13, a3), (15, .int .i32 i), (0, .pointer (some ⟨p, 0, none⟩)), (2, .bool false), (7, .pointer (some ⟨pb, 0, none⟩)), (8, .int .i16 v), (9, .bool fx), (10, .pointer (some ⟨p, 0, none⟩))]) (fun i w' => i ≤ 2147483647 ∧ ListI w0 G0 p pb 64 [.int .i16 0, .int .i16 0, .int .i16 0, .map none] (elR 8 v fx 10 dApiVersionsResponseApiKey) (elQ true 8 10 dApiVersionsResponseApiKey) s3 n3 (decide (n3 ≤ 0)) ((p, ty, [] ++ [.int .i16 v, .int .i16 n1, .slice none 0 0, .int .i32 0, .slice none 0 0, .int .i64 (-1), .slice none 0 0, .bool false, .map none] ++ []) :: []) (fun _ => True) a3 i w') (fun i => n3.toNat - i) 0 ⟨rfl, rfl, rfl, rfl, rfl, rfl, rfl, rfl, rfl, trivial⟩ ⟨by decide, H⟩ ?_
  clear H
  rintro i3 w ⟨hi3, H⟩
  ((conv=>whnf);repeat(first|(refine mvT ?_;conv=>whnf)|(refine mvF ?_;conv=>whnf)|(refine cT (by rfl) ?_;conv=>whnf)|(refine cF (by rfl) ?_;conv=>whnf)))
  refine cI (by rfl) (fun h9=>?_) (fun h9=>?_)
  · have hlt3 : (i3 : Int) < n3 := of_decide_eq_true h9
    obtain ⟨g3, cap3, post3, rfl, hgo3, HI⟩ := H.go hlt3
    obtain ⟨es3, ts3, si3, hes3, hez3, hrn3, hts3, hlen1, H⟩ := HI.open hgo3.2.2.2.2
    obtain ⟨L3, hL3⟩ : ∃ L : List Ob, L = ((p, ty, [] ++ [.int .i16 v, .int .i16 n1, .slice none 0 0, .int .i32 0, .slice none 0 0, .int .i64 (-1), .slice none 0 0, .bool false, .map none] ++ []) :: []) := ⟨_, rfl⟩
    rw [← hL3] at H hpL3
    obtain ⟨P3, hP3⟩ : ∃ P : World → Prop, P = fun w => (∀ (j : Nat) (c : List Value) (y : T), es3[j]? = some c → ts3[j]? = some y → elQ true 8 10 dApiVersionsResponseApiKey ⟨w, FG w0 G0⟩ c y) ∧ (fun _ => True) w := ⟨_, rfl⟩
    rw [← hP3] at H
    replace H : St w0 G0 p pb si3 ((g3, 64, es3.flatten ++ [.int .i16 0, .int .i16 0, .int .i16 0, .map none] ++ ((List.replicate (n3.toNat - (i3 + 1)) [.int .i16 0, .int .i16 0, .int .i16 0, .map none]).flatten ++ post3)) :: L3) P3 w := H
    ((conv=>whnf);repeat(first|(refine mvT ?_;conv=>whnf)|(refine mvF ?_;conv=>whnf)|(refine cT (by rfl) ?_;conv=>whnf)|(refine cF (by rfl) ?_;conv=>whnf)))
    refine ⟨g3, 0, rfl, ⟨by omega, by omega⟩, ?_⟩
    ((conv=>whnf);repeat(first|(refine mvT ?_;conv=>whnf)|(refine mvF ?_;conv=>whnf)|(refine cT (by rfl) ?_;conv=>whnf)|(refine cF (by rfl) ?_;conv=>whnf)))
    refine Does.mono (dfApiVersionsResponseApiKey (pre := es3.flatten) (cur := [.int .i16 0, .int .i16 0, .int .i16 0, .map none]) (post := ((List.replicate (n3.toNat - (i3 + 1)) [.int .i16 0, .int .i16 0, .int .i16 0, .map none]).flatten ++ post3)) H.head (by first | (rw [hlen1]; simp; done) | (simp [hlen1]; done) | (simp [hlen1]; omega)) rfl) ?_
    rintro rd w2 ⟨hdf, hxd⟩
    replace H := H.put hdf hxd
    clear hdf hxd
    replace H : St w0 G0 p pb si3 ((g3, 64, es3.flatten ++ [.int .i16 0, .int .i16 0, .int .i16 0, .map none] ++ ((List.replicate (n3.toNat - (i3 + 1)) [.int .i16 0, .int .i16 0, .int .i16 0, .map none]).flatten ++ post3)) :: L3) P3 w2 := H
    ((conv=>whnf);repeat(first|(refine mvT ?_;conv=>whnf)|(refine mvF ?_;conv=>whnf)|(refine cT (by rfl) ?_;conv=>whnf)|(refine cF (by rfl) ?_;conv=>whnf)))
    have hup3 : tailBad 8 v fx dApiVersionsResponseApiKey dApiVersionsResponseApiKey si3 = true → (rdPart 9 v fx dApiVersionsResponse (l, false)).2.2 = true := by
      intro hb
      refine hup0 ?_
      rw [tail_yes (rdField2.trans hr1) ⟨by decide, has_all hv⟩, tail_el ⟨by decide, has_all hv⟩ hln3 hgo3.2.2.2.2 hrn3 ((tailBad_part _ _ _ _ _).symm.trans hb)]
    refine Does.mono H.int16 ?_
    rintro r w ⟨n4, s4, rfl, hn4, hr4, H⟩
    ((conv=>whnf);repeat(first|(refine mvT ?_;conv=>whnf)|(refine mvF ?_;conv=>whnf)|(refine cT (by rfl) ?_;conv=>whnf)|(refine cF (by rfl) ?_;conv=>whnf)))
    refine H.st1 (v := .int .i16 n4) 0 (rfl) (rfl) rfl (by first | omega | (simp [hlen1]; done) | (simp [hlen1]; omega)) rfl (Nat.lt_of_lt_of_le (Nat.lt_succ_self _) (Nat.le_of_ble_eq_true rfl)) ?_
    intro w H
    ((conv=>whnf);repeat(first|(refine mvT ?_;conv=>whnf)|(refine mvF ?_;conv=>whnf)|(refine cT (by rfl) ?_;conv=>whnf)|(refine cF (by rfl) ?_;conv=>whnf)))
    replace H : St w0 G0 p pb s4 ((g3, 64, es3.flatten ++ [.int .i16 n4, .int .i16 0, .int .i16 0, .map none] ++ ((List.replicate (n3.toNat - (i3 + 1)) [.int .i16 0, .int .i16 0, .int .i16 0, .map none]).flatten ++ post3)) :: L3) P3 w := H
    refine Does.mono H.int16 ?_
    rintro r w ⟨n6, s6, rfl, hn6, hr6, H⟩
    ((conv=>whnf);repeat(first|(refine mvT ?_;conv=>whnf)|(refine mvF ?_;conv=>whnf)|(refine cT (by rfl) ?_;conv=>whnf)|(refine cF (by rfl) ?_;conv=>whnf)))
    refine H.st1 (v := .int .i16 n6) 1 (rfl) (rfl) rfl (by first | omega | (simp [hlen1]; done) | (simp [hlen1]; omega)) rfl (Nat.lt_of_lt_of_le (Nat.lt_succ_self _) (Nat.le_of_ble_eq_true rfl)) ?_
    intro w H
    ((conv=>whnf);repeat(first|(refine mvT ?_;conv=>whnf)|(refine mvF ?_;conv=>whnf)|(refine cT (by rfl) ?_;conv=>whnf)|(refine cF (by rfl) ?_;conv=>whnf)))
    replace H : St w0 G0 p pb s6 ((g3, 64, es3.flatten ++ [.int .i16 n4, .int .i16 n6, .int .i16 0, .map none] ++ ((List.replicate (n3.toNat - (i3 + 1)) [.int .i16 0, .int .i16 0, .int .i16 0, .map none]).flatten ++ post3)) :: L3) P3 w := H
    refine Does.mono H.int16 ?_
    rintro r w ⟨n8, s8, rfl, hn8, hr8, H⟩
    ((conv=>whnf);repeat(first|(refine mvT ?_;conv=>whnf)|(refine mvF ?_;conv=>whnf)|(refine cT (by rfl) ?_;conv=>whnf)|(refine cF (by rfl) ?_;conv=>whnf)))
    refine H.st1 (v := .int .i16 n8) 2 (rfl) (rfl) rfl (by first | omega | (simp [hlen1]; done) | (simp [hlen1]; omega)) rfl (Nat.lt_of_lt_of_le (Nat.lt_succ_self _) (Nat.le_of_ble_eq_true rfl)) ?_
    intro w H
    ((conv=>whnf);repeat(first|(refine mvT ?_;conv=>whnf)|(refine mvF ?_;conv=>whnf)|(refine cT (by rfl) ?_;conv=>whnf)|(refine cF (by rfl) ?_;conv=>whnf)))
    replace H : St w0 G0 p pb s8 ((g3, 64, es3.flatten ++ [.int .i16 n4, .int .i16 n6, .int .i16 n8, .map none] ++ ((List.replicate (n3.toNat - (i3 + 1)) [.int .i16 0, .int .i16 0, .int .i16 0, .map none]).flatten ++ post3)) :: L3) P3 w := H
    (refine mvB ?_;((conv=>whnf);repeat(first|(refine mvT ?_;conv=>whnf)|(refine mvF ?_;conv=>whnf)|(refine cT (by rfl) ?_;conv=>whnf)|(refine cF (by rfl) ?_;conv=>whnf))))
    refine VC.cutB (fun q : Value × List Tg × Rd => [(0, .pointer (some ⟨p, 0, none⟩)), (2, .bool false), (7, .pointer (some ⟨pb, 0, none⟩)), (8, .int .i16 v), (9, .bool fx), (10, .pointer (some ⟨p, 0, none⟩)), (14, .int .i32 n3), (13, .slice (some ⟨g3, 0, none⟩) n3.toNat cap3), (15, .int .i32 i3), (16, .pointer (some ⟨g3, 0 + (i3 : Int).toNat * 4, none⟩)), (17, .pointer (some ⟨g3, 0 + (i3 : Int).toNat * 4, none⟩))]) (fun q w' => rdTagsF fx s8 = q.2 ∧ St w0 G0 p pb q.2.2 ((g3, 64, es3.flatten ++ [.int .i16 n4, .int .i16 n6, .int .i16 n8, q.1] ++ ((List.replicate (n3.toNat - (i3 + 1)) [.int .i16 0, .int .i16 0, .int .i16 0, .map none]).flatten ++ post3)) :: L3) (fun w => TGf w0 G0 q.1 q.2.1 w ∧ P3 w) w') ?_ ?_
    · refine cI (by rfl) (fun hc=>?_) (fun hc=>?_)
      · ((conv=>whnf);repeat(first|(refine mvT ?_;conv=>whnf)|(refine mvF ?_;conv=>whnf)|(refine cT (by rfl) ?_;conv=>whnf)|(refine cF (by rfl) ?_;conv=>whnf)))
        refine Does.mono H.tags ?_
        rintro r w ⟨m, u, s', rfl, hone, hr, H⟩
        ((conv=>whnf);repeat(first|(refine mvT ?_;conv=>whnf)|(refine mvF ?_;conv=>whnf)|(refine cT (by rfl) ?_;conv=>whnf)|(refine cF (by rfl) ?_;conv=>whnf)))
        refine H.st1 (v := m) 3 (rfl) (hone) rfl (by first | omega | (simp [hlen1]; done) | (simp [hlen1]; omega)) rfl (Nat.lt_of_lt_of_le (Nat.lt_succ_self _) (Nat.le_of_ble_eq_true rfl)) ?_
        intro w H
        ((conv=>whnf);repeat(first|(refine mvT ?_;conv=>whnf)|(refine mvF ?_;conv=>whnf)|(refine cT (by rfl) ?_;conv=>whnf)|(refine cF (by rfl) ?_;conv=>whnf)))
        exact ⟨(m, u, s'), ⟨rfl, rfl, rfl, rfl, rfl, rfl, rfl, rfl, rfl, rfl, rfl, trivial⟩, by rw [rdTagsF, if_pos hc]; exact hr, H⟩
      · ((conv=>whnf);repeat(first|(refine mvT ?_;conv=>whnf)|(refine mvF ?_;conv=>whnf)|(refine cT (by rfl) ?_;conv=>whnf)|(refine cF (by rfl) ?_;conv=>whnf)))
        exact ⟨(.map none, [], s8), ⟨rfl, rfl, rfl, rfl, rfl, rfl, rfl, rfl, rfl, rfl, rfl, trivial⟩, by rw [rdTagsF, if_neg (by rw [hc]; decide)], H.add fun w' _ => TagsR.nil _ _⟩
    clear H
    rintro ⟨m10, u10, s10⟩ w ⟨htg, H⟩
    dsimp only at htg H
    ((conv=>whnf);repeat(first|(refine mvT ?_;conv=>whnf)|(refine mvF ?_;conv=>whnf)|(refine cT (by rfl) ?_;conv=>whnf)|(refine cF (by rfl) ?_;conv=>whnf)))
    obtain ⟨P11, hP11⟩ : ∃ P : World → Prop, P = fun w => TGf w0 G0 m10 u10 w ∧ P3 w := ⟨_, rfl⟩
    replace H : St w0 G0 p pb s10 ((g3, 64, es3.flatten ++ [.int .i16 n4, .int .i16 n6, .int .i16 n8, m10] ++ ((List.replicate (n3.toNat - (i3 + 1)) [.int .i16 0, .int .i16 0, .int .i16 0, .map none]).flatten ++ post3)) :: L3) P11 w := by rw [hP11]; exact H
    have hpart : rdPart 8 v fx dApiVersionsResponseApiKey si3 = (.mk 0 [] false [numT n4, numT n6, numT n8] u10, s10) := by
      unfold rdPart rdPartW
      rw [rdTail_plain (by decide)]
      rw [rdAll_yes (df := dfT 8) (rdField2.trans hr4) ⟨by decide, has_all hv⟩, rdAll_yes (df := dfT 8) (rdField2.trans hr6) ⟨by decide, has_all hv⟩, rdAll_yes (df := dfT 8) (rdField2.trans hr8) ⟨by decide, has_all hv⟩]
      simp only [rdAll]
      rw [htg]
    refine ⟨i3 + 1, ⟨rfl, rfl, ?_, rfl, rfl, rfl, rfl, rfl, rfl, trivial⟩, ⟨by omega, ListI.back hgo3 (LoopI.next hes3 hez3 hrn3 hts3 (cur := [.int .i16 n4, .int .i16 n6, .int .i16 n8, m10]) (x := .mk 0 [] false [numT n4, numT n6, numT n8] u10) (hpart) rfl (by rw [← hL3]; exact H) fun w hP => ?_)⟩, by omega⟩
    · show some (Value.int .i32 _) = _
      rw [IntKind.wrap_i32]
      simp only [Option.some.injEq, Value.int.injEq, true_and]
      omega
    · skip
      rw [hP11] at hP
      obtain ⟨hf11_, hP⟩ := hP
      rw [hP3] at hP
      exact ⟨QPt (QA1 (QF2 hn4) (QA1 (QF2 hn6) (QA1 (QF2 hn8) (QA0)))) hf11_, hP⟩
  have hge3 : ¬ (i3 : Int) < n3 := of_decide_eq_false h9
  obtain ⟨l12, s12, hone12, hl12, hr12, H⟩ := H.done hge3 hln3 (nl := nlF (.mk 11 0 (-1) (-1) (-1) 0 10 dApiVersionsResponseApiKey) v) (sz := elZ true 8 10 dApiVersionsResponseApiKey) rfl hpL3 rfl
  ((conv=>whnf);repeat(first|(refine mvT ?_;conv=>whnf)|(refine mvF ?_;conv=>whnf)|(refine cT (by rfl) ?_;conv=>whnf)|(refine cF (by rfl) ?_;conv=>whnf)))
  obtain ⟨P13, hP13⟩ : ∃ P : World → Prop, P = fun w => ListR true (elZ true 8 10 dApiVersionsResponseApiKey) (elQ true 8 10 dApiVersionsResponseApiKey ⟨w, FG w0 G0⟩) w (FG w0 G0) a3 (.mk 0 [] (decide (n3 ≤ 0)) l12 []) ∧ (fun _ => True) w := ⟨_, rfl⟩
  replace H : St w0 G0 p pb s12 ((p, ty, [] ++ [.int .i16 v, .int .i16 n1, .slice none 0 0, .int .i32 0, .slice none 0 0, .int .i64 (-1), .slice none 0 0, .bool false, .map none] ++ []) :: []) P13 w := by rw [hP13]; exact H
  refine H.st1 (v := a3) 2 (cells_one hone12) (hone12) rfl (by simp) rfl (Nat.lt_of_lt_of_le (Nat.lt_succ_self _) (Nat.le_of_ble_eq_true rfl)) ?_
  intro w H
  ((conv=>whnf);repeat(first|(refine mvT ?_;conv=>whnf)|(refine mvF ?_;conv=>whnf)|(refine cT (by rfl) ?_;conv=>whnf)|(refine cF (by rfl) ?_;conv=>whnf)))
  replace H : St w0 G0 p pb s12 ((p, ty, [] ++ [.int .i16 v, .int .i16 n1, a3, .int .i32 0, .slice none 0 0, .int .i64 (-1), .slice none 0 0, .bool false, .map none] ++ []) :: []) P13 w := H
  refine VC.cutE (fun q : Int × Rd => [(0, .pointer (some ⟨p, 0, none⟩)), (2, .bool false), (7, .pointer (some ⟨pb, 0, none⟩)), (8, .int .i16 v), (9, .bool fx), (10, .pointer (some ⟨p, 0, none⟩))]) (fun q w' => IntKind.i32.wrap q.1 = q.1 ∧ (if hasF (.mk 3 1 (-1) (-1) (-1) 0 0 []) v = true then rdField 9 v fx (.mk 3 1 (-1) (-1) (-1) 0 0 []) s12 else (dfT 9 (.mk 3 1 (-1) (-1) (-1) 0 0 []), s12)) = (numT q.1, q.2) ∧ St w0 G0 p pb q.2 ((p, ty, [] ++ [.int .i16 v, .int .i16 n1, a3, .int .i32 q.1, .slice none 0 0, .int .i64 (-1), .slice none 0 0, .bool false, .map none] ++ []) :: []) P13 w') ?_ ?_
  · refine cI (by rfl) (fun hcv=>?_) (fun hcv=>?_)
    · ((conv=>whnf);repeat(first|(refine mvT ?_;conv=>whnf)|(refine mvF ?_;conv=>whnf)|(refine cT (by rfl) ?_;conv=>whnf)|(refine cF (by rfl) ?_;conv=>whnf)))
      refine Does.mono H.int32 ?_
      rintro r w ⟨n16, s16, rfl, hn16, hr16, H⟩
      ((conv=>whnf);repeat(first|(refine mvT ?_;conv=>whnf)|(refine mvF ?_;conv=>whnf)|(refine cT (by rfl) ?_;conv=>whnf)|(refine cF (by rfl) ?_;conv=>whnf)))
      refine H.st1 (v := .int .i32 n16) 3 (rfl) (rfl) rfl (by simp) rfl (Nat.lt_of_lt_of_le (Nat.lt_succ_self _) (Nat.le_of_ble_eq_true rfl)) ?_
      intro w H
      ((conv=>whnf);repeat(first|(refine mvT ?_;conv=>whnf)|(refine mvF ?_;conv=>whnf)|(refine cT (by rfl) ?_;conv=>whnf)|(refine cF (by rfl) ?_;conv=>whnf)))
      replace H : St w0 G0 p pb s16 ((p, ty, [] ++ [.int .i16 v, .int .i16 n1, a3, .int .i32 n16, .slice none 0 0, .int .i64 (-1), .slice none 0 0, .bool false, .map none] ++ []) :: []) P13 w := H
      have hh : hasF (.mk 3 1 (-1) (-1) (-1) 0 0 []) v = true := by have := of_decide_eq_true hcv; rw [hasF_iff]; omega
      exact ⟨(n16, s16), ⟨rfl, rfl, rfl, rfl, rfl, rfl, trivial⟩, hn16, by rw [if_pos hh]; exact (rdField3.trans hr16), H⟩
    · ((conv=>whnf);repeat(first|(refine mvT ?_;conv=>whnf)|(refine mvF ?_;conv=>whnf)|(refine cT (by rfl) ?_;conv=>whnf)|(refine cF (by rfl) ?_;conv=>whnf)))
      have hh : ¬ hasF (.mk 3 1 (-1) (-1) (-1) 0 0 []) v = true := by have := of_decide_eq_false hcv; rw [hasF_iff]; omega
      exact ⟨(0, s12), ⟨rfl, rfl, rfl, rfl, rfl, rfl, trivial⟩, rfl, by rw [if_neg hh]; rfl, H⟩
  clear H
  rintro ⟨n15, s15⟩ w ⟨hn15, hr15, H⟩
  dsimp only at hn15 hr15 H
  ((conv=>whnf);repeat(first|(refine mvT ?_;conv=>whnf)|(refine mvF ?_;conv=>whnf)|(refine cT (by rfl) ?_;conv=>whnf)|(refine cF (by rfl) ?_;conv=>whnf)))
  replace H : St w0 G0 p pb s15 ((p, ty, [] ++ [.int .i16 v, .int .i16 n1, a3, .int .i32 n15, .slice none 0 0, .int .i64 (-1), .slice none 0 0, .bool false, .map none] ++ []) :: []) P13 w := H
  (refine mvB ?_;((conv=>whnf);repeat(first|(refine mvT ?_;conv=>whnf)|(refine mvF ?_;conv=>whnf)|(refine cT (by rfl) ?_;conv=>whnf)|(refine cF (by rfl) ?_;conv=>whnf))))
  refine VC.cutE (fun q : Value × List Tg × Rd × Value × T × Value × T × Value × T × Value × T => [(0, .pointer (some ⟨p, 0, none⟩)), (2, .bool false), (7, .pointer (some ⟨pb, 0, none⟩)), (8, .int .i16 v), (9, .bool fx), (10, .pointer (some ⟨p, 0, none⟩))]) (fun q w' => rdTail (rdField 9 v fx) dApiVersionsResponse fx [numT n1, .mk 0 [] (decide (n3 ≤ 0)) l12 [], numT n15, .mk 0 [] true [] [], numT (-1), .mk 0 [] true [] [], numT (if false = true then 1 else 0)] s15 = (([numT n1, .mk 0 [] (decide (n3 ≤ 0)) l12 [], numT n15, q.2.2.2.2.1, q.2.2.2.2.2.2.1, q.2.2.2.2.2.2.2.2.1, q.2.2.2.2.2.2.2.2.2.2], q.2.1), q.2.2.1) ∧ St w0 G0 p pb q.2.2.1 ((p, ty, [] ++ [.int .i16 v, .int .i16 n1, a3, .int .i32 n15, q.2.2.2.1, q.2.2.2.2.2.1, q.2.2.2.2.2.2.2.1, q.2.2.2.2.2.2.2.2.2.1, q.1] ++ []) :: []) (fun w => QField true 9 (.mk 0 0 (-1) (-1) 3 0 0 []) ⟨w, FG w0 G0⟩ [q.2.2.2.2.2.2.2.2.2.1] (q.2.2.2.2.2.2.2.2.2.2) ∧ QField true 9 (.mk 11 0 (-1) (-1) 2 0 10 dApiVersionsResponseFinalizedFeature) ⟨w, FG w0 G0⟩ [q.2.2.2.2.2.2.2.1] (q.2.2.2.2.2.2.2.2.1) ∧ QField true 9 (.mk 4 0 (-1) (-1) 1 (-1) 0 []) ⟨w, FG w0 G0⟩ [q.2.2.2.2.2.1] (q.2.2.2.2.2.2.1) ∧ QField true 9 (.mk 11 0 (-1) (-1) 0 0 10 dApiVersionsResponseSupportedFeature) ⟨w, FG w0 G0⟩ [q.2.2.2.1] (q.2.2.2.2.1) ∧ TGf w0 G0 q.1 q.2.1 w ∧ P13 w) w') ?_ ?_
  · refine cI (by rfl) (fun hc=>?_) (fun hc=>?_)
    · ((conv=>whnf);repeat(first|(refine mvT ?_;conv=>whnf)|(refine mvF ?_;conv=>whnf)|(refine cT (by rfl) ?_;conv=>whnf)|(refine cF (by rfl) ?_;conv=>whnf)))
      obtain ⟨wA18, rfl⟩ : ∃ x, x = w := ⟨w, rfl⟩
      have HA18 := H
      have hA18 := HA18.tgA
      have hlt0 := rdUv_lt s15
      refine Does.mono (rdUvarint_does HA18.rd HA18.Gpb) ?_
      rintro r w ⟨rfl, hr⟩
      ((conv=>whnf);repeat(first|(refine mvT ?_;conv=>whnf)|(refine mvF ?_;conv=>whnf)|(refine cT (by rfl) ?_;conv=>whnf)|(refine cF (by rfl) ?_;conv=>whnf)))
      have HT : TgS wA18 G0 pb p ty [] [.int .i16 v, .int .i16 n1, a3, .int .i32 n15, .slice none 0 0, .int .i64 (-1), .slice none 0 0, .bool false, (.map none)] [] [] (rdUv s15).2 (.map none) [] (fun m w => Slot w wA18 G0 9 (.mk 11 0 (-1) (-1) 0 0 10 dApiVersionsResponseSupportedFeature) 68 4 [m, .slice none 0 0] [.slice none 0 0] (.mk 0 [] true [] []) ∧ Slot w wA18 G0 9 (.mk 4 0 (-1) (-1) 1 (-1) 0 []) 0 0 [m, .slice none 0 0, .slice none 0 0] [.int .i64 (-1)] (numT (-1)) ∧ Slot w wA18 G0 9 (.mk 11 0 (-1) (-1) 2 0 10 dApiVersionsResponseFinalizedFeature) 72 4 [m, .slice none 0 0] [.slice none 0 0] (.mk 0 [] true [] []) ∧ Slot w wA18 G0 9 (.mk 0 0 (-1) (-1) 3 0 0 []) 0 0 [m, .slice none 0 0, .slice none 0 0] [.bool false] (numT (if false = true then 1 else 0))) w := TgS.start HA18 hr ⟨Slot.none (fun _ => QF11 (fun _ => rfl) (.inl ⟨rfl, rfl⟩)) (fun _ => ⟨rfl, rfl⟩), Slot.none (fun _ => QF4 rfl) (fun h => absurd h (by decide)), Slot.none (fun _ => QF11 (fun _ => rfl) (.inl ⟨rfl, rfl⟩)) (fun _ => ⟨rfl, rfl⟩), Slot.none (fun _ => QF0 false) (fun h => absurd h (by decide))⟩ (fun w w' m m' h hx hm => ⟨Slot.clo hA18 (h.1) hx hm, Slot.clo hA18 (h.2.1) hx hm, Slot.clo hA18 (h.2.2.1) hx hm, Slot.clo hA18 (h.2.2.2) hx hm⟩)
      clear H hr
      refine VL.loop (fun i : Nat => [(22, .int .u32 i), (0, .pointer (some ⟨p, 0, none⟩)), (2, .bool false), (7, .pointer (some ⟨pb, 0, none⟩)), (8, .int .i16 v), (9, .bool fx), (10, .pointer (some ⟨p, 0, none⟩))]) (fun i w' => ∃ (st : Rd) (m : Value) (u : List Tg) (c0_0 c1_0 c2_0 c3_0 : Value) (xc0 xc1 xc2 xc3 : T), rdTgX (rdField 9 v fx) dApiVersionsResponse i [numT n1, .mk 0 [] (decide (n3 ≤ 0)) l12 [], numT n15, xc0, xc1, xc2, xc3] u st = rdTgX (rdField 9 v fx) dApiVersionsResponse (rdUv s15).1 [numT n1, .mk 0 [] (decide (n3 ≤ 0)) l12 [], numT n15, .mk 0 [] true [] [], numT (-1), .mk 0 [] true [] [], numT (if false = true then 1 else 0)] [] (rdUv s15).2 ∧ i < 4294967296 ∧ TgS wA18 G0 pb p ty [] [.int .i16 v, .int .i16 n1, a3, .int .i32 n15, c0_0, c1_0, c2_0, c3_0, m] [] [] st m u (fun m w => Slot w wA18 G0 9 (.mk 11 0 (-1) (-1) 0 0 10 dApiVersionsResponseSupportedFeature) 68 4 [m, c2_0] [c0_0] (xc0) ∧ Slot w wA18 G0 9 (.mk 4 0 (-1) (-1) 1 (-1) 0 []) 0 0 [m, c0_0, c2_0] [c1_0] (xc1) ∧ Slot w wA18 G0 9 (.mk 11 0 (-1) (-1) 2 0 10 dApiVersionsResponseFinalizedFeature) 72 4 [m, c0_0] [c2_0] (xc2) ∧ Slot w wA18 G0 9 (.mk 0 0 (-1) (-1) 3 0 0 []) 0 0 [m, c0_0, c2_0] [c3_0] (xc3)) w') (fun i => i) (rdUv s15).1 ⟨rfl, rfl, rfl, rfl, rfl, rfl, rfl, trivial⟩ ⟨_, _, _, _, _, _, _, _, _, _, _, rfl, hlt0, HT⟩ ?_
      clear HT
      rintro i w ⟨st, m, u, c0_0, c1_0, c2_0, c3_0, xc0, xc1, xc2, xc3, hrun, hi, HT⟩
      ((conv=>whnf);repeat(first|(refine mvT ?_;conv=>whnf)|(refine mvF ?_;conv=>whnf)|(refine cT (by rfl) ?_;conv=>whnf)|(refine cF (by rfl) ?_;conv=>whnf)))
      refine cI (by rfl) (fun h9=>?_) (fun h9=>?_)
      · obtain ⟨j, rfl⟩ : ∃ j, i = j + 1 := ⟨i - 1, by have := of_decide_eq_true h9; omega⟩
        ((conv=>whnf);repeat(first|(refine mvT ?_;conv=>whnf)|(refine mvF ?_;conv=>whnf)|(refine cT (by rfl) ?_;conv=>whnf)|(refine cF (by rfl) ?_;conv=>whnf)))
        refine Does.mono (HT.uv hA18) ?_
        rintro r w ⟨key, st1, rfl, hkey, hu1, HT⟩
        ((conv=>whnf);repeat(first|(refine mvT ?_;conv=>whnf)|(refine mvF ?_;conv=>whnf)|(refine cT (by rfl) ?_;conv=>whnf)|(refine cF (by rfl) ?_;conv=>whnf)))
        refine cI (by rfl) (fun hk0=>?_) (fun hk0=>?_)
        · have hk0 : key = 0 := by have h := hk0; simp at h; omega
          subst hk0
          ((conv=>whnf);repeat(first|(refine mvT ?_;conv=>whnf)|(refine mvF ?_;conv=>whnf)|(refine cT (by rfl) ?_;conv=>whnf)|(refine cF (by rfl) ?_;conv=>whnf)))
          refine Does.mono (HT.uv hA18) ?_
          rintro r w ⟨z, st2, rfl, hz, hu2, HT⟩
          ((conv=>whnf);repeat(first|(refine mvT ?_;conv=>whnf)|(refine mvF ?_;conv=>whnf)|(refine cT (by rfl) ?_;conv=>whnf)|(refine cF (by rfl) ?_;conv=>whnf)))
          rw [i64_of (n := (z : Int)) (by omega) (by omega)]
          refine Does.mono (HT.span hA18 z) ?_
          rintro r w ⟨bb, st3, hsp, hbb, HT⟩
          obtain ⟨a7, c7, rfl, _⟩ := hbb.view
          ((conv=>whnf);repeat(first|(refine mvT ?_;conv=>whnf)|(refine mvF ?_;conv=>whnf)|(refine cT (by rfl) ?_;conv=>whnf)|(refine cF (by rfl) ?_;conv=>whnf)))
          obtain ⟨w1_19, rfl⟩ : ∃ x, x = w := ⟨w, rfl⟩
          intro pb19 wb hpb hb2 hxb1
          ((conv=>whnf);repeat(first|(refine mvT ?_;conv=>whnf)|(refine mvF ?_;conv=>whnf)|(refine cT (by rfl) ?_;conv=>whnf)|(refine cF (by rfl) ?_;conv=>whnf)))
          refine st_all [.slice a7 bb.length c7, .bool false] hb2 rfl rfl rfl ?_
          intro w hb2 hxb2
          ((conv=>whnf);repeat(first|(refine mvT ?_;conv=>whnf)|(refine mvF ?_;conv=>whnf)|(refine cT (by rfl) ?_;conv=>whnf)|(refine cF (by rfl) ?_;conv=>whnf)))
          have he : Ext nob w1_19 w := hxb1.trans hxb2 fun k hk h => by omega
          obtain ⟨hG1, hb1⟩ := HT.src hA18
          have H := St.tag hb2 (hbb.e0 he) hG1 he hb1 hpb
          clear hb2 hxb1 hxb2 he
          obtain ⟨hown, hsep⟩ := (HT.slots.1).ownL rfl
          obtain ⟨qa, na, ca, rfl, hqa, hna⟩ := hown.slice
          refine ldS (own_cell (HT.own.1.e0 H.now) (o := 0) rfl (k := 4) rfl) ?_;((conv=>whnf);repeat(first|(refine mvT ?_;conv=>whnf)|(refine mvF ?_;conv=>whnf)|(refine cT (by rfl) ?_;conv=>whnf)|(refine cF (by rfl) ?_;conv=>whnf)))
          (refine mvB ?_;((conv=>whnf);repeat(first|(refine mvT ?_;conv=>whnf)|(refine mvF ?_;conv=>whnf)|(refine cT (by rfl) ?_;conv=>whnf)|(refine cF (by rfl) ?_;conv=>whnf))))
          refine VC.cutE (fun q : Int × Rd => [(27, .int .i32 q.1), (26, .slice qa na ca), (0, .pointer (some ⟨p, 0, none⟩)), (2, .bool false), (7, .pointer (some ⟨pb, 0, none⟩)), (8, .int .i16 v), (9, .bool fx), (10, .pointer (some ⟨p, 0, none⟩)), (22, .int .u32 ((j + 1 : Nat) : Int)), (24, .pointer (some ⟨pb19, 0, none⟩))]) (fun q w' => (-2147483648 ≤ q.1 ∧ q.1 ≤ 2147483647) ∧ rdLn fx (bb, false) = q ∧ St w1_19 G0 pb pb19 q.2 [] (fun w' => Ext nob w1_19 w') w') ?_ ?_
          · refine cI (by rfl) (fun hc2=>?_) (fun hc2=>?_)
            · ((conv=>whnf);repeat(first|(refine mvT ?_;conv=>whnf)|(refine mvF ?_;conv=>whnf)|(refine cT (by rfl) ?_;conv=>whnf)|(refine cF (by rfl) ?_;conv=>whnf)))
              refine Does.mono H.lnc ?_
              rintro r w ⟨n, s', rfl, hn, hr, H⟩
              ((conv=>whnf);repeat(first|(refine mvT ?_;conv=>whnf)|(refine mvF ?_;conv=>whnf)|(refine cT (by rfl) ?_;conv=>whnf)|(refine cF (by rfl) ?_;conv=>whnf)))
              exact ⟨(n, s'), ⟨rfl, rfl, rfl, rfl, rfl, rfl, rfl, rfl, rfl, rfl, trivial⟩, hn, by rw [hc2]; exact hr, H⟩
            · ((conv=>whnf);repeat(first|(refine mvT ?_;conv=>whnf)|(refine mvF ?_;conv=>whnf)|(refine cT (by rfl) ?_;conv=>whnf)|(refine cF (by rfl) ?_;conv=>whnf)))
              refine Does.mono H.lnp ?_
              rintro r w ⟨n, s', rfl, hn, hr, H⟩
              ((conv=>whnf);repeat(first|(refine mvT ?_;conv=>whnf)|(refine mvF ?_;conv=>whnf)|(refine cT (by rfl) ?_;conv=>whnf)|(refine cF (by rfl) ?_;conv=>whnf)))
              exact ⟨(n, s'), ⟨rfl, rfl, rfl, rfl, rfl, rfl, rfl, rfl, rfl, rfl, trivial⟩, hn, by rw [hc2]; exact hr, H⟩
          clear H
          rintro ⟨n19, s19⟩ w ⟨hn19, hln19, H⟩
          dsimp only at hn19 hln19 H
          ((conv=>whnf);repeat(first|(refine mvT ?_;conv=>whnf)|(refine mvF ?_;conv=>whnf)|(refine cT (by rfl) ?_;conv=>whnf)|(refine cF (by rfl) ?_;conv=>whnf)))
          refine Does.mono H.ok ?_
          rintro r w ⟨rfl, H⟩
          ((conv=>whnf);repeat(first|(refine mvT ?_;conv=>whnf)|(refine mvF ?_;conv=>whnf)|(refine cT (by rfl) ?_;conv=>whnf)|(refine cF (by rfl) ?_;conv=>whnf)))
          refine cI (by rfl) (fun hbd=>?_) (fun hbd=>?_)
          · have hbd : s19.2 = true := by simpa using hbd
            ((conv=>whnf);repeat(first|(refine mvT ?_;conv=>whnf)|(refine mvF ?_;conv=>whnf)|(refine cT (by rfl) ?_;conv=>whnf)|(refine cF (by rfl) ?_;conv=>whnf)))
            refine Does.mono (Complete_does ((HT.laid HA18 hL hp1).ext H.now fun f => f) H.rd) ?_
            rintro r _ ⟨rfl, rfl⟩
            ((conv=>whnf);repeat(first|(refine mvT ?_;conv=>whnf)|(refine mvF ?_;conv=>whnf)|(refine cT (by rfl) ?_;conv=>whnf)|(refine cF (by rfl) ?_;conv=>whnf)))
            rw [if_pos hbd]
            refine RdPost.fell (hup0 ?_) ((HT.ext0 HA18).tr0 H.now)
            rw [tail_yes (rdField2.trans hr1) ⟨by decide, has_all hv⟩, tail_yes ((rdField_list _ _ _ _ _ _ _ _ _ _ _).trans hr12) ⟨by decide, has_all hv⟩, tail_ver hr15 (by decide), tail_tag (f := (.mk 11 0 (-1) (-1) 0 0 10 dApiVersionsResponseSupportedFeature)) (by decide), tail_tag (f := (.mk 4 0 (-1) (-1) 1 (-1) 0 [])) (by decide), tail_tag (f := (.mk 11 0 (-1) (-1) 2 0 10 dApiVersionsResponseFinalizedFeature)) (by decide), tail_tag (f := (.mk 0 0 (-1) (-1) 3 0 0 [])) (by decide), tail_run (by decide) hc hrun]
            exact rdTgX_fell hu1 hu2 hsp rfl (field_len hln19 hbd)
          have hbd : s19.2 = false := by simpa using hbd
          clear hbd
          ((conv=>whnf);repeat(first|(refine mvT ?_;conv=>whnf)|(refine mvF ?_;conv=>whnf)|(refine cT (by rfl) ?_;conv=>whnf)|(refine cF (by rfl) ?_;conv=>whnf)))
          refine cut0_slice hna hqa ?_
          ((conv=>whnf);repeat(first|(refine mvT ?_;conv=>whnf)|(refine mvF ?_;conv=>whnf)|(refine cT (by rfl) ?_;conv=>whnf)|(refine cF (by rfl) ?_;conv=>whnf)))
          refine VC.cutE (fun a : Value => [(27, .int .i32 n19), (26, a), (0, .pointer (some ⟨p, 0, none⟩)), (2, .bool false), (7, .pointer (some ⟨pb, 0, none⟩)), (8, .int .i16 v), (9, .bool fx), (10, .pointer (some ⟨p, 0, none⟩)), (22, .int .u32 ((j + 1 : Nat) : Int)), (24, .pointer (some ⟨pb19, 0, none⟩))]) (fun a w' => TagI w1_19 G0 pb pb19 68 [str [], .int .i16 0, .int .i16 0, .map none] (elR 8 v fx 10 dApiVersionsResponseSupportedFeature) (elQ true 8 10 dApiVersionsResponseSupportedFeature) s19 n19 (decide (n19 ≤ 0)) (.slice qa na ca) a 0 w') ?_ ?_
          · refine cI (by rfl) (fun hps=>?_) (fun hps=>?_)
            · have hps : 0 < n19 := by have := of_decide_eq_true hps; omega
              ((conv=>whnf);repeat(first|(refine mvT ?_;conv=>whnf)|(refine mvF ?_;conv=>whnf)|(refine cT (by rfl) ?_;conv=>whnf)|(refine cF (by rfl) ?_;conv=>whnf)))
              refine TagI.grow (rd := elR 8 v fx 10 dApiVersionsResponseSupportedFeature) (R := elQ true 8 10 dApiVersionsResponseSupportedFeature) H hown hA18.old hps hn19.2 (by decide) rfl rfl (by decide) ?_
              intro a w H
              ((conv=>whnf);repeat(first|(refine mvT ?_;conv=>whnf)|(refine mvF ?_;conv=>whnf)|(refine cT (by rfl) ?_;conv=>whnf)|(refine cF (by rfl) ?_;conv=>whnf)))
              exact ⟨_, ⟨rfl, rfl, rfl, rfl, rfl, rfl, rfl, rfl, rfl, rfl, trivial⟩, by rw [show (decide (n19 ≤ 0)) = false by simp; omega]; exact H⟩
            · have hps : n19 ≤ 0 := by have := of_decide_eq_false hps; omega
              ((conv=>whnf);repeat(first|(refine mvT ?_;conv=>whnf)|(refine mvF ?_;conv=>whnf)|(refine cT (by rfl) ?_;conv=>whnf)|(refine cF (by rfl) ?_;conv=>whnf)))
              exact ⟨_, ⟨rfl, rfl, rfl, rfl, rfl, rfl, rfl, rfl, rfl, rfl, trivial⟩, TagI.none hps (decide_eq_true hps) H⟩
          clear H
          rintro a19 w H
          ((conv=>whnf);repeat(first|(refine mvT ?_;conv=>whnf)|(refine mvF ?_;conv=>whnf)|(refine cT (by rfl) ?_;conv=>whnf)|(refine cF (by rfl) ?_;conv=>whnf)))
          refine VL.loop (fun i : Nat => [(27, .int .i32 n19), (26, a19), (28, .int .i32 i), (0, .pointer (some ⟨p, 0, none⟩)), (2, .bool false), (7, .pointer (some ⟨pb, 0, none⟩)), (8, .int .i16 v), (9, .bool fx), (10, .pointer (some ⟨p, 0, none⟩)), (22, .int .u32 ((j + 1 : Nat) : Int)), (24, .pointer (some ⟨pb19, 0, none⟩))]) (fun i w' => i ≤ 2147483647 ∧ TagI w1_19 G0 pb pb19 68 [str [], .int .i16 0, .int .i16 0, .map none] (elR 8 v fx 10 dApiVersionsResponseSupportedFeature) (elQ true 8 10 dApiVersionsResponseSupportedFeature) s19 n19 (decide (n19 ≤ 0)) (.slice qa na ca) a19 i w') (fun i => n19.toNat - i) 0 ⟨rfl, rfl, rfl, rfl, rfl, rfl, rfl, rfl, rfl, rfl, rfl, trivial⟩ ⟨by decide, H⟩ ?_
          clear H
          rintro i19 w ⟨hi19, H⟩
          ((conv=>whnf);repeat(first|(refine mvT ?_;conv=>whnf)|(refine mvF ?_;conv=>whnf)|(refine cT (by rfl) ?_;conv=>whnf)|(refine cF (by rfl) ?_;conv=>whnf)))
          refine cI (by rfl) (fun h9=>?_) (fun h9=>?_)
          · have hlt19 : (i19 : Int) < n19 := of_decide_eq_true h9
            obtain ⟨p19, g19, cap19, post19, rfl, hgo19, HI⟩ := H.go hlt19
            obtain ⟨es19, ts19, si19, hes19, hez19, hrn19, hts19, hlen1, H⟩ := HI.open hgo19.2.2.2.2
            obtain ⟨P19, hP19⟩ : ∃ P : World → Prop, P = fun w => (∀ (j : Nat) (c : List Value) (y : T), es19[j]? = some c → ts19[j]? = some y → elQ true 8 10 dApiVersionsResponseSupportedFeature ⟨w, FG w1_19 G0⟩ c y) ∧ Ext (OwnB (.slice qa na ca)) w1_19 w := ⟨_, rfl⟩
            replace H : St w1_19 G0 p19 pb19 si19 ((g19, 68, es19.flatten ++ [str [], .int .i16 0, .int .i16 0, .map none] ++ ((List.replicate (n19.toNat - (i19 + 1)) [str [], .int .i16 0, .int .i16 0, .map none]).flatten ++ post19)) :: []) P19 w := by rw [hP19]; exact H
            ((conv=>whnf);repeat(first|(refine mvT ?_;conv=>whnf)|(refine mvF ?_;conv=>whnf)|(refine cT (by rfl) ?_;conv=>whnf)|(refine cF (by rfl) ?_;conv=>whnf)))
            refine ⟨g19, 0, rfl, ⟨by omega, by omega⟩, ?_⟩
            ((conv=>whnf);repeat(first|(refine mvT ?_;conv=>whnf)|(refine mvF ?_;conv=>whnf)|(refine cT (by rfl) ?_;conv=>whnf)|(refine cF (by rfl) ?_;conv=>whnf)))
            refine Does.mono (dfApiVersionsResponseSupportedFeature (pre := es19.flatten) (cur := [str [], .int .i16 0, .int .i16 0, .map none]) (post := ((List.replicate (n19.toNat - (i19 + 1)) [str [], .int .i16 0, .int .i16 0, .map none]).flatten ++ post19)) H.head (by first | (rw [hlen1]; simp; done) | (simp [hlen1]; done) | (simp [hlen1]; omega)) rfl) ?_
            rintro rd w2 ⟨hdf, hxd⟩
            replace H := H.put hdf hxd
            clear hdf hxd
            replace H : St w1_19 G0 p19 pb19 si19 ((g19, 68, es19.flatten ++ [str [], .int .i16 0, .int .i16 0, .map none] ++ ((List.replicate (n19.toNat - (i19 + 1)) [str [], .int .i16 0, .int .i16 0, .map none]).flatten ++ post19)) :: []) P19 w2 := H
            ((conv=>whnf);repeat(first|(refine mvT ?_;conv=>whnf)|(refine mvF ?_;conv=>whnf)|(refine cT (by rfl) ?_;conv=>whnf)|(refine cF (by rfl) ?_;conv=>whnf)))
            (refine mvB ?_;((conv=>whnf);repeat(first|(refine mvT ?_;conv=>whnf)|(refine mvF ?_;conv=>whnf)|(refine cT (by rfl) ?_;conv=>whnf)|(refine cF (by rfl) ?_;conv=>whnf))))
            refine VC.cutE (fun q : List UInt8 × Rd => [(31, str q.1), (0, .pointer (some ⟨p, 0, none⟩)), (2, .bool false), (7, .pointer (some ⟨pb, 0, none⟩)), (8, .int .i16 v), (9, .bool fx), (10, .pointer (some ⟨p, 0, none⟩)), (22, .int .u32 ((j + 1 : Nat) : Int)), (24, .pointer (some ⟨pb19, 0, none⟩)), (27, .int .i32 n19), (26, .slice (some ⟨g19, 0, none⟩) n19.toNat cap19), (28, .int .i32 i19), (29, .pointer (some ⟨g19, 0 + (i19 : Int).toNat * 4, none⟩)), (30, .pointer (some ⟨g19, 0 + (i19 : Int).toNat * 4, none⟩))]) (fun q w' => rdTx fx si19 = q ∧ St w1_19 G0 p19 pb19 q.2 ((g19, 68, es19.flatten ++ [str [], .int .i16 0, .int .i16 0, .map none] ++ ((List.replicate (n19.toNat - (i19 + 1)) [str [], .int .i16 0, .int .i16 0, .map none]).flatten ++ post19)) :: []) P19 w') ?_ ?_
            · refine cI (by rfl) (fun hc=>?_) (fun hc=>?_)
              · ((conv=>whnf);repeat(first|(refine mvT ?_;conv=>whnf)|(refine mvF ?_;conv=>whnf)|(refine cT (by rfl) ?_;conv=>whnf)|(refine cF (by rfl) ?_;conv=>whnf)))
                refine Does.mono H.txc ?_
                rintro r w ⟨u, s', rfl, hr, H⟩
                ((conv=>whnf);repeat(first|(refine mvT ?_;conv=>whnf)|(refine mvF ?_;conv=>whnf)|(refine cT (by rfl) ?_;conv=>whnf)|(refine cF (by rfl) ?_;conv=>whnf)))
                exact ⟨(u, s'), ⟨rfl, rfl, rfl, rfl, rfl, rfl, rfl, rfl, rfl, rfl, rfl, rfl, rfl, rfl, trivial⟩, by rw [hc]; exact hr, H⟩
              · ((conv=>whnf);repeat(first|(refine mvT ?_;conv=>whnf)|(refine mvF ?_;conv=>whnf)|(refine cT (by rfl) ?_;conv=>whnf)|(refine cF (by rfl) ?_;conv=>whnf)))
                refine Does.mono H.txp ?_
                rintro r w ⟨u, s', rfl, hr, H⟩
                ((conv=>whnf);repeat(first|(refine mvT ?_;conv=>whnf)|(refine mvF ?_;conv=>whnf)|(refine cT (by rfl) ?_;conv=>whnf)|(refine cF (by rfl) ?_;conv=>whnf)))
                exact ⟨(u, s'), ⟨rfl, rfl, rfl, rfl, rfl, rfl, rfl, rfl, rfl, rfl, rfl, rfl, rfl, rfl, trivial⟩, by rw [hc]; exact hr, H⟩
            clear H
            rintro ⟨u20, s20⟩ w ⟨hr20, H⟩
            dsimp only at hr20 H
            ((conv=>whnf);repeat(first|(refine mvT ?_;conv=>whnf)|(refine mvF ?_;conv=>whnf)|(refine cT (by rfl) ?_;conv=>whnf)|(refine cF (by rfl) ?_;conv=>whnf)))
            refine H.st1 (v := str u20) 0 (rfl) (rfl) rfl (by first | omega | (simp [hlen1]; done) | (simp [hlen1]; omega)) rfl (Nat.lt_of_lt_of_le (Nat.lt_succ_self _) (Nat.le_of_ble_eq_true rfl)) ?_
            intro w H
            ((conv=>whnf);repeat(first|(refine mvT ?_;conv=>whnf)|(refine mvF ?_;conv=>whnf)|(refine cT (by rfl) ?_;conv=>whnf)|(refine cF (by rfl) ?_;conv=>whnf)))
            replace H : St w1_19 G0 p19 pb19 s20 ((g19, 68, es19.flatten ++ [str u20, .int .i16 0, .int .i16 0, .map none] ++ ((List.replicate (n19.toNat - (i19 + 1)) [str [], .int .i16 0, .int .i16 0, .map none]).flatten ++ post19)) :: []) P19 w := H
            refine Does.mono H.int16 ?_
            rintro r w ⟨n22, s22, rfl, hn22, hr22, H⟩
            ((conv=>whnf);repeat(first|(refine mvT ?_;conv=>whnf)|(refine mvF ?_;conv=>whnf)|(refine cT (by rfl) ?_;conv=>whnf)|(refine cF (by rfl) ?_;conv=>whnf)))
            refine H.st1 (v := .int .i16 n22) 1 (rfl) (rfl) rfl (by first | omega | (simp [hlen1]; done) | (simp [hlen1]; omega)) rfl (Nat.lt_of_lt_of_le (Nat.lt_succ_self _) (Nat.le_of_ble_eq_true rfl)) ?_
            intro w H
            ((conv=>whnf);repeat(first|(refine mvT ?_;conv=>whnf)|(refine mvF ?_;conv=>whnf)|(refine cT (by rfl) ?_;conv=>whnf)|(refine cF (by rfl) ?_;conv=>whnf)))
            replace H : St w1_19 G0 p19 pb19 s22 ((g19, 68, es19.flatten ++ [str u20, .int .i16 n22, .int .i16 0, .map none] ++ ((List.replicate (n19.toNat - (i19 + 1)) [str [], .int .i16 0, .int .i16 0, .map none]).flatten ++ post19)) :: []) P19 w := H
            refine Does.mono H.int16 ?_
            rintro r w ⟨n24, s24, rfl, hn24, hr24, H⟩
            ((conv=>whnf);repeat(first|(refine mvT ?_;conv=>whnf)|(refine mvF ?_;conv=>whnf)|(refine cT (by rfl) ?_;conv=>whnf)|(refine cF (by rfl) ?_;conv=>whnf)))
            refine H.st1 (v := .int .i16 n24) 2 (rfl) (rfl) rfl (by first | omega | (simp [hlen1]; done) | (simp [hlen1]; omega)) rfl (Nat.lt_of_lt_of_le (Nat.lt_succ_self _) (Nat.le_of_ble_eq_true rfl)) ?_
            intro w H
            ((conv=>whnf);repeat(first|(refine mvT ?_;conv=>whnf)|(refine mvF ?_;conv=>whnf)|(refine cT (by rfl) ?_;conv=>whnf)|(refine cF (by rfl) ?_;conv=>whnf)))
            replace H : St w1_19 G0 p19 pb19 s24 ((g19, 68, es19.flatten ++ [str u20, .int .i16 n22, .int .i16 n24, .map none] ++ ((List.replicate (n19.toNat - (i19 + 1)) [str [], .int .i16 0, .int .i16 0, .map none]).flatten ++ post19)) :: []) P19 w := H
            (refine mvB ?_;((conv=>whnf);repeat(first|(refine mvT ?_;conv=>whnf)|(refine mvF ?_;conv=>whnf)|(refine cT (by rfl) ?_;conv=>whnf)|(refine cF (by rfl) ?_;conv=>whnf))))
            refine VC.cutB (fun q : Value × List Tg × Rd => [(0, .pointer (some ⟨p, 0, none⟩)), (2, .bool false), (7, .pointer (some ⟨pb, 0, none⟩)), (8, .int .i16 v), (9, .bool fx), (10, .pointer (some ⟨p, 0, none⟩)), (22, .int .u32 ((j + 1 : Nat) : Int)), (24, .pointer (some ⟨pb19, 0, none⟩)), (27, .int .i32 n19), (26, .slice (some ⟨g19, 0, none⟩) n19.toNat cap19), (28, .int .i32 i19), (29, .pointer (some ⟨g19, 0 + (i19 : Int).toNat * 4, none⟩)), (30, .pointer (some ⟨g19, 0 + (i19 : Int).toNat * 4, none⟩))]) (fun q w' => rdTagsF fx s24 = q.2 ∧ St w1_19 G0 p19 pb19 q.2.2 ((g19, 68, es19.flatten ++ [str u20, .int .i16 n22, .int .i16 n24, q.1] ++ ((List.replicate (n19.toNat - (i19 + 1)) [str [], .int .i16 0, .int .i16 0, .map none]).flatten ++ post19)) :: []) (fun w => TGf w1_19 G0 q.1 q.2.1 w ∧ P19 w) w') ?_ ?_
            · refine cI (by rfl) (fun hc=>?_) (fun hc=>?_)
              · ((conv=>whnf);repeat(first|(refine mvT ?_;conv=>whnf)|(refine mvF ?_;conv=>whnf)|(refine cT (by rfl) ?_;conv=>whnf)|(refine cF (by rfl) ?_;conv=>whnf)))
                refine Does.mono H.tags ?_
                rintro r w ⟨m, u, s', rfl, hone, hr, H⟩
                ((conv=>whnf);repeat(first|(refine mvT ?_;conv=>whnf)|(refine mvF ?_;conv=>whnf)|(refine cT (by rfl) ?_;conv=>whnf)|(refine cF (by rfl) ?_;conv=>whnf)))
                refine H.st1 (v := m) 3 (rfl) (hone) rfl (by first | omega | (simp [hlen1]; done) | (simp [hlen1]; omega)) rfl (Nat.lt_of_lt_of_le (Nat.lt_succ_self _) (Nat.le_of_ble_eq_true rfl)) ?_
                intro w H
                ((conv=>whnf);repeat(first|(refine mvT ?_;conv=>whnf)|(refine mvF ?_;conv=>whnf)|(refine cT (by rfl) ?_;conv=>whnf)|(refine cF (by rfl) ?_;conv=>whnf)))
                exact ⟨(m, u, s'), ⟨rfl, rfl, rfl, rfl, rfl, rfl, rfl, rfl, rfl, rfl, rfl, rfl, rfl, trivial⟩, by rw [rdTagsF, if_pos hc]; exact hr, H⟩
              · ((conv=>whnf);repeat(first|(refine mvT ?_;conv=>whnf)|(refine mvF ?_;conv=>whnf)|(refine cT (by rfl) ?_;conv=>whnf)|(refine cF (by rfl) ?_;conv=>whnf)))
                exact ⟨(.map none, [], s24), ⟨rfl, rfl, rfl, rfl, rfl, rfl, rfl, rfl, rfl, rfl, rfl, rfl, rfl, trivial⟩, by rw [rdTagsF, if_neg (by rw [hc]; decide)], H.add fun w' _ => TagsR.nil _ _⟩
            clear H
            rintro ⟨m26, u26, s26⟩ w ⟨htg, H⟩
            dsimp only at htg H
            ((conv=>whnf);repeat(first|(refine mvT ?_;conv=>whnf)|(refine mvF ?_;conv=>whnf)|(refine cT (by rfl) ?_;conv=>whnf)|(refine cF (by rfl) ?_;conv=>whnf)))
            obtain ⟨P27, hP27⟩ : ∃ P : World → Prop, P = fun w => TGf w1_19 G0 m26 u26 w ∧ P19 w := ⟨_, rfl⟩
            replace H : St w1_19 G0 p19 pb19 s26 ((g19, 68, es19.flatten ++ [str u20, .int .i16 n22, .int .i16 n24, m26] ++ ((List.replicate (n19.toNat - (i19 + 1)) [str [], .int .i16 0, .int .i16 0, .map none]).flatten ++ post19)) :: []) P27 w := by rw [hP27]; exact H
            have hpart : rdPart 8 v fx dApiVersionsResponseSupportedFeature si19 = (.mk 0 [] false [.mk 0 u20 false [] [], numT n22, numT n24] u26, s26) := by
              unfold rdPart rdPartW
              rw [rdTail_plain (by decide)]
              rw [rdAll_yes (df := dfT 8) (rdField8 (by decide) hr20) ⟨by decide, has_all hv⟩, rdAll_yes (df := dfT 8) (rdField2.trans hr22) ⟨by decide, has_all hv⟩, rdAll_yes (df := dfT 8) (rdField2.trans hr24) ⟨by decide, has_all hv⟩]
              simp only [rdAll]
              rw [htg]
            refine ⟨i19 + 1, ⟨rfl, rfl, ?_, rfl, rfl, rfl, rfl, rfl, rfl, rfl, rfl, trivial⟩, ⟨by omega, TagI.back hgo19 (LoopI.next hes19 hez19 hrn19 hts19 (cur := [str u20, .int .i16 n22, .int .i16 n24, m26]) (x := .mk 0 [] false [.mk 0 u20 false [] [], numT n22, numT n24] u26) (hpart) rfl H fun w hP => ?_)⟩, by omega⟩
            · show some (Value.int .i32 _) = _
              rw [IntKind.wrap_i32]
              simp only [Option.some.injEq, Value.int.injEq, true_and]
              omega
            · skip
              rw [hP27] at hP
              obtain ⟨hf27_, hP⟩ := hP
              rw [hP19] at hP
              exact ⟨QPt (QA1 (QF8 (by decide) u20) (QA1 (QF2 hn22) (QA1 (QF2 hn24) (QA0)))) hf27_, hP⟩
          · skip
            have hge19 : ¬ (i19 : Int) < n19 := of_decide_eq_false h9
            have hsA1 := HT.ext.size
            obtain ⟨l28, s28, hone28, hl28, hr28, hrd, hx1, hownN, hob, hlist⟩ := H.done hge19 hln19 (nl := nlF (.mk 11 0 (-1) (-1) 0 0 10 dApiVersionsResponseSupportedFeature) v) rfl rfl (elQ_later 8 10 dApiVersionsResponseSupportedFeature) hown hsA1
            ((conv=>whnf);repeat(first|(refine mvT ?_;conv=>whnf)|(refine mvF ?_;conv=>whnf)|(refine cT (by rfl) ?_;conv=>whnf)|(refine cF (by rfl) ?_;conv=>whnf)))
            have howq := HT.ownq hA18 hx1 fun k h => (hown.lt k h).1
            refine stm howq (v := a19) 4 (cells_one hone28) hone28 rfl (by simp) rfl (Nat.lt_of_lt_of_le (Nat.lt_succ_self _) (Nat.le_of_ble_eq_true rfl)) ?_
            obtain ⟨w5, rfl⟩ : ∃ x, x = w := ⟨w, rfl⟩
            intro w ho hx2
            ((conv=>whnf);repeat(first|(refine mvT ?_;conv=>whnf)|(refine mvF ?_;conv=>whnf)|(refine cT (by rfl) ?_;conv=>whnf)|(refine cF (by rfl) ?_;conv=>whnf)))
            have hx := (hx1.mono (M' := fun k => OwnB (.slice qa na ca) k ∨ k = p) fun _ _ h => .inl h).trans hx2 fun k _ h => .inr h
            have hoth : ∀ c, c ∈ [m, c2_0] → ∀ k, OwnB c k → wA18.heap.size ≤ k ∧ k < w1_19.heap.size := fun c hc k hk => by
                simp only [List.mem_cons, List.not_mem_nil, or_false] at hc
                rcases hc with rfl | rfl
                · exact HT.tagb k hk
                · exact ((HT.slots.2.2.1).ownL rfl).1.lt k hk
            have hnew : Slot w wA18 G0 9 (.mk 11 0 (-1) (-1) 0 0 10 dApiVersionsResponseSupportedFeature) 68 4 [m, c2_0] [a19] (.mk 0 [] ((decide (n19 ≤ 0)) && (xc0).nl) l28 []) := Slot.read hA18 (QF11 hl28 hlist) (fun _ => ⟨_, rfl, hownN, hob⟩) hsep hoth hsA1 (fun k h => (hown.lt k h).1) hx2
            have HT2 : TgS wA18 G0 pb p ty [] [.int .i16 v, .int .i16 n1, a3, .int .i32 n15, a19, c1_0, c2_0, c3_0, m] [] [] st3 m u (fun m w => Slot w wA18 G0 9 (.mk 11 0 (-1) (-1) 0 0 10 dApiVersionsResponseSupportedFeature) 68 4 [m, c2_0] [a19] (.mk 0 [] ((decide (n19 ≤ 0)) && (xc0).nl) l28 []) ∧ Slot w wA18 G0 9 (.mk 4 0 (-1) (-1) 1 (-1) 0 []) 0 0 [m, a19, c2_0] [c1_0] (xc1) ∧ Slot w wA18 G0 9 (.mk 11 0 (-1) (-1) 2 0 10 dApiVersionsResponseFinalizedFeature) 72 4 [m, a19] [c2_0] (xc2) ∧ Slot w wA18 G0 9 (.mk 0 0 (-1) (-1) 3 0 0 []) 0 0 [m, a19, c2_0] [c3_0] (xc3)) w := HT.put hA18 hx ho (fun k h => ⟨(hown.lt k h).1, hsep m (by simp) k h⟩) ⟨hnew, Slot.other hA18 (HT.slots.2.1) hx (fun k h => by simp) (fun c hc k hk => by
                simp only [List.mem_cons, List.not_mem_nil, or_false] at hc
                rcases hc with rfl | rfl
                all_goals first | exact (hob k hk).imp (fun h => ⟨_, by simp, h⟩) id | exact .inl ⟨_, by simp, hk⟩), Slot.other hA18 (HT.slots.2.2.1) hx (fun k h => by simp) (fun c hc k hk => by
                simp only [List.mem_cons, List.not_mem_nil, or_false] at hc
                rcases hc with rfl
                all_goals first | exact (hob k hk).imp (fun h => ⟨_, by simp, h⟩) id | exact .inl ⟨_, by simp, hk⟩), Slot.other hA18 (HT.slots.2.2.2) hx (fun k h => by simp) (fun c hc k hk => by
                simp only [List.mem_cons, List.not_mem_nil, or_false] at hc
                rcases hc with rfl | rfl
                all_goals first | exact (hob k hk).imp (fun h => ⟨_, by simp, h⟩) id | exact .inl ⟨_, by simp, hk⟩)⟩ (fun w w' m m' h hx hm => ⟨Slot.clo hA18 (h.1) hx hm, Slot.clo hA18 (h.2.1) hx hm, Slot.clo hA18 (h.2.2.1) hx hm, Slot.clo hA18 (h.2.2.2) hx hm⟩)
            have hfield : rdField 9 v fx (.mk 11 0 (-1) (-1) 0 0 10 dApiVersionsResponseSupportedFeature) (bb, false) = (.mk 0 [] (decide (n19 ≤ 0)) l28 [], s28) := (rdField_list _ _ _ _ _ _ _ _ _ _ _).trans hr28
            refine Does.mono (Complete_does (HT2.laid HA18 hL hp1) (HT.rd2 hA18 hpb hrd hx2)) ?_
            rintro r _ ⟨hr9, rfl⟩
            cases hbd9 : s28.2 with
            | true =>
              rw [hbd9, if_pos rfl] at hr9
              obtain ⟨te, xe, hev⟩ := hL.iface
              rw [hev] at hr9
              subst hr9
              ((conv=>whnf);repeat(first|(refine mvT ?_;conv=>whnf)|(refine mvF ?_;conv=>whnf)|(refine cT (by rfl) ?_;conv=>whnf)|(refine cF (by rfl) ?_;conv=>whnf)))
              rw [← hev]
              refine RdPost.fell (hup0 ?_) (HT2.ext0 HA18)
              rw [tail_yes (rdField2.trans hr1) ⟨by decide, has_all hv⟩, tail_yes ((rdField_list _ _ _ _ _ _ _ _ _ _ _).trans hr12) ⟨by decide, has_all hv⟩, tail_ver hr15 (by decide), tail_tag (f := (.mk 11 0 (-1) (-1) 0 0 10 dApiVersionsResponseSupportedFeature)) (by decide), tail_tag (f := (.mk 4 0 (-1) (-1) 1 (-1) 0 [])) (by decide), tail_tag (f := (.mk 11 0 (-1) (-1) 2 0 10 dApiVersionsResponseFinalizedFeature)) (by decide), tail_tag (f := (.mk 0 0 (-1) (-1) 3 0 0 [])) (by decide), tail_run (by decide) hc hrun]
              exact rdTgX_fell hu1 hu2 hsp rfl (by rw [hfield]; exact hbd9)
            | false =>
              rw [hbd9, if_neg Bool.false_ne_true] at hr9
              subst hr9
              ((conv=>whnf);repeat(first|(refine mvT ?_;conv=>whnf)|(refine mvF ?_;conv=>whnf)|(refine cT (by rfl) ?_;conv=>whnf)|(refine cF (by rfl) ?_;conv=>whnf)))
              refine ⟨j, ⟨?_, rfl, rfl, rfl, rfl, rfl, rfl, trivial⟩, ⟨st3, m, u, a19, c1_0, c2_0, c3_0, .mk 0 [] ((decide (n19 ≤ 0)) && (xc0).nl) l28 [], xc1, xc2, xc3, rdTgX_next hrun hu1 hu2 hsp rfl hfield hbd9 (by
                show List.set _ _ (tgX _ (xc0) _) = _
                rw [tgX_list]
                rfl), by omega, HT2⟩, by omega⟩
              show some (Value.int .u32 _) = _
              rw [wrap_u32]
              simp only [Option.some.injEq, Value.int.injEq, true_and]
              omega
        · have hk0 : key ≠ 0 := by have h := hk0; simp at h; omega
          refine cI (by rfl) (fun hk1=>?_) (fun hk1=>?_)
          · have hk1 : key = 1 := by have h := hk1; simp at h; omega
            subst hk1
            ((conv=>whnf);repeat(first|(refine mvT ?_;conv=>whnf)|(refine mvF ?_;conv=>whnf)|(refine cT (by rfl) ?_;conv=>whnf)|(refine cF (by rfl) ?_;conv=>whnf)))
            refine Does.mono (HT.uv hA18) ?_
            rintro r w ⟨z, st2, rfl, hz, hu2, HT⟩
            ((conv=>whnf);repeat(first|(refine mvT ?_;conv=>whnf)|(refine mvF ?_;conv=>whnf)|(refine cT (by rfl) ?_;conv=>whnf)|(refine cF (by rfl) ?_;conv=>whnf)))
            rw [i64_of (n := (z : Int)) (by omega) (by omega)]
            refine Does.mono (HT.span hA18 z) ?_
            rintro r w ⟨bb, st3, hsp, hbb, HT⟩
            obtain ⟨a7, c7, rfl, _⟩ := hbb.view
            ((conv=>whnf);repeat(first|(refine mvT ?_;conv=>whnf)|(refine mvF ?_;conv=>whnf)|(refine cT (by rfl) ?_;conv=>whnf)|(refine cF (by rfl) ?_;conv=>whnf)))
            obtain ⟨w1_29, rfl⟩ : ∃ x, x = w := ⟨w, rfl⟩
            intro pb29 wb hpb hb2 hxb1
            ((conv=>whnf);repeat(first|(refine mvT ?_;conv=>whnf)|(refine mvF ?_;conv=>whnf)|(refine cT (by rfl) ?_;conv=>whnf)|(refine cF (by rfl) ?_;conv=>whnf)))
            refine st_all [.slice a7 bb.length c7, .bool false] hb2 rfl rfl rfl ?_
            intro w hb2 hxb2
            ((conv=>whnf);repeat(first|(refine mvT ?_;conv=>whnf)|(refine mvF ?_;conv=>whnf)|(refine cT (by rfl) ?_;conv=>whnf)|(refine cF (by rfl) ?_;conv=>whnf)))
            have he : Ext nob w1_29 w := hxb1.trans hxb2 fun k hk h => by omega
            obtain ⟨hG1, hb1⟩ := HT.src hA18
            have H := St.tag hb2 (hbb.e0 he) hG1 he hb1 hpb
            clear hb2 hxb1 hxb2 he
            refine Does.mono H.int64 ?_
            rintro r w ⟨n30, s30, rfl, hn30, hr30, H⟩
            ((conv=>whnf);repeat(first|(refine mvT ?_;conv=>whnf)|(refine mvF ?_;conv=>whnf)|(refine cT (by rfl) ?_;conv=>whnf)|(refine cF (by rfl) ?_;conv=>whnf)))
            refine stm (HT.own.1.e0 H.now) (v := .int .i64 n30) 5 rfl rfl rfl (by simp) rfl (Nat.lt_of_lt_of_le (Nat.lt_succ_self _) (Nat.le_of_ble_eq_true rfl)) ?_
            intro w ho hx2
            ((conv=>whnf);repeat(first|(refine mvT ?_;conv=>whnf)|(refine mvF ?_;conv=>whnf)|(refine cT (by rfl) ?_;conv=>whnf)|(refine cF (by rfl) ?_;conv=>whnf)))
            have hx := (H.now.mono (M' := fun k => OwnB (.slice none 0 0) k ∨ k = p) fun _ _ f => f.elim).trans hx2 fun k _ h => .inr h
            have HT2 : TgS wA18 G0 pb p ty [] [.int .i16 v, .int .i16 n1, a3, .int .i32 n15, c0_0, .int .i64 n30, c2_0, c3_0, m] [] [] st3 m u (fun m w => Slot w wA18 G0 9 (.mk 11 0 (-1) (-1) 0 0 10 dApiVersionsResponseSupportedFeature) 68 4 [m, c2_0] [c0_0] (xc0) ∧ Slot w wA18 G0 9 (.mk 4 0 (-1) (-1) 1 (-1) 0 []) 0 0 [m, c0_0, c2_0] [.int .i64 n30] (numT n30) ∧ Slot w wA18 G0 9 (.mk 11 0 (-1) (-1) 2 0 10 dApiVersionsResponseFinalizedFeature) 72 4 [m, c0_0] [c2_0] (xc2) ∧ Slot w wA18 G0 9 (.mk 0 0 (-1) (-1) 3 0 0 []) 0 0 [m, c0_0, c2_0] [c3_0] (xc3)) w := HT.put hA18 hx ho (fun k h => absurd h (no_own k)) ⟨Slot.other hA18 (HT.slots.1) hx (fun k h => absurd h (no_own k)) fun c hc k hk => .inl ⟨c, by simp [hc], hk⟩, ⟨QF4 hn30, fun h => absurd h (by decide)⟩, Slot.other hA18 (HT.slots.2.2.1) hx (fun k h => absurd h (no_own k)) fun c hc k hk => .inl ⟨c, by simp [hc], hk⟩, Slot.other hA18 (HT.slots.2.2.2) hx (fun k h => absurd h (no_own k)) fun c hc k hk => .inl ⟨c, by simp [hc], hk⟩⟩ (fun w w' m m' h hx hm => ⟨Slot.clo hA18 (h.1) hx hm, Slot.clo hA18 (h.2.1) hx hm, Slot.clo hA18 (h.2.2.1) hx hm, Slot.clo hA18 (h.2.2.2) hx hm⟩)
            have hfield : rdField 9 v fx (.mk 4 0 (-1) (-1) 1 (-1) 0 []) (bb, false) = (numT n30, s30) := rdField4.trans hr30
            refine Does.mono (Complete_does (HT2.laid HA18 hL hp1) (HT.rd2 hA18 hpb H.rd hx2)) ?_
            rintro r _ ⟨hr9, rfl⟩
            cases hbd9 : s30.2 with
            | true =>
              rw [hbd9, if_pos rfl] at hr9
              obtain ⟨te, xe, hev⟩ := hL.iface
              rw [hev] at hr9
              subst hr9
              ((conv=>whnf);repeat(first|(refine mvT ?_;conv=>whnf)|(refine mvF ?_;conv=>whnf)|(refine cT (by rfl) ?_;conv=>whnf)|(refine cF (by rfl) ?_;conv=>whnf)))
              rw [← hev]
              refine RdPost.fell (hup0 ?_) (HT2.ext0 HA18)
              rw [tail_yes (rdField2.trans hr1) ⟨by decide, has_all hv⟩, tail_yes ((rdField_list _ _ _ _ _ _ _ _ _ _ _).trans hr12) ⟨by decide, has_all hv⟩, tail_ver hr15 (by decide), tail_tag (f := (.mk 11 0 (-1) (-1) 0 0 10 dApiVersionsResponseSupportedFeature)) (by decide), tail_tag (f := (.mk 4 0 (-1) (-1) 1 (-1) 0 [])) (by decide), tail_tag (f := (.mk 11 0 (-1) (-1) 2 0 10 dApiVersionsResponseFinalizedFeature)) (by decide), tail_tag (f := (.mk 0 0 (-1) (-1) 3 0 0 [])) (by decide), tail_run (by decide) hc hrun]
              exact rdTgX_fell hu1 hu2 hsp rfl (by rw [hfield]; exact hbd9)
            | false =>
              rw [hbd9, if_neg Bool.false_ne_true] at hr9
              subst hr9
              ((conv=>whnf);repeat(first|(refine mvT ?_;conv=>whnf)|(refine mvF ?_;conv=>whnf)|(refine cT (by rfl) ?_;conv=>whnf)|(refine cF (by rfl) ?_;conv=>whnf)))
              refine ⟨j, ⟨?_, rfl, rfl, rfl, rfl, rfl, rfl, trivial⟩, ⟨st3, m, u, c0_0, .int .i64 n30, c2_0, c3_0, xc0, numT n30, xc2, xc3, rdTgX_next hrun hu1 hu2 hsp rfl hfield hbd9 (by rw [tgX_ne (show ((.mk 4 0 (-1) (-1) 1 (-1) 0 []) : Fd).kind ≠ 11 by decide)]; rfl), by omega, HT2⟩, by omega⟩
              show some (Value.int .u32 _) = _
              rw [wrap_u32]
              simp only [Option.some.injEq, Value.int.injEq, true_and]
              omega
          · have hk1 : key ≠ 1 := by have h := hk1; simp at h; omega
            refine cI (by rfl) (fun hk2=>?_) (fun hk2=>?_)
            · have hk2 : key = 2 := by have h := hk2; simp at h; omega
              subst hk2
              ((conv=>whnf);repeat(first|(refine mvT ?_;conv=>whnf)|(refine mvF ?_;conv=>whnf)|(refine cT (by rfl) ?_;conv=>whnf)|(refine cF (by rfl) ?_;conv=>whnf)))
              refine Does.mono (HT.uv hA18) ?_
              rintro r w ⟨z, st2, rfl, hz, hu2, HT⟩
              ((conv=>whnf);repeat(first|(refine mvT ?_;conv=>whnf)|(refine mvF ?_;conv=>whnf)|(refine cT (by rfl) ?_;conv=>whnf)|(refine cF (by rfl) ?_;conv=>whnf)))
              rw [i64_of (n := (z : Int)) (by omega) (by omega)]
              refine Does.mono (HT.span hA18 z) ?_
              rintro r w ⟨bb, st3, hsp, hbb, HT⟩
              obtain ⟨a7, c7, rfl, _⟩ := hbb.view
              ((conv=>whnf);repeat(first|(refine mvT ?_;conv=>whnf)|(refine mvF ?_;conv=>whnf)|(refine cT (by rfl) ?_;conv=>whnf)|(refine cF (by rfl) ?_;conv=>whnf)))
              obtain ⟨w1_31, rfl⟩ : ∃ x, x = w := ⟨w, rfl⟩
              intro pb31 wb hpb hb2 hxb1
              ((conv=>whnf);repeat(first|(refine mvT ?_;conv=>whnf)|(refine mvF ?_;conv=>whnf)|(refine cT (by rfl) ?_;conv=>whnf)|(refine cF (by rfl) ?_;conv=>whnf)))
              refine st_all [.slice a7 bb.length c7, .bool false] hb2 rfl rfl rfl ?_
              intro w hb2 hxb2
              ((conv=>whnf);repeat(first|(refine mvT ?_;conv=>whnf)|(refine mvF ?_;conv=>whnf)|(refine cT (by rfl) ?_;conv=>whnf)|(refine cF (by rfl) ?_;conv=>whnf)))
              have he : Ext nob w1_31 w := hxb1.trans hxb2 fun k hk h => by omega
              obtain ⟨hG1, hb1⟩ := HT.src hA18
              have H := St.tag hb2 (hbb.e0 he) hG1 he hb1 hpb
              clear hb2 hxb1 hxb2 he
              obtain ⟨hown, hsep⟩ := (HT.slots.2.2.1).ownL rfl
              obtain ⟨qa, na, ca, rfl, hqa, hna⟩ := hown.slice
              refine ldS (own_cell (HT.own.1.e0 H.now) (o := 0) rfl (k := 6) rfl) ?_;((conv=>whnf);repeat(first|(refine mvT ?_;conv=>whnf)|(refine mvF ?_;conv=>whnf)|(refine cT (by rfl) ?_;conv=>whnf)|(refine cF (by rfl) ?_;conv=>whnf)))
              (refine mvB ?_;((conv=>whnf);repeat(first|(refine mvT ?_;conv=>whnf)|(refine mvF ?_;conv=>whnf)|(refine cT (by rfl) ?_;conv=>whnf)|(refine cF (by rfl) ?_;conv=>whnf))))
              refine VC.cutE (fun q : Int × Rd => [(41, .int .i32 q.1), (40, .slice qa na ca), (0, .pointer (some ⟨p, 0, none⟩)), (2, .bool false), (7, .pointer (some ⟨pb, 0, none⟩)), (8, .int .i16 v), (9, .bool fx), (10, .pointer (some ⟨p, 0, none⟩)), (22, .int .u32 ((j + 1 : Nat) : Int)), (38, .pointer (some ⟨pb31, 0, none⟩))]) (fun q w' => (-2147483648 ≤ q.1 ∧ q.1 ≤ 2147483647) ∧ rdLn fx (bb, false) = q ∧ St w1_31 G0 pb pb31 q.2 [] (fun w' => Ext nob w1_31 w') w') ?_ ?_
              · refine cI (by rfl) (fun hc2=>?_) (fun hc2=>?_)
                · ((conv=>whnf);repeat(first|(refine mvT ?_;conv=>whnf)|(refine mvF ?_;conv=>whnf)|(refine cT (by rfl) ?_;conv=>whnf)|(refine cF (by rfl) ?_;conv=>whnf)))
                  refine Does.mono H.lnc ?_
                  rintro r w ⟨n, s', rfl, hn, hr, H⟩
                  ((conv=>whnf);repeat(first|(refine mvT ?_;conv=>whnf)|(refine mvF ?_;conv=>whnf)|(refine cT (by rfl) ?_;conv=>whnf)|(refine cF (by rfl) ?_;conv=>whnf)))
                  exact ⟨(n, s'), ⟨rfl, rfl, rfl, rfl, rfl, rfl, rfl, rfl, rfl, rfl, trivial⟩, hn, by rw [hc2]; exact hr, H⟩
                · ((conv=>whnf);repeat(first|(refine mvT ?_;conv=>whnf)|(refine mvF ?_;conv=>whnf)|(refine cT (by rfl) ?_;conv=>whnf)|(refine cF (by rfl) ?_;conv=>whnf)))
                  refine Does.mono H.lnp ?_
                  rintro r w ⟨n, s', rfl, hn, hr, H⟩
                  ((conv=>whnf);repeat(first|(refine mvT ?_;conv=>whnf)|(refine mvF ?_;conv=>whnf)|(refine cT (by rfl) ?_;conv=>whnf)|(refine cF (by rfl) ?_;conv=>whnf)))
                  exact ⟨(n, s'), ⟨rfl, rfl, rfl, rfl, rfl, rfl, rfl, rfl, rfl, rfl, trivial⟩, hn, by rw [hc2]; exact hr, H⟩
              clear H
              rintro ⟨n31, s31⟩ w ⟨hn31, hln31, H⟩
              dsimp only at hn31 hln31 H
              ((conv=>whnf);repeat(first|(refine mvT ?_;conv=>whnf)|(refine mvF ?_;conv=>whnf)|(refine cT (by rfl) ?_;conv=>whnf)|(refine cF (by rfl) ?_;conv=>whnf)))
              refine Does.mono H.ok ?_
              rintro r w ⟨rfl, H⟩
              ((conv=>whnf);repeat(first|(refine mvT ?_;conv=>whnf)|(refine mvF ?_;conv=>whnf)|(refine cT (by rfl) ?_;conv=>whnf)|(refine cF (by rfl) ?_;conv=>whnf)))
              refine cI (by rfl) (fun hbd=>?_) (fun hbd=>?_)
              · have hbd : s31.2 = true := by simpa using hbd
                ((conv=>whnf);repeat(first|(refine mvT ?_;conv=>whnf)|(refine mvF ?_;conv=>whnf)|(refine cT (by rfl) ?_;conv=>whnf)|(refine cF (by rfl) ?_;conv=>whnf)))
                refine Does.mono (Complete_does ((HT.laid HA18 hL hp1).ext H.now fun f => f) H.rd) ?_
                rintro r _ ⟨rfl, rfl⟩
                ((conv=>whnf);repeat(first|(refine mvT ?_;conv=>whnf)|(refine mvF ?_;conv=>whnf)|(refine cT (by rfl) ?_;conv=>whnf)|(refine cF (by rfl) ?_;conv=>whnf)))
                rw [if_pos hbd]
                refine RdPost.fell (hup0 ?_) ((HT.ext0 HA18).tr0 H.now)
                rw [tail_yes (rdField2.trans hr1) ⟨by decide, has_all hv⟩, tail_yes ((rdField_list _ _ _ _ _ _ _ _ _ _ _).trans hr12) ⟨by decide, has_all hv⟩, tail_ver hr15 (by decide), tail_tag (f := (.mk 11 0 (-1) (-1) 0 0 10 dApiVersionsResponseSupportedFeature)) (by decide), tail_tag (f := (.mk 4 0 (-1) (-1) 1 (-1) 0 [])) (by decide), tail_tag (f := (.mk 11 0 (-1) (-1) 2 0 10 dApiVersionsResponseFinalizedFeature)) (by decide), tail_tag (f := (.mk 0 0 (-1) (-1) 3 0 0 [])) (by decide), tail_run (by decide) hc hrun]
                exact rdTgX_fell hu1 hu2 hsp rfl (field_len hln31 hbd)
              have hbd : s31.2 = false := by simpa using hbd
              clear hbd
              ((conv=>whnf);repeat(first|(refine mvT ?_;conv=>whnf)|(refine mvF ?_;conv=>whnf)|(refine cT (by rfl) ?_;conv=>whnf)|(refine cF (by rfl) ?_;conv=>whnf)))
              refine cut0_slice hna hqa ?_
              ((conv=>whnf);repeat(first|(refine mvT ?_;conv=>whnf)|(refine mvF ?_;conv=>whnf)|(refine cT (by rfl) ?_;conv=>whnf)|(refine cF (by rfl) ?_;conv=>whnf)))
              refine VC.cutE (fun a : Value => [(41, .int .i32 n31), (40, a), (0, .pointer (some ⟨p, 0, none⟩)), (2, .bool false), (7, .pointer (some ⟨pb, 0, none⟩)), (8, .int .i16 v), (9, .bool fx), (10, .pointer (some ⟨p, 0, none⟩)), (22, .int .u32 ((j + 1 : Nat) : Int)), (38, .pointer (some ⟨pb31, 0, none⟩))]) (fun a w' => TagI w1_31 G0 pb pb31 72 [str [], .int .i16 0, .int .i16 0, .map none] (elR 8 v fx 10 dApiVersionsResponseFinalizedFeature) (elQ true 8 10 dApiVersionsResponseFinalizedFeature) s31 n31 (decide (n31 ≤ 0)) (.slice qa na ca) a 0 w') ?_ ?_
              · refine cI (by rfl) (fun hps=>?_) (fun hps=>?_)
                · have hps : 0 < n31 := by have := of_decide_eq_true hps; omega
                  ((conv=>whnf);repeat(first|(refine mvT ?_;conv=>whnf)|(refine mvF ?_;conv=>whnf)|(refine cT (by rfl) ?_;conv=>whnf)|(refine cF (by rfl) ?_;conv=>whnf)))
                  refine TagI.grow (rd := elR 8 v fx 10 dApiVersionsResponseFinalizedFeature) (R := elQ true 8 10 dApiVersionsResponseFinalizedFeature) H hown hA18.old hps hn31.2 (by decide) rfl rfl (by decide) ?_
                  intro a w H
                  ((conv=>whnf);repeat(first|(refine mvT ?_;conv=>whnf)|(refine mvF ?_;conv=>whnf)|(refine cT (by rfl) ?_;conv=>whnf)|(refine cF (by rfl) ?_;conv=>whnf)))
                  exact ⟨_, ⟨rfl, rfl, rfl, rfl, rfl, rfl, rfl, rfl, rfl, rfl, trivial⟩, by rw [show (decide (n31 ≤ 0)) = false by simp; omega]; exact H⟩
                · have hps : n31 ≤ 0 := by have := of_decide_eq_false hps; omega
                  ((conv=>whnf);repeat(first|(refine mvT ?_;conv=>whnf)|(refine mvF ?_;conv=>whnf)|(refine cT (by rfl) ?_;conv=>whnf)|(refine cF (by rfl) ?_;conv=>whnf)))
                  exact ⟨_, ⟨rfl, rfl, rfl, rfl, rfl, rfl, rfl, rfl, rfl, rfl, trivial⟩, TagI.none hps (decide_eq_true hps) H⟩
              clear H
              rintro a31 w H
              ((conv=>whnf);repeat(first|(refine mvT ?_;conv=>whnf)|(refine mvF ?_;conv=>whnf)|(refine cT (by rfl) ?_;conv=>whnf)|(refine cF (by rfl) ?_;conv=>whnf)))
              refine VL.loop (fun i : Nat => [(41, .int .i32 n31), (40, a31), (42, .int .i32 i), (0, .pointer (some ⟨p, 0, none⟩)), (2, .bool false), (7, .pointer (some ⟨pb, 0, none⟩)), (8, .int .i16 v), (9, .bool fx), (10, .pointer (some ⟨p, 0, none⟩)), (22, .int .u32 ((j + 1 : Nat) : Int)), (38, .pointer (some ⟨pb31, 0, none⟩))]) (fun i w' => i ≤ 2147483647 ∧ TagI w1_31 G0 pb pb31 72 [str [], .int .i16 0, .int .i16 0, .map none] (elR 8 v fx 10 dApiVersionsResponseFinalizedFeature) (elQ true 8 10 dApiVersionsResponseFinalizedFeature) s31 n31 (decide (n31 ≤ 0)) (.slice qa na ca) a31 i w') (fun i => n31.toNat - i) 0 ⟨rfl, rfl, rfl, rfl, rfl, rfl, rfl, rfl, rfl, rfl, rfl, trivial⟩ ⟨by decide, H⟩ ?_
              clear H
              rintro i31 w ⟨hi31, H⟩
              ((conv=>whnf);repeat(first|(refine mvT ?_;conv=>whnf)|(refine mvF ?_;conv=>whnf)|(refine cT (by rfl) ?_;conv=>whnf)|(refine cF (by rfl) ?_;conv=>whnf)))
              refine cI (by rfl) (fun h9=>?_) (fun h9=>?_)
              · have hlt31 : (i31 : Int) < n31 := of_decide_eq_true h9
                obtain ⟨p31, g31, cap31, post31, rfl, hgo31, HI⟩ := H.go hlt31
                obtain ⟨es31, ts31, si31, hes31, hez31, hrn31, hts31, hlen1, H⟩ := HI.open hgo31.2.2.2.2
                obtain ⟨P31, hP31⟩ : ∃ P : World → Prop, P = fun w => (∀ (j : Nat) (c : List Value) (y : T), es31[j]? = some c → ts31[j]? = some y → elQ true 8 10 dApiVersionsResponseFinalizedFeature ⟨w, FG w1_31 G0⟩ c y) ∧ Ext (OwnB (.slice qa na ca)) w1_31 w := ⟨_, rfl⟩
                replace H : St w1_31 G0 p31 pb31 si31 ((g31, 72, es31.flatten ++ [str [], .int .i16 0, .int .i16 0, .map none] ++ ((List.replicate (n31.toNat - (i31 + 1)) [str [], .int .i16 0, .int .i16 0, .map none]).flatten ++ post31)) :: []) P31 w := by rw [hP31]; exact H
                ((conv=>whnf);repeat(first|(refine mvT ?_;conv=>whnf)|(refine mvF ?_;conv=>whnf)|(refine cT (by rfl) ?_;conv=>whnf)|(refine cF (by rfl) ?_;conv=>whnf)))
                refine ⟨g31, 0, rfl, ⟨by omega, by omega⟩, ?_⟩
                ((conv=>whnf);repeat(first|(refine mvT ?_;conv=>whnf)|(refine mvF ?_;conv=>whnf)|(refine cT (by rfl) ?_;conv=>whnf)|(refine cF (by rfl) ?_;conv=>whnf)))
                refine Does.mono (dfApiVersionsResponseFinalizedFeature (pre := es31.flatten) (cur := [str [], .int .i16 0, .int .i16 0, .map none]) (post := ((List.replicate (n31.toNat - (i31 + 1)) [str [], .int .i16 0, .int .i16 0, .map none]).flatten ++ post31)) H.head (by first | (rw [hlen1]; simp; done) | (simp [hlen1]; done) | (simp [hlen1]; omega)) rfl) ?_
                rintro rd w2 ⟨hdf, hxd⟩
                replace H := H.put hdf hxd
                clear hdf hxd
                replace H : St w1_31 G0 p31 pb31 si31 ((g31, 72, es31.flatten ++ [str [], .int .i16 0, .int .i16 0, .map none] ++ ((List.replicate (n31.toNat - (i31 + 1)) [str [], .int .i16 0, .int .i16 0, .map none]).flatten ++ post31)) :: []) P31 w2 := H
                ((conv=>whnf);repeat(first|(refine mvT ?_;conv=>whnf)|(refine mvF ?_;conv=>whnf)|(refine cT (by rfl) ?_;conv=>whnf)|(refine cF (by rfl) ?_;conv=>whnf)))
                (refine mvB ?_;((conv=>whnf);repeat(first|(refine mvT ?_;conv=>whnf)|(refine mvF ?_;conv=>whnf)|(refine cT (by rfl) ?_;conv=>whnf)|(refine cF (by rfl) ?_;conv=>whnf))))
                refine VC.cutE (fun q : List UInt8 × Rd => [(45, str q.1), (0, .pointer (some ⟨p, 0, none⟩)), (2, .bool false), (7, .pointer (some ⟨pb, 0, none⟩)), (8, .int .i16 v), (9, .bool fx), (10, .pointer (some ⟨p, 0, none⟩)), (22, .int .u32 ((j + 1 : Nat) : Int)), (38, .pointer (some ⟨pb31, 0, none⟩)), (41, .int .i32 n31), (40, .slice (some ⟨g31, 0, none⟩) n31.toNat cap31), (42, .int .i32 i31), (43, .pointer (some ⟨g31, 0 + (i31 : Int).toNat * 4, none⟩)), (44, .pointer (some ⟨g31, 0 + (i31 : Int).toNat * 4, none⟩))]) (fun q w' => rdTx fx si31 = q ∧ St w1_31 G0 p31 pb31 q.2 ((g31, 72, es31.flatten ++ [str [], .int .i16 0, .int .i16 0, .map none] ++ ((List.replicate (n31.toNat - (i31 + 1)) [str [], .int .i16 0, .int .i16 0, .map none]).flatten ++ post31)) :: []) P31 w') ?_ ?_
                · refine cI (by rfl) (fun hc=>?_) (fun hc=>?_)
                  · ((conv=>whnf);repeat(first|(refine mvT ?_;conv=>whnf)|(refine mvF ?_;conv=>whnf)|(refine cT (by rfl) ?_;conv=>whnf)|(refine cF (by rfl) ?_;conv=>whnf)))
                    refine Does.mono H.txc ?_
                    rintro r w ⟨u, s', rfl, hr, H⟩
                    ((conv=>whnf);repeat(first|(refine mvT ?_;conv=>whnf)|(refine mvF ?_;conv=>whnf)|(refine cT (by rfl) ?_;conv=>whnf)|(refine cF (by rfl) ?_;conv=>whnf)))
                    exact ⟨(u, s'), ⟨rfl, rfl, rfl, rfl, rfl, rfl, rfl, rfl, rfl, rfl, rfl, rfl, rfl, rfl, trivial⟩, by rw [hc]; exact hr, H⟩
                  · ((conv=>whnf);repeat(first|(refine mvT ?_;conv=>whnf)|(refine mvF ?_;conv=>whnf)|(refine cT (by rfl) ?_;conv=>whnf)|(refine cF (by rfl) ?_;conv=>whnf)))
                    refine Does.mono H.txp ?_
                    rintro r w ⟨u, s', rfl, hr, H⟩
                    ((conv=>whnf);repeat(first|(refine mvT ?_;conv=>whnf)|(refine mvF ?_;conv=>whnf)|(refine cT (by rfl) ?_;conv=>whnf)|(refine cF (by rfl) ?_;conv=>whnf)))
                    exact ⟨(u, s'), ⟨rfl, rfl, rfl, rfl, rfl, rfl, rfl, rfl, rfl, rfl, rfl, rfl, rfl, rfl, trivial⟩, by rw [hc]; exact hr, H⟩
                clear H
                rintro ⟨u32, s32⟩ w ⟨hr32, H⟩
                dsimp only at hr32 H
                ((conv=>whnf);repeat(first|(refine mvT ?_;conv=>whnf)|(refine mvF ?_;conv=>whnf)|(refine cT (by rfl) ?_;conv=>whnf)|(refine cF (by rfl) ?_;conv=>whnf)))
                refine H.st1 (v := str u32) 0 (rfl) (rfl) rfl (by first | omega | (simp [hlen1]; done) | (simp [hlen1]; omega)) rfl (Nat.lt_of_lt_of_le (Nat.lt_succ_self _) (Nat.le_of_ble_eq_true rfl)) ?_
                intro w H
                ((conv=>whnf);repeat(first|(refine mvT ?_;conv=>whnf)|(refine mvF ?_;conv=>whnf)|(refine cT (by rfl) ?_;conv=>whnf)|(refine cF (by rfl) ?_;conv=>whnf)))
                replace H : St w1_31 G0 p31 pb31 s32 ((g31, 72, es31.flatten ++ [str u32, .int .i16 0, .int .i16 0, .map none] ++ ((List.replicate (n31.toNat - (i31 + 1)) [str [], .int .i16 0, .int .i16 0, .map none]).flatten ++ post31)) :: []) P31 w := H
                refine Does.mono H.int16 ?_
                rintro r w ⟨n34, s34, rfl, hn34, hr34, H⟩
                ((conv=>whnf);repeat(first|(refine mvT ?_;conv=>whnf)|(refine mvF ?_;conv=>whnf)|(refine cT (by rfl) ?_;conv=>whnf)|(refine cF (by rfl) ?_;conv=>whnf)))
                refine H.st1 (v := .int .i16 n34) 1 (rfl) (rfl) rfl (by first | omega | (simp [hlen1]; done) | (simp [hlen1]; omega)) rfl (Nat.lt_of_lt_of_le (Nat.lt_succ_self _) (Nat.le_of_ble_eq_true rfl)) ?_
                intro w H
                ((conv=>whnf);repeat(first|(refine mvT ?_;conv=>whnf)|(refine mvF ?_;conv=>whnf)|(refine cT (by rfl) ?_;conv=>whnf)|(refine cF (by rfl) ?_;conv=>whnf)))
                replace H : St w1_31 G0 p31 pb31 s34 ((g31, 72, es31.flatten ++ [str u32, .int .i16 n34, .int .i16 0, .map none] ++ ((List.replicate (n31.toNat - (i31 + 1)) [str [], .int .i16 0, .int .i16 0, .map none]).flatten ++ post31)) :: []) P31 w := H
                refine Does.mono H.int16 ?_
                rintro r w ⟨n36, s36, rfl, hn36, hr36, H⟩
                ((conv=>whnf);repeat(first|(refine mvT ?_;conv=>whnf)|(refine mvF ?_;conv=>whnf)|(refine cT (by rfl) ?_;conv=>whnf)|(refine cF (by rfl) ?_;conv=>whnf)))
                refine H.st1 (v := .int .i16 n36) 2 (rfl) (rfl) rfl (by first | omega | (simp [hlen1]; done) | (simp [hlen1]; omega)) rfl (Nat.lt_of_lt_of_le (Nat.lt_succ_self _) (Nat.le_of_ble_eq_true rfl)) ?_
                intro w H
                ((conv=>whnf);repeat(first|(refine mvT ?_;conv=>whnf)|(refine mvF ?_;conv=>whnf)|(refine cT (by rfl) ?_;conv=>whnf)|(refine cF (by rfl) ?_;conv=>whnf)))
                replace H : St w1_31 G0 p31 pb31 s36 ((g31, 72, es31.flatten ++ [str u32, .int .i16 n34, .int .i16 n36, .map none] ++ ((List.replicate (n31.toNat - (i31 + 1)) [str [], .int .i16 0, .int .i16 0, .map none]).flatten ++ post31)) :: []) P31 w := H
                (refine mvB ?_;((conv=>whnf);repeat(first|(refine mvT ?_;conv=>whnf)|(refine mvF ?_;conv=>whnf)|(refine cT (by rfl) ?_;conv=>whnf)|(refine cF (by rfl) ?_;conv=>whnf))))
                refine VC.cutB (fun q : Value × List Tg × Rd => [(0, .pointer (some ⟨p, 0, none⟩)), (2, .bool false), (7, .pointer (some ⟨pb, 0, none⟩)), (8, .int .i16 v), (9, .bool fx), (10, .pointer (some ⟨p, 0, none⟩)), (22, .int .u32 ((j + 1 : Nat) : Int)), (38, .pointer (some ⟨pb31, 0, none⟩)), (41, .int .i32 n31), (40, .slice (some ⟨g31, 0, none⟩) n31.toNat cap31), (42, .int .i32 i31), (43, .pointer (some ⟨g31, 0 + (i31 : Int).toNat * 4, none⟩)), (44, .pointer (some ⟨g31, 0 + (i31 : Int).toNat * 4, none⟩))]) (fun q w' => rdTagsF fx s36 = q.2 ∧ St w1_31 G0 p31 pb31 q.2.2 ((g31, 72, es31.flatten ++ [str u32, .int .i16 n34, .int .i16 n36, q.1] ++ ((List.replicate (n31.toNat - (i31 + 1)) [str [], .int .i16 0, .int .i16 0, .map none]).flatten ++ post31)) :: []) (fun w => TGf w1_31 G0 q.1 q.2.1 w ∧ P31 w) w') ?_ ?_
                · refine cI (by rfl) (fun hc=>?_) (fun hc=>?_)
                  · ((conv=>whnf);repeat(first|(refine mvT ?_;conv=>whnf)|(refine mvF ?_;conv=>whnf)|(refine cT (by rfl) ?_;conv=>whnf)|(refine cF (by rfl) ?_;conv=>whnf)))
                    refine Does.mono H.tags ?_
                    rintro r w ⟨m, u, s', rfl, hone, hr, H⟩
                    ((conv=>whnf);repeat(first|(refine mvT ?_;conv=>whnf)|(refine mvF ?_;conv=>whnf)|(refine cT (by rfl) ?_;conv=>whnf)|(refine cF (by rfl) ?_;conv=>whnf)))
                    refine H.st1 (v := m) 3 (rfl) (hone) rfl (by first | omega | (simp [hlen1]; done) | (simp [hlen1]; omega)) rfl (Nat.lt_of_lt_of_le (Nat.lt_succ_self _) (Nat.le_of_ble_eq_true rfl)) ?_
                    intro w H
                    ((conv=>whnf);repeat(first|(refine mvT ?_;conv=>whnf)|(refine mvF ?_;conv=>whnf)|(refine cT (by rfl) ?_;conv=>whnf)|(refine cF (by rfl) ?_;conv=>whnf)))
                    exact ⟨(m, u, s'), ⟨rfl, rfl, rfl, rfl, rfl, rfl, rfl, rfl, rfl, rfl, rfl, rfl, rfl, trivial⟩, by rw [rdTagsF, if_pos hc]; exact hr, H⟩
                  · ((conv=>whnf);repeat(first|(refine mvT ?_;conv=>whnf)|(refine mvF ?_;conv=>whnf)|(refine cT (by rfl) ?_;conv=>whnf)|(refine cF (by rfl) ?_;conv=>whnf)))
                    exact ⟨(.map none, [], s36), ⟨rfl, rfl, rfl, rfl, rfl, rfl, rfl, rfl, rfl, rfl, rfl, rfl, rfl, trivial⟩, by rw [rdTagsF, if_neg (by rw [hc]; decide)], H.add fun w' _ => TagsR.nil _ _⟩
                clear H
                rintro ⟨m38, u38, s38⟩ w ⟨htg, H⟩
                dsimp only at htg H
                ((conv=>whnf);repeat(first|(refine mvT ?_;conv=>whnf)|(refine mvF ?_;conv=>whnf)|(refine cT (by rfl) ?_;conv=>whnf)|(refine cF (by rfl) ?_;conv=>whnf)))
                obtain ⟨P39, hP39⟩ : ∃ P : World → Prop, P = fun w => TGf w1_31 G0 m38 u38 w ∧ P31 w := ⟨_, rfl⟩
                replace H : St w1_31 G0 p31 pb31 s38 ((g31, 72, es31.flatten ++ [str u32, .int .i16 n34, .int .i16 n36, m38] ++ ((List.replicate (n31.toNat - (i31 + 1)) [str [], .int .i16 0, .int .i16 0, .map none]).flatten ++ post31)) :: []) P39 w := by rw [hP39]; exact H
                have hpart : rdPart 8 v fx dApiVersionsResponseFinalizedFeature si31 = (.mk 0 [] false [.mk 0 u32 false [] [], numT n34, numT n36] u38, s38) := by
                  unfold rdPart rdPartW
                  rw [rdTail_plain (by decide)]
                  rw [rdAll_yes (df := dfT 8) (rdField8 (by decide) hr32) ⟨by decide, has_all hv⟩, rdAll_yes (df := dfT 8) (rdField2.trans hr34) ⟨by decide, has_all hv⟩, rdAll_yes (df := dfT 8) (rdField2.trans hr36) ⟨by decide, has_all hv⟩]
                  simp only [rdAll]
                  rw [htg]
                refine ⟨i31 + 1, ⟨rfl, rfl, ?_, rfl, rfl, rfl, rfl, rfl, rfl, rfl, rfl, trivial⟩, ⟨by omega, TagI.back hgo31 (LoopI.next hes31 hez31 hrn31 hts31 (cur := [str u32, .int .i16 n34, .int .i16 n36, m38]) (x := .mk 0 [] false [.mk 0 u32 false [] [], numT n34, numT n36] u38) (hpart) rfl H fun w hP => ?_)⟩, by omega⟩
                · show some (Value.int .i32 _) = _
                  rw [IntKind.wrap_i32]
                  simp only [Option.some.injEq, Value.int.injEq, true_and]
                  omega
                · skip
                  rw [hP39] at hP
                  obtain ⟨hf39_, hP⟩ := hP
                  rw [hP31] at hP
                  exact ⟨QPt (QA1 (QF8 (by decide) u32) (QA1 (QF2 hn34) (QA1 (QF2 hn36) (QA0)))) hf39_, hP⟩
              · skip
                have hge31 : ¬ (i31 : Int) < n31 := of_decide_eq_false h9
                have hsA1 := HT.ext.size
                obtain ⟨l40, s40, hone40, hl40, hr40, hrd, hx1, hownN, hob, hlist⟩ := H.done hge31 hln31 (nl := nlF (.mk 11 0 (-1) (-1) 2 0 10 dApiVersionsResponseFinalizedFeature) v) rfl rfl (elQ_later 8 10 dApiVersionsResponseFinalizedFeature) hown hsA1
                ((conv=>whnf);repeat(first|(refine mvT ?_;conv=>whnf)|(refine mvF ?_;conv=>whnf)|(refine cT (by rfl) ?_;conv=>whnf)|(refine cF (by rfl) ?_;conv=>whnf)))
                have howq := HT.ownq hA18 hx1 fun k h => (hown.lt k h).1
                refine stm howq (v := a31) 6 (cells_one hone40) hone40 rfl (by simp) rfl (Nat.lt_of_lt_of_le (Nat.lt_succ_self _) (Nat.le_of_ble_eq_true rfl)) ?_
                obtain ⟨w5, rfl⟩ : ∃ x, x = w := ⟨w, rfl⟩
                intro w ho hx2
                ((conv=>whnf);repeat(first|(refine mvT ?_;conv=>whnf)|(refine mvF ?_;conv=>whnf)|(refine cT (by rfl) ?_;conv=>whnf)|(refine cF (by rfl) ?_;conv=>whnf)))
                have hx := (hx1.mono (M' := fun k => OwnB (.slice qa na ca) k ∨ k = p) fun _ _ h => .inl h).trans hx2 fun k _ h => .inr h
                have hoth : ∀ c, c ∈ [m, c0_0] → ∀ k, OwnB c k → wA18.heap.size ≤ k ∧ k < w1_31.heap.size := fun c hc k hk => by
                    simp only [List.mem_cons, List.not_mem_nil, or_false] at hc
                    rcases hc with rfl | rfl
                    · exact HT.tagb k hk
                    · exact ((HT.slots.1).ownL rfl).1.lt k hk
                have hnew : Slot w wA18 G0 9 (.mk 11 0 (-1) (-1) 2 0 10 dApiVersionsResponseFinalizedFeature) 72 4 [m, c0_0] [a31] (.mk 0 [] ((decide (n31 ≤ 0)) && (xc2).nl) l40 []) := Slot.read hA18 (QF11 hl40 hlist) (fun _ => ⟨_, rfl, hownN, hob⟩) hsep hoth hsA1 (fun k h => (hown.lt k h).1) hx2
                have HT2 : TgS wA18 G0 pb p ty [] [.int .i16 v, .int .i16 n1, a3, .int .i32 n15, c0_0, c1_0, a31, c3_0, m] [] [] st3 m u (fun m w => Slot w wA18 G0 9 (.mk 11 0 (-1) (-1) 0 0 10 dApiVersionsResponseSupportedFeature) 68 4 [m, a31] [c0_0] (xc0) ∧ Slot w wA18 G0 9 (.mk 4 0 (-1) (-1) 1 (-1) 0 []) 0 0 [m, c0_0, a31] [c1_0] (xc1) ∧ Slot w wA18 G0 9 (.mk 11 0 (-1) (-1) 2 0 10 dApiVersionsResponseFinalizedFeature) 72 4 [m, c0_0] [a31] (.mk 0 [] ((decide (n31 ≤ 0)) && (xc2).nl) l40 []) ∧ Slot w wA18 G0 9 (.mk 0 0 (-1) (-1) 3 0 0 []) 0 0 [m, c0_0, a31] [c3_0] (xc3)) w := HT.put hA18 hx ho (fun k h => ⟨(hown.lt k h).1, hsep m (by simp) k h⟩) ⟨Slot.other hA18 (HT.slots.1) hx (fun k h => by simp) (fun c hc k hk => by
                    simp only [List.mem_cons, List.not_mem_nil, or_false] at hc
                    rcases hc with rfl
                    all_goals first | exact (hob k hk).imp (fun h => ⟨_, by simp, h⟩) id | exact .inl ⟨_, by simp, hk⟩), Slot.other hA18 (HT.slots.2.1) hx (fun k h => by simp) (fun c hc k hk => by
                    simp only [List.mem_cons, List.not_mem_nil, or_false] at hc
                    rcases hc with rfl | rfl
                    all_goals first | exact (hob k hk).imp (fun h => ⟨_, by simp, h⟩) id | exact .inl ⟨_, by simp, hk⟩), hnew, Slot.other hA18 (HT.slots.2.2.2) hx (fun k h => by simp) (fun c hc k hk => by
                    simp only [List.mem_cons, List.not_mem_nil, or_false] at hc
                    rcases hc with rfl | rfl
                    all_goals first | exact (hob k hk).imp (fun h => ⟨_, by simp, h⟩) id | exact .inl ⟨_, by simp, hk⟩)⟩ (fun w w' m m' h hx hm => ⟨Slot.clo hA18 (h.1) hx hm, Slot.clo hA18 (h.2.1) hx hm, Slot.clo hA18 (h.2.2.1) hx hm, Slot.clo hA18 (h.2.2.2) hx hm⟩)
                have hfield : rdField 9 v fx (.mk 11 0 (-1) (-1) 2 0 10 dApiVersionsResponseFinalizedFeature) (bb, false) = (.mk 0 [] (decide (n31 ≤ 0)) l40 [], s40) := (rdField_list _ _ _ _ _ _ _ _ _ _ _).trans hr40
                refine Does.mono (Complete_does (HT2.laid HA18 hL hp1) (HT.rd2 hA18 hpb hrd hx2)) ?_
                rintro r _ ⟨hr9, rfl⟩
                cases hbd9 : s40.2 with
                | true =>
                  rw [hbd9, if_pos rfl] at hr9
                  obtain ⟨te, xe, hev⟩ := hL.iface
                  rw [hev] at hr9
                  subst hr9
                  ((conv=>whnf);repeat(first|(refine mvT ?_;conv=>whnf)|(refine mvF ?_;conv=>whnf)|(refine cT (by rfl) ?_;conv=>whnf)|(refine cF (by rfl) ?_;conv=>whnf)))
                  rw [← hev]
                  refine RdPost.fell (hup0 ?_) (HT2.ext0 HA18)
                  rw [tail_yes (rdField2.trans hr1) ⟨by decide, has_all hv⟩, tail_yes ((rdField_list _ _ _ _ _ _ _ _ _ _ _).trans hr12) ⟨by decide, has_all hv⟩, tail_ver hr15 (by decide), tail_tag (f := (.mk 11 0 (-1) (-1) 0 0 10 dApiVersionsResponseSupportedFeature)) (by decide), tail_tag (f := (.mk 4 0 (-1) (-1) 1 (-1) 0 [])) (by decide), tail_tag (f := (.mk 11 0 (-1) (-1) 2 0 10 dApiVersionsResponseFinalizedFeature)) (by decide), tail_tag (f := (.mk 0 0 (-1) (-1) 3 0 0 [])) (by decide), tail_run (by decide) hc hrun]
                  exact rdTgX_fell hu1 hu2 hsp rfl (by rw [hfield]; exact hbd9)
                | false =>
                  rw [hbd9, if_neg Bool.false_ne_true] at hr9
                  subst hr9
                  ((conv=>whnf);repeat(first|(refine mvT ?_;conv=>whnf)|(refine mvF ?_;conv=>whnf)|(refine cT (by rfl) ?_;conv=>whnf)|(refine cF (by rfl) ?_;conv=>whnf)))
                  refine ⟨j, ⟨?_, rfl, rfl, rfl, rfl, rfl, rfl, trivial⟩, ⟨st3, m, u, c0_0, c1_0, a31, c3_0, xc0, xc1, .mk 0 [] ((decide (n31 ≤ 0)) && (xc2).nl) l40 [], xc3, rdTgX_next hrun hu1 hu2 hsp rfl hfield hbd9 (by
                    show List.set _ _ (tgX _ (xc2) _) = _
                    rw [tgX_list]
                    rfl), by omega, HT2⟩, by omega⟩
                  show some (Value.int .u32 _) = _
                  rw [wrap_u32]
                  simp only [Option.some.injEq, Value.int.injEq, true_and]
                  omega
            · have hk2 : key ≠ 2 := by have h := hk2; simp at h; omega
              refine cI (by rfl) (fun hk3=>?_) (fun hk3=>?_)
              · have hk3 : key = 3 := by have h := hk3; simp at h; omega
                subst hk3
                ((conv=>whnf);repeat(first|(refine mvT ?_;conv=>whnf)|(refine mvF ?_;conv=>whnf)|(refine cT (by rfl) ?_;conv=>whnf)|(refine cF (by rfl) ?_;conv=>whnf)))
                refine Does.mono (HT.uv hA18) ?_
                rintro r w ⟨z, st2, rfl, hz, hu2, HT⟩
                ((conv=>whnf);repeat(first|(refine mvT ?_;conv=>whnf)|(refine mvF ?_;conv=>whnf)|(refine cT (by rfl) ?_;conv=>whnf)|(refine cF (by rfl) ?_;conv=>whnf)))
                rw [i64_of (n := (z : Int)) (by omega) (by omega)]
                refine Does.mono (HT.span hA18 z) ?_
                rintro r w ⟨bb, st3, hsp, hbb, HT⟩
                obtain ⟨a7, c7, rfl, _⟩ := hbb.view
                ((conv=>whnf);repeat(first|(refine mvT ?_;conv=>whnf)|(refine mvF ?_;conv=>whnf)|(refine cT (by rfl) ?_;conv=>whnf)|(refine cF (by rfl) ?_;conv=>whnf)))
                obtain ⟨w1_41, rfl⟩ : ∃ x, x = w := ⟨w, rfl⟩
                intro pb41 wb hpb hb2 hxb1
                ((conv=>whnf);repeat(first|(refine mvT ?_;conv=>whnf)|(refine mvF ?_;conv=>whnf)|(refine cT (by rfl) ?_;conv=>whnf)|(refine cF (by rfl) ?_;conv=>whnf)))
                refine st_all [.slice a7 bb.length c7, .bool false] hb2 rfl rfl rfl ?_
                intro w hb2 hxb2
                ((conv=>whnf);repeat(first|(refine mvT ?_;conv=>whnf)|(refine mvF ?_;conv=>whnf)|(refine cT (by rfl) ?_;conv=>whnf)|(refine cF (by rfl) ?_;conv=>whnf)))
                have he : Ext nob w1_41 w := hxb1.trans hxb2 fun k hk h => by omega
                obtain ⟨hG1, hb1⟩ := HT.src hA18
                have H := St.tag hb2 (hbb.e0 he) hG1 he hb1 hpb
                clear hb2 hxb1 hxb2 he
                refine Does.mono H.bool ?_
                rintro r w ⟨b42, s42, rfl, hr42, H⟩
                ((conv=>whnf);repeat(first|(refine mvT ?_;conv=>whnf)|(refine mvF ?_;conv=>whnf)|(refine cT (by rfl) ?_;conv=>whnf)|(refine cF (by rfl) ?_;conv=>whnf)))
                (refine mvB ?_;((conv=>whnf);repeat(first|(refine mvT ?_;conv=>whnf)|(refine mvF ?_;conv=>whnf)|(refine cT (by rfl) ?_;conv=>whnf)|(refine cF (by rfl) ?_;conv=>whnf))))
                refine stm (HT.own.1.e0 H.now) (v := .bool b42) 7 rfl rfl rfl (by simp) rfl (Nat.lt_of_lt_of_le (Nat.lt_succ_self _) (Nat.le_of_ble_eq_true rfl)) ?_
                intro w ho hx2
                ((conv=>whnf);repeat(first|(refine mvT ?_;conv=>whnf)|(refine mvF ?_;conv=>whnf)|(refine cT (by rfl) ?_;conv=>whnf)|(refine cF (by rfl) ?_;conv=>whnf)))
                have hx := (H.now.mono (M' := fun k => OwnB (.slice none 0 0) k ∨ k = p) fun _ _ f => f.elim).trans hx2 fun k _ h => .inr h
                have HT2 : TgS wA18 G0 pb p ty [] [.int .i16 v, .int .i16 n1, a3, .int .i32 n15, c0_0, c1_0, c2_0, .bool b42, m] [] [] st3 m u (fun m w => Slot w wA18 G0 9 (.mk 11 0 (-1) (-1) 0 0 10 dApiVersionsResponseSupportedFeature) 68 4 [m, c2_0] [c0_0] (xc0) ∧ Slot w wA18 G0 9 (.mk 4 0 (-1) (-1) 1 (-1) 0 []) 0 0 [m, c0_0, c2_0] [c1_0] (xc1) ∧ Slot w wA18 G0 9 (.mk 11 0 (-1) (-1) 2 0 10 dApiVersionsResponseFinalizedFeature) 72 4 [m, c0_0] [c2_0] (xc2) ∧ Slot w wA18 G0 9 (.mk 0 0 (-1) (-1) 3 0 0 []) 0 0 [m, c0_0, c2_0] [.bool b42] (numT (if b42 = true then 1 else 0))) w := HT.put hA18 hx ho (fun k h => absurd h (no_own k)) ⟨Slot.other hA18 (HT.slots.1) hx (fun k h => absurd h (no_own k)) fun c hc k hk => .inl ⟨c, by simp [hc], hk⟩, Slot.other hA18 (HT.slots.2.1) hx (fun k h => absurd h (no_own k)) fun c hc k hk => .inl ⟨c, by simp [hc], hk⟩, Slot.other hA18 (HT.slots.2.2.1) hx (fun k h => absurd h (no_own k)) fun c hc k hk => .inl ⟨c, by simp [hc], hk⟩, ⟨QF0 b42, fun h => absurd h (by decide)⟩⟩ (fun w w' m m' h hx hm => ⟨Slot.clo hA18 (h.1) hx hm, Slot.clo hA18 (h.2.1) hx hm, Slot.clo hA18 (h.2.2.1) hx hm, Slot.clo hA18 (h.2.2.2) hx hm⟩)
                have hfield : rdField 9 v fx (.mk 0 0 (-1) (-1) 3 0 0 []) (bb, false) = (numT (if b42 = true then 1 else 0), s42) := rdField0.trans hr42
                refine Does.mono (Complete_does (HT2.laid HA18 hL hp1) (HT.rd2 hA18 hpb H.rd hx2)) ?_
                rintro r _ ⟨hr9, rfl⟩
                cases hbd9 : s42.2 with
                | true =>
                  rw [hbd9, if_pos rfl] at hr9
                  obtain ⟨te, xe, hev⟩ := hL.iface
                  rw [hev] at hr9
                  subst hr9
                  ((conv=>whnf);repeat(first|(refine mvT ?_;conv=>whnf)|(refine mvF ?_;conv=>whnf)|(refine cT (by rfl) ?_;conv=>whnf)|(refine cF (by rfl) ?_;conv=>whnf)))
                  rw [← hev]
                  refine RdPost.fell (hup0 ?_) (HT2.ext0 HA18)
                  rw [tail_yes (rdField2.trans hr1) ⟨by decide, has_all hv⟩, tail_yes ((rdField_list _ _ _ _ _ _ _ _ _ _ _).trans hr12) ⟨by decide, has_all hv⟩, tail_ver hr15 (by decide), tail_tag (f := (.mk 11 0 (-1) (-1) 0 0 10 dApiVersionsResponseSupportedFeature)) (by decide), tail_tag (f := (.mk 4 0 (-1) (-1) 1 (-1) 0 [])) (by decide), tail_tag (f := (.mk 11 0 (-1) (-1) 2 0 10 dApiVersionsResponseFinalizedFeature)) (by decide), tail_tag (f := (.mk 0 0 (-1) (-1) 3 0 0 [])) (by decide), tail_run (by decide) hc hrun]
                  exact rdTgX_fell hu1 hu2 hsp rfl (by rw [hfield]; exact hbd9)
                | false =>
                  rw [hbd9, if_neg Bool.false_ne_true] at hr9
                  subst hr9
                  ((conv=>whnf);repeat(first|(refine mvT ?_;conv=>whnf)|(refine mvF ?_;conv=>whnf)|(refine cT (by rfl) ?_;conv=>whnf)|(refine cF (by rfl) ?_;conv=>whnf)))
                  refine ⟨j, ⟨?_, rfl, rfl, rfl, rfl, rfl, rfl, trivial⟩, ⟨st3, m, u, c0_0, c1_0, c2_0, .bool b42, xc0, xc1, xc2, numT (if b42 = true then 1 else 0), rdTgX_next hrun hu1 hu2 hsp rfl hfield hbd9 (by rw [tgX_ne (show ((.mk 0 0 (-1) (-1) 3 0 0 []) : Fd).kind ≠ 11 by decide)]; rfl), by omega, HT2⟩, by omega⟩
                  show some (Value.int .u32 _) = _
                  rw [wrap_u32]
                  simp only [Option.some.injEq, Value.int.injEq, true_and]
                  omega
              · have hk3 : key ≠ 3 := by have h := hk3; simp at h; omega
                ((conv=>whnf);repeat(first|(refine mvT ?_;conv=>whnf)|(refine mvF ?_;conv=>whnf)|(refine cT (by rfl) ?_;conv=>whnf)|(refine cF (by rfl) ?_;conv=>whnf)))
                refine VD.draw mixed (.q 0 (.q 1 (.q 2 (.q 3 (.eff 4 [] (.q 5 (.eff 6 [] (.eff 7 [] (.done))))))))) (by kernel_rfl) ?_;((conv=>whnf);repeat(first|(refine mvT ?_;conv=>whnf)|(refine mvF ?_;conv=>whnf)|(refine cT (by rfl) ?_;conv=>whnf)|(refine cF (by rfl) ?_;conv=>whnf)))
                replace HT := HT.e0 (ext_drew _)
                skip
                refine Does.mono (HT.uv hA18) ?_
                rintro r w ⟨z, st2, rfl, hz, hu2, HT⟩
                ((conv=>whnf);repeat(first|(refine mvT ?_;conv=>whnf)|(refine mvF ?_;conv=>whnf)|(refine cT (by rfl) ?_;conv=>whnf)|(refine cF (by rfl) ?_;conv=>whnf)))
                rw [i64_of (n := (z : Int)) (by omega) (by omega)]
                refine Does.mono (HT.span hA18 z) ?_
                rintro r w ⟨bb, st3, hsp, hbb, HT⟩
                obtain ⟨a7, c7, rfl, _⟩ := hbb.view
                ((conv=>whnf);repeat(first|(refine mvT ?_;conv=>whnf)|(refine mvF ?_;conv=>whnf)|(refine cT (by rfl) ?_;conv=>whnf)|(refine cF (by rfl) ?_;conv=>whnf)))
                refine Does.mono (HT.set hA18 (om := 8) (key := key) (b := bb) rfl (by simp) hbb) ?_
                rintro r w ⟨m', HT⟩
                ((conv=>whnf);repeat(first|(refine mvT ?_;conv=>whnf)|(refine mvF ?_;conv=>whnf)|(refine cT (by rfl) ?_;conv=>whnf)|(refine cF (by rfl) ?_;conv=>whnf)))
                have htag : tagIx dApiVersionsResponse 0 key = none := tagIx_no fun f hf => by
                  simp only [dApiVersionsResponse, List.mem_cons, List.not_mem_nil, or_false] at hf
                  rcases hf with rfl | rfl | rfl | rfl | rfl | rfl | rfl <;> (simp only [Fd.tag]; omega)
                refine ⟨j, ⟨?_, rfl, rfl, rfl, rfl, rfl, rfl, trivial⟩, ⟨st3, m', _, _, _, _, _, _, _, _, _, (rdTgX_none hu1 hu2 hsp htag).symm.trans hrun, by omega, HT⟩, by omega⟩
                show some (Value.int .u32 _) = _
                rw [wrap_u32]
                simp only [Option.some.injEq, Value.int.injEq, true_and]
                omega
      · have hi0 : i = 0 := by have := of_decide_eq_false h9; omega
        subst hi0
        ((conv=>whnf);repeat(first|(refine mvT ?_;conv=>whnf)|(refine mvF ?_;conv=>whnf)|(refine cT (by rfl) ?_;conv=>whnf)|(refine cF (by rfl) ?_;conv=>whnf)))
        have H := TgS.out HA18 HT
        have H := Slot.out HA18 (HT.slots.1) H
        have H := Slot.out HA18 (HT.slots.2.1) H
        have H := Slot.out HA18 (HT.slots.2.2.1) H
        have H := Slot.out HA18 (HT.slots.2.2.2) H
        exact ⟨(m, u, st, c0_0, xc0, c1_0, xc1, c2_0, xc2, c3_0, xc3), ⟨rfl, rfl, rfl, rfl, rfl, rfl, trivial⟩, tail_end (by decide) hc hrun, H⟩
    · ((conv=>whnf);repeat(first|(refine mvT ?_;conv=>whnf)|(refine mvF ?_;conv=>whnf)|(refine cT (by rfl) ?_;conv=>whnf)|(refine cF (by rfl) ?_;conv=>whnf)))
      have H := H.add (Q := fun w => TGf w0 G0 (.map none) [] w) fun w' _ => TagsR.nil _ _
      have H := H.add (Q := fun w => QField true 9 (.mk 11 0 (-1) (-1) 0 0 10 dApiVersionsResponseSupportedFeature) ⟨w, FG w0 G0⟩ [.slice none 0 0] (.mk 0 [] true [] [])) fun w' _ => QF11 (fun _ => rfl) (.inl ⟨rfl, rfl⟩)
      have H := H.add (Q := fun w => QField true 9 (.mk 4 0 (-1) (-1) 1 (-1) 0 []) ⟨w, FG w0 G0⟩ [.int .i64 (-1)] (numT (-1))) fun w' _ => QF4 rfl
      have H := H.add (Q := fun w => QField true 9 (.mk 11 0 (-1) (-1) 2 0 10 dApiVersionsResponseFinalizedFeature) ⟨w, FG w0 G0⟩ [.slice none 0 0] (.mk 0 [] true [] [])) fun w' _ => QF11 (fun _ => rfl) (.inl ⟨rfl, rfl⟩)
      have H := H.add (Q := fun w => QField true 9 (.mk 0 0 (-1) (-1) 3 0 0 []) ⟨w, FG w0 G0⟩ [.bool false] (numT (if false = true then 1 else 0))) fun w' _ => QF0 false
      exact ⟨(.map none, [], s15, .slice none 0 0, .mk 0 [] true [] [], .int .i64 (-1), numT (-1), .slice none 0 0, .mk 0 [] true [] [], .bool false, numT (if false = true then 1 else 0)), ⟨rfl, rfl, rfl, rfl, rfl, rfl, trivial⟩, tail_none (by decide) hc, H⟩
  clear H
  rintro ⟨m43, u43, s43, t43_0_0, xt43_0, t43_1_0, xt43_1, t43_2_0, xt43_2, t43_3_0, xt43_3⟩ w ⟨htl, H⟩
  dsimp only at htl H
  ((conv=>whnf);repeat(first|(refine mvT ?_;conv=>whnf)|(refine mvF ?_;conv=>whnf)|(refine cT (by rfl) ?_;conv=>whnf)|(refine cF (by rfl) ?_;conv=>whnf)))
  obtain ⟨P44, hP44⟩ : ∃ P : World → Prop, P = fun w => TGf w0 G0 m43 u43 w ∧ P13 w := ⟨_, rfl⟩
  obtain ⟨P45, hP45⟩ : ∃ P : World → Prop, P = fun w => QField true 9 (.mk 11 0 (-1) (-1) 0 0 10 dApiVersionsResponseSupportedFeature) ⟨w, FG w0 G0⟩ [t43_0_0] (xt43_0) ∧ P44 w := ⟨_, rfl⟩
  obtain ⟨P46, hP46⟩ : ∃ P : World → Prop, P = fun w => QField true 9 (.mk 4 0 (-1) (-1) 1 (-1) 0 []) ⟨w, FG w0 G0⟩ [t43_1_0] (xt43_1) ∧ P45 w := ⟨_, rfl⟩
  obtain ⟨P47, hP47⟩ : ∃ P : World → Prop, P = fun w => QField true 9 (.mk 11 0 (-1) (-1) 2 0 10 dApiVersionsResponseFinalizedFeature) ⟨w, FG w0 G0⟩ [t43_2_0] (xt43_2) ∧ P46 w := ⟨_, rfl⟩
  obtain ⟨P48, hP48⟩ : ∃ P : World → Prop, P = fun w => QField true 9 (.mk 0 0 (-1) (-1) 3 0 0 []) ⟨w, FG w0 G0⟩ [t43_3_0] (xt43_3) ∧ P47 w := ⟨_, rfl⟩
  replace H : St w0 G0 p pb s43 ((p, ty, [] ++ [.int .i16 v, .int .i16 n1, a3, .int .i32 n15, t43_0_0, t43_1_0, t43_2_0, t43_3_0, m43] ++ []) :: []) P48 w := by rw [hP48, hP47, hP46, hP45, hP44]; exact H
  have hall : rdAll (rdField 9 v fx) (dfT 9) v dApiVersionsResponse (l, false) = ([numT n1, .mk 0 [] (decide (n3 ≤ 0)) l12 [], numT n15, .mk 0 [] true [] [], numT (-1), .mk 0 [] true [] [], numT (if false = true then 1 else 0)], s15) := by
    rw [rdAll_yes (df := dfT 9) (rdField2.trans hr1) ⟨by decide, has_all hv⟩, rdAll_yes (df := dfT 9) ((rdField_list _ _ _ _ _ _ _ _ _ _ _).trans hr12) ⟨by decide, has_all hv⟩, rdAll_ver hr15 (by decide), rdAll_tag (f := (.mk 11 0 (-1) (-1) 0 0 10 dApiVersionsResponseSupportedFeature)) (by decide), rdAll_tag (f := (.mk 4 0 (-1) (-1) 1 (-1) 0 [])) (by decide), rdAll_tag (f := (.mk 11 0 (-1) (-1) 2 0 10 dApiVersionsResponseFinalizedFeature)) (by decide), rdAll_tag (f := (.mk 0 0 (-1) (-1) 3 0 0 [])) (by decide)]
    rfl
  have hpart : rdPart 9 v fx dApiVersionsResponse (l, false) = (.mk 0 [] false [numT n1, .mk 0 [] (decide (n3 ≤ 0)) l12 [], numT n15, xt43_0, xt43_1, xt43_2, xt43_3] u43, s43) := by
    simp only [rdPart, rdPartW, hall, htl]
  refine Does.mono (H.done hL hp1) ?_
  rintro r w ⟨rfl, H⟩
  ((conv=>whnf);repeat(first|(refine mvT ?_;conv=>whnf)|(refine mvF ?_;conv=>whnf)|(refine cT (by rfl) ?_;conv=>whnf)|(refine cF (by rfl) ?_;conv=>whnf)))
  refine RdPost.end hpart H fun hP => ?_
  rw [hP48] at hP
  obtain ⟨hf48_, hP⟩ := hP
  rw [hP47] at hP
  obtain ⟨hf47_, hP⟩ := hP
  rw [hP46] at hP
  obtain ⟨hf46_, hP⟩ := hP
  rw [hP45] at hP
  obtain ⟨hf45_, hP⟩ := hP
  rw [hP44] at hP
  obtain ⟨hf44_, hP⟩ := hP
  rw [hP13] at hP
  obtain ⟨hf13_, hP⟩ := hP
  exact QPt (QA1 (QF2 hn1) (QA1 (QF11 hl12 hf13_) (QA1 (QF3 hn15) (QA1 (hf45_) (QA1 (hf46_) (QA1 (hf47_) (QA1 (hf48_) (QA0)))))))) hf44_
end Go.Proofs.YtabhhkdgfdjicaaDoor.K
