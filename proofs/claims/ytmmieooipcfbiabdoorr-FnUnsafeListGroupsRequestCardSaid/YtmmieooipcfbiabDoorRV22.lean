
/- Reading of ListGroupsRequest. -/
import Derived.Test.YtmmieooipcfbiabDoorRE5
set_option linter.unusedVariables false
set_option linter.unusedSimpArgs false
namespace Go.Proofs.YtmmieooipcfbiabDoorR.K
open Go
set_option maxHeartbeats 4000000
set_option maxRecDepth 100000

abbrev dListGroupsRequest : List Fd := [.mk 11 4 (-1) (-1) (-1) 0 8 [], .mk 11 5 (-1) (-1) (-1) 0 8 []]
theorem dfListGroupsRequest {w : World} {q o : Nat} {T : TypeId} {pre cur post : List Value} (ho : Own w q T (pre ++ cur ++ post)) (hp : pre.length = o) (hl : cur.length = 4) :
    Does X.P 52 #[.pointer (some ⟨q, o, none⟩)] w fun r w' => Own w' q T (pre ++ cur ++ post) ∧ Ext (fun k => k = q) w w' := by
  have hx : Ext (fun k => k = q) w w := Ext.refl _ _
  refine Does.go (X := X) (l := [_]) Tryd.func52 rfl (by kernel_rfl) (by kernel_rfl) _ rfl ?_
  ((conv=>whnf);repeat(first|(refine mvT ?_;conv=>whnf)|(refine mvF ?_;conv=>whnf)|(refine cT (by rfl) ?_;conv=>whnf)|(refine cF (by rfl) ?_;conv=>whnf)))
  exact ⟨ho, hx⟩
theorem readListGroupsRequest {w0 : World} {F : Nat → Prop} {p : Nat} {ty : TypeId} {v : Int} {x ev : Value} {l : List UInt8} (hL : Laid w0 ev) (hp : Own w0 p ty [.int .i16 v, .slice none 0 0, .slice none 0 0, .map none]) (hx : Bytes w0 F x l) (hF : ∀ k, F k → k ≠ p) (hv : 0 ≤ v) (hp1 : p ≠ errG) :
    Does X.P 53 #[.pointer (some ⟨p, 0, none⟩), x, .bool false] w0 fun r w' => RdPost w0 p ty v (decide (v ≥ 3)) true dListGroupsRequest ev l r w' := by
  have hpl := hp.lt
  obtain ⟨fx, hfx⟩ : ∃ fx, fx = decide (v ≥ 3) := ⟨_, rfl⟩
  rw [← hfx]
  obtain ⟨G0, hG0, hx⟩ : ∃ G0 : Nat → Prop, (∀ k, G0 k → k < w0.heap.size ∧ k ≠ p) ∧ Bytes w0 G0 x l := ⟨fun k => F k ∧ k < w0.heap.size, fun k h => ⟨h.2, hF k h.1⟩, Sl.mono hx fun k hk h => ⟨h, hk⟩⟩
  obtain ⟨a0, c0, rfl, _⟩ := hx.view
  refine Does.go (X := X) (l := [_, _, _]) Tryd.func53 rfl (by kernel_rfl) (by kernel_rfl) _ rfl ?_
  ((conv=>whnf);repeat(first|(refine mvT ?_;conv=>whnf)|(refine mvF ?_;conv=>whnf)|(refine cT (by rfl) ?_;conv=>whnf)|(refine cF (by rfl) ?_;conv=>whnf)))
  refine Does.mono (dfListGroupsRequest (pre := []) (cur := [.int .i16 v, .slice none 0 0, .slice none 0 0, .map none]) (post := []) (by simpa using hp) rfl rfl) ?_
  rintro rd wd ⟨hpd, hxd⟩
  ((conv=>whnf);repeat(first|(refine mvT ?_;conv=>whnf)|(refine mvF ?_;conv=>whnf)|(refine cT (by rfl) ?_;conv=>whnf)|(refine cF (by rfl) ?_;conv=>whnf)))
  intro pb w1 hpb hb hx1
  ((conv=>whnf);repeat(first|(refine mvT ?_;conv=>whnf)|(refine mvF ?_;conv=>whnf)|(refine cT (by rfl) ?_;conv=>whnf)|(refine cF (by rfl) ?_;conv=>whnf)))
  refine st_all [.slice a0 l.length c0, .bool false] hb rfl rfl rfl ?_
  intro w hb hx2
  ((conv=>whnf);repeat(first|(refine mvT ?_;conv=>whnf)|(refine mvF ?_;conv=>whnf)|(refine cT (by rfl) ?_;conv=>whnf)|(refine cF (by rfl) ?_;conv=>whnf)))
  have hsd := hxd.size
  have hwp : w0.heap.size ≤ pb := by omega
  have he1 : Ext nob wd w := hx1.trans hx2 fun k hk h => by omega
  have hpw : Own w p ty [.int .i16 v, .slice none 0 0, .slice none 0 0, .map none] := by have := hpd.e0 he1; simpa using this
  have he := hxd.tr0 he1
  have H := St.init hpw hb (hx.ext he fun k _ h => (hG0 k h).2) hG0 he hpl hwp
  clear hpd hxd hx1 hx2 hb hpw he1 hp
  refine ldS (H.cell (o := 0) rfl (k := 0) rfl) ?_;((conv=>whnf);repeat(first|(refine mvT ?_;conv=>whnf)|(refine mvF ?_;conv=>whnf)|(refine cT (by rfl) ?_;conv=>whnf)|(refine cF (by rfl) ?_;conv=>whnf)))
  rw [← hfx]
  (refine mvB ?_;((conv=>whnf);repeat(first|(refine mvT ?_;conv=>whnf)|(refine mvF ?_;conv=>whnf)|(refine cT (by rfl) ?_;conv=>whnf)|(refine cF (by rfl) ?_;conv=>whnf))))
  have hup0 : tailBad 9 v fx dListGroupsRequest (l, false) = true → (rdPart 9 v fx dListGroupsRequest (l, false)).2.2 = true := id
  refine VC.cutE (fun q : Value × Bool × List T × Rd => [(0, .pointer (some ⟨p, 0, none⟩)), (2, .bool false), (7, .pointer (some ⟨pb, 0, none⟩)), (8, .int .i16 v), (9, .bool fx), (10, .pointer (some ⟨p, 0, none⟩))]) (fun q w' => (q.2.1 = true → q.2.2.1 = []) ∧ (if hasF (.mk 11 4 (-1) (-1) (-1) 0 8 []) v = true then rdField 9 v fx (.mk 11 4 (-1) (-1) (-1) 0 8 []) (l, false) else (dfT 9 (.mk 11 4 (-1) (-1) (-1) 0 8 []), (l, false))) = (.mk 0 [] q.2.1 q.2.2.1 [], q.2.2.2) ∧ St w0 G0 p pb q.2.2.2 ((p, ty, [] ++ [.int .i16 v, q.1, .slice none 0 0, .map none] ++ []) :: []) (fun w => ListR true (elZ true 8 8 []) (elQ true 8 8 [] ⟨w, fun k => k ≠ p⟩) w (fun k => k ≠ p) q.1 (.mk 0 [] (q.2.1) q.2.2.1 []) ∧ (fun _ => True) w) w') ?_ ?_
  · refine cI (by rfl) (fun hcv=>?_) (fun hcv=>?_)
    · have hh : hasF (.mk 11 4 (-1) (-1) (-1) 0 8 []) v = true := by have := of_decide_eq_true hcv; rw [hasF_iff]; omega
      ((conv=>whnf);repeat(first|(refine mvT ?_;conv=>whnf)|(refine mvF ?_;conv=>whnf)|(refine cT (by rfl) ?_;conv=>whnf)|(refine cF (by rfl) ?_;conv=>whnf)))
      refine ldS (H.cell (o := 0) rfl (k := 1) rfl) ?_;((conv=>whnf);repeat(first|(refine mvT ?_;conv=>whnf)|(refine mvF ?_;conv=>whnf)|(refine cT (by rfl) ?_;conv=>whnf)|(refine cF (by rfl) ?_;conv=>whnf)))
      (refine mvB ?_;((conv=>whnf);repeat(first|(refine mvT ?_;conv=>whnf)|(refine mvF ?_;conv=>whnf)|(refine cT (by rfl) ?_;conv=>whnf)|(refine cF (by rfl) ?_;conv=>whnf))))
      refine VC.cutE (fun q : Int × Rd => [(13, .int .i32 q.1), (12, .slice none 0 0), (0, .pointer (some ⟨p, 0, none⟩)), (2, .bool false), (7, .pointer (some ⟨pb, 0, none⟩)), (8, .int .i16 v), (9, .bool fx), (10, .pointer (some ⟨p, 0, none⟩))]) (fun q w' => (-2147483648 ≤ q.1 ∧ q.1 ≤ 2147483647) ∧ rdLn fx (l, false) = q ∧ St w0 G0 p pb q.2 ((p, ty, [] ++ [.int .i16 v, .slice none 0 0, .slice none 0 0, .map none] ++ []) :: []) (fun _ => True) w') ?_ ?_
      · refine cI (by rfl) (fun hc=>?_) (fun hc=>?_)
        · ((conv=>whnf);repeat(first|(refine mvT ?_;conv=>whnf)|(refine mvF ?_;conv=>whnf)|(refine cT (by rfl) ?_;conv=>whnf)|(refine cF (by rfl) ?_;conv=>whnf)))
          refine Does.mono H.lnc ?_
          rintro r w ⟨n, s', rfl, hn, hr, H⟩
          ((conv=>whnf);repeat(first|(refine mvT ?_;conv=>whnf)|(refine mvF ?_;conv=>whnf)|(refine cT (by rfl) ?_;conv=>whnf)|(refine cF (by rfl) ?_;conv=>whnf)))
          exact ⟨(n, s'), ⟨rfl, rfl, rfl, rfl, rfl, rfl, rfl, rfl, trivial⟩, hn, by rw [hc]; exact hr, H⟩
        · ((conv=>whnf);repeat(first|(refine mvT ?_;conv=>whnf)|(refine mvF ?_;conv=>whnf)|(refine cT (by rfl) ?_;conv=>whnf)|(refine cF (by rfl) ?_;conv=>whnf)))
          refine Does.mono H.lnp ?_
          rintro r w ⟨n, s', rfl, hn, hr, H⟩
          ((conv=>whnf);repeat(first|(refine mvT ?_;conv=>whnf)|(refine mvF ?_;conv=>whnf)|(refine cT (by rfl) ?_;conv=>whnf)|(refine cF (by rfl) ?_;conv=>whnf)))
          exact ⟨(n, s'), ⟨rfl, rfl, rfl, rfl, rfl, rfl, rfl, rfl, trivial⟩, hn, by rw [hc]; exact hr, H⟩
      clear H
      rintro ⟨n2, s2⟩ w ⟨hn2, hln2, H⟩
      dsimp only at hn2 hln2 H
      ((conv=>whnf);repeat(first|(refine mvT ?_;conv=>whnf)|(refine mvF ?_;conv=>whnf)|(refine cT (by rfl) ?_;conv=>whnf)|(refine cF (by rfl) ?_;conv=>whnf)))
      refine Does.mono H.ok ?_
      rintro r w ⟨rfl, H⟩
      ((conv=>whnf);repeat(first|(refine mvT ?_;conv=>whnf)|(refine mvF ?_;conv=>whnf)|(refine cT (by rfl) ?_;conv=>whnf)|(refine cF (by rfl) ?_;conv=>whnf)))
      refine cI (by rfl) (fun hbd=>?_) (fun hbd=>?_)
      · have hbd : s2.2 = true := by simpa using hbd
        ((conv=>whnf);repeat(first|(refine mvT ?_;conv=>whnf)|(refine mvF ?_;conv=>whnf)|(refine cT (by rfl) ?_;conv=>whnf)|(refine cF (by rfl) ?_;conv=>whnf)))
        refine Does.mono (H.done hL hp1) ?_
        rintro r w ⟨rfl, H⟩
        ((conv=>whnf);repeat(first|(refine mvT ?_;conv=>whnf)|(refine mvF ?_;conv=>whnf)|(refine cT (by rfl) ?_;conv=>whnf)|(refine cF (by rfl) ?_;conv=>whnf)))
        refine RdPost.early hbd (hup0 (?_)) H
        rw [tail_len ⟨by decide, hh⟩ hln2 hbd]
      have hbd : s2.2 = false := by simpa using hbd
      clear hbd
      ((conv=>whnf);repeat(first|(refine mvT ?_;conv=>whnf)|(refine mvF ?_;conv=>whnf)|(refine cT (by rfl) ?_;conv=>whnf)|(refine cF (by rfl) ?_;conv=>whnf)))
      refine cut_zero ?_
      ((conv=>whnf);repeat(first|(refine mvT ?_;conv=>whnf)|(refine mvF ?_;conv=>whnf)|(refine cT (by rfl) ?_;conv=>whnf)|(refine cF (by rfl) ?_;conv=>whnf)))
      refine VC.cutE (fun a : Value => [(13, .int .i32 n2), (12, a), (0, .pointer (some ⟨p, 0, none⟩)), (2, .bool false), (7, .pointer (some ⟨pb, 0, none⟩)), (8, .int .i16 v), (9, .bool fx), (10, .pointer (some ⟨p, 0, none⟩))]) (fun a w' => ListI w0 G0 p pb 9 [str []] (elR 8 v fx 8 []) (elQ true 8 8 []) s2 n2 (decide (n2 ≤ 0)) ((p, ty, [] ++ [.int .i16 v, .slice none 0 0, .slice none 0 0, .map none] ++ []) :: []) (fun _ => True) a 0 w') ?_ ?_
      · refine cI (by rfl) (fun hps=>?_) (fun hps=>?_)
        · have hps : 0 < n2 := by have := of_decide_eq_true hps; omega
          ((conv=>whnf);repeat(first|(refine mvT ?_;conv=>whnf)|(refine mvF ?_;conv=>whnf)|(refine cT (by rfl) ?_;conv=>whnf)|(refine cF (by rfl) ?_;conv=>whnf)))
          refine H.grow hps hn2.2 (by decide) rfl rfl (by decide) ?_
          intro g cap post w hc1 hc2 H
          ((conv=>whnf);repeat(first|(refine mvT ?_;conv=>whnf)|(refine mvF ?_;conv=>whnf)|(refine cT (by rfl) ?_;conv=>whnf)|(refine cF (by rfl) ?_;conv=>whnf)))
          exact ⟨_, ⟨rfl, rfl, rfl, rfl, rfl, rfl, rfl, rfl, trivial⟩, ListI.some hps (decide_eq_false (by omega)) hc1 hc2 H⟩
        · have hps : n2 ≤ 0 := by have := of_decide_eq_false hps; omega
          ((conv=>whnf);repeat(first|(refine mvT ?_;conv=>whnf)|(refine mvF ?_;conv=>whnf)|(refine cT (by rfl) ?_;conv=>whnf)|(refine cF (by rfl) ?_;conv=>whnf)))
          exact ⟨_, ⟨rfl, rfl, rfl, rfl, rfl, rfl, rfl, rfl, trivial⟩, ListI.none hps (decide_eq_true hps) H⟩
      clear H
      rintro a2 w H
      ((conv=>whnf);repeat(first|(refine mvT ?_;conv=>whnf)|(refine mvF ?_;conv=>whnf)|(refine cT (by rfl) ?_;conv=>whnf)|(refine cF (by rfl) ?_;conv=>whnf)))
      have hpL2 : inL ((p, ty, [] ++ [.int .i16 v, .slice none 0 0, .slice none 0 0, .map none] ++ []) :: []) p := inL.head _ _
      refine VL.loop (fun i : Nat => [(13, .int .i32 n2), (12, a2), (14, .int .i32 i), (0, .pointer (some ⟨p, 0, none⟩)), (2, .bool false), (7, .pointer (some ⟨pb, 0, none⟩)), (8, .int .i16 v), (9, .bool fx), (10, .pointer (some ⟨p, 0, none⟩))]) (fun i w' => i ≤ 2147483647 ∧ ListI w0 G0 p pb 9 [str []] (elR 8 v fx 8 []) (elQ true 8 8 []) s2 n2 (decide (n2 ≤ 0)) ((p, ty, [] ++ [.int .i16 v, .slice none 0 0, .slice none 0 0, .map none] ++ []) :: []) (fun _ => True) a2 i w') (fun i => n2.toNat - i) 0 ⟨rfl, rfl, rfl, rfl, rfl, rfl, rfl, rfl, rfl, trivial⟩ ⟨by decide, H⟩ ?_
      clear H
      rintro i2 w ⟨hi2, H⟩
      ((conv=>whnf);repeat(first|(refine mvT ?_;conv=>whnf)|(refine mvF ?_;conv=>whnf)|(refine cT (by rfl) ?_;conv=>whnf)|(refine cF (by rfl) ?_;conv=>whnf)))
      refine cI (by rfl) (fun h9=>?_) (fun h9=>?_)
      · have hlt2 : (i2 : Int) < n2 := of_decide_eq_true h9
        obtain ⟨g2, cap2, post2, rfl, hgo2, HI⟩ := H.go hlt2
        obtain ⟨es2, ts2, si2, hes2, hez2, hrn2, hts2, hlen1, H⟩ := HI.open hgo2.2.2.2.2
        obtain ⟨L2, hL2⟩ : ∃ L : List Ob, L = ((p, ty, [] ++ [.int .i16 v, .slice none 0 0, .slice none 0 0, .map none] ++ []) :: []) := ⟨_, rfl⟩
        rw [← hL2] at H hpL2
        obtain ⟨P2, hP2⟩ : ∃ P : World → Prop, P = fun w => (∀ (j : Nat) (c : List Value) (y : T), es2[j]? = some c → ts2[j]? = some y → elQ true 8 8 [] ⟨w, fun k => k ≠ p⟩ c y) ∧ (fun _ => True) w := ⟨_, rfl⟩
        rw [← hP2] at H
        replace H : St w0 G0 p pb si2 ((g2, 9, es2.flatten ++ [str []] ++ ((List.replicate (n2.toNat - (i2 + 1)) [str []]).flatten ++ post2)) :: L2) P2 w := H
        ((conv=>whnf);repeat(first|(refine mvT ?_;conv=>whnf)|(refine mvF ?_;conv=>whnf)|(refine cT (by rfl) ?_;conv=>whnf)|(refine cF (by rfl) ?_;conv=>whnf)))
        (refine mvB ?_;((conv=>whnf);repeat(first|(refine mvT ?_;conv=>whnf)|(refine mvF ?_;conv=>whnf)|(refine cT (by rfl) ?_;conv=>whnf)|(refine cF (by rfl) ?_;conv=>whnf))))
        refine VC.cutE (fun q : List UInt8 × Rd => [(15, str q.1), (0, .pointer (some ⟨p, 0, none⟩)), (2, .bool false), (7, .pointer (some ⟨pb, 0, none⟩)), (8, .int .i16 v), (9, .bool fx), (10, .pointer (some ⟨p, 0, none⟩)), (13, .int .i32 n2), (12, .slice (some ⟨g2, 0, none⟩) n2.toNat cap2), (14, .int .i32 i2)]) (fun q w' => rdTx fx si2 = q ∧ St w0 G0 p pb q.2 ((g2, 9, es2.flatten ++ [str []] ++ ((List.replicate (n2.toNat - (i2 + 1)) [str []]).flatten ++ post2)) :: L2) P2 w') ?_ ?_
        · refine cI (by rfl) (fun hc=>?_) (fun hc=>?_)
          · ((conv=>whnf);repeat(first|(refine mvT ?_;conv=>whnf)|(refine mvF ?_;conv=>whnf)|(refine cT (by rfl) ?_;conv=>whnf)|(refine cF (by rfl) ?_;conv=>whnf)))
            refine Does.mono H.txc ?_
            rintro r w ⟨u, s', rfl, hr, H⟩
            ((conv=>whnf);repeat(first|(refine mvT ?_;conv=>whnf)|(refine mvF ?_;conv=>whnf)|(refine cT (by rfl) ?_;conv=>whnf)|(refine cF (by rfl) ?_;conv=>whnf)))
            exact ⟨(u, s'), ⟨rfl, rfl, rfl, rfl, rfl, rfl, rfl, rfl, rfl, rfl, trivial⟩, by rw [hc]; exact hr, H⟩
          · ((conv=>whnf);repeat(first|(refine mvT ?_;conv=>whnf)|(refine mvF ?_;conv=>whnf)|(refine cT (by rfl) ?_;conv=>whnf)|(refine cF (by rfl) ?_;conv=>whnf)))
            refine Does.mono H.txp ?_
            rintro r w ⟨u, s', rfl, hr, H⟩
            ((conv=>whnf);repeat(first|(refine mvT ?_;conv=>whnf)|(refine mvF ?_;conv=>whnf)|(refine cT (by rfl) ?_;conv=>whnf)|(refine cF (by rfl) ?_;conv=>whnf)))
            exact ⟨(u, s'), ⟨rfl, rfl, rfl, rfl, rfl, rfl, rfl, rfl, rfl, rfl, trivial⟩, by rw [hc]; exact hr, H⟩
        clear H
        rintro ⟨u3, s3⟩ w ⟨hr3, H⟩
        dsimp only at hr3 H
        ((conv=>whnf);repeat(first|(refine mvT ?_;conv=>whnf)|(refine mvF ?_;conv=>whnf)|(refine cT (by rfl) ?_;conv=>whnf)|(refine cF (by rfl) ?_;conv=>whnf)))
        refine ⟨g2, 0, rfl, ⟨by omega, by omega⟩, ?_⟩
        ((conv=>whnf);repeat(first|(refine mvT ?_;conv=>whnf)|(refine mvF ?_;conv=>whnf)|(refine cT (by rfl) ?_;conv=>whnf)|(refine cF (by rfl) ?_;conv=>whnf)))
        refine H.st1 (v := str u3) 0 (rfl) (rfl) rfl (by first | omega | (simp [hlen1]; done) | (simp [hlen1]; omega)) rfl (Nat.lt_of_lt_of_le (Nat.lt_succ_self _) (Nat.le_of_ble_eq_true rfl)) ?_
        intro w H
        ((conv=>whnf);repeat(first|(refine mvT ?_;conv=>whnf)|(refine mvF ?_;conv=>whnf)|(refine cT (by rfl) ?_;conv=>whnf)|(refine cF (by rfl) ?_;conv=>whnf)))
        replace H : St w0 G0 p pb s3 ((g2, 9, es2.flatten ++ [str u3] ++ ((List.replicate (n2.toNat - (i2 + 1)) [str []]).flatten ++ post2)) :: L2) P2 w := H
        refine ⟨i2 + 1, ⟨rfl, rfl, ?_, rfl, rfl, rfl, rfl, rfl, rfl, trivial⟩, ⟨by omega, ListI.back hgo2 (LoopI.next hes2 hez2 hrn2 hts2 (cur := [str u3]) (x := .mk 0 u3 false [] []) (elR8 hr3) rfl (by rw [← hL2]; exact H) fun w hP => ?_)⟩, by omega⟩
        · show some (Value.int .i32 _) = _
          rw [IntKind.wrap_i32]
          simp only [Option.some.injEq, Value.int.injEq, true_and]
          omega
        · skip
          rw [hP2] at hP
          exact ⟨⟨_, rfl, rfl⟩, hP⟩
      have hge2 : ¬ (i2 : Int) < n2 := of_decide_eq_false h9
      obtain ⟨l4, s4, hone4, hl4, hr4, H⟩ := H.done hge2 hln2 (nl := nlF (.mk 11 4 (-1) (-1) (-1) 0 8 []) v) (sz := elZ true 8 8 []) rfl hpL2 rfl
      ((conv=>whnf);repeat(first|(refine mvT ?_;conv=>whnf)|(refine mvF ?_;conv=>whnf)|(refine cT (by rfl) ?_;conv=>whnf)|(refine cF (by rfl) ?_;conv=>whnf)))
      obtain ⟨P5, hP5⟩ : ∃ P : World → Prop, P = fun w => ListR true (elZ true 8 8 []) (elQ true 8 8 [] ⟨w, fun k => k ≠ p⟩) w (fun k => k ≠ p) a2 (.mk 0 [] (decide (n2 ≤ 0)) l4 []) ∧ (fun _ => True) w := ⟨_, rfl⟩
      replace H : St w0 G0 p pb s4 ((p, ty, [] ++ [.int .i16 v, .slice none 0 0, .slice none 0 0, .map none] ++ []) :: []) P5 w := by rw [hP5]; exact H
      refine H.st1 (v := a2) 1 (cells_one hone4) (hone4) rfl (by simp) rfl (Nat.lt_of_lt_of_le (Nat.lt_succ_self _) (Nat.le_of_ble_eq_true rfl)) ?_
      intro w H
      ((conv=>whnf);repeat(first|(refine mvT ?_;conv=>whnf)|(refine mvF ?_;conv=>whnf)|(refine cT (by rfl) ?_;conv=>whnf)|(refine cF (by rfl) ?_;conv=>whnf)))
      replace H : St w0 G0 p pb s4 ((p, ty, [] ++ [.int .i16 v, a2, .slice none 0 0, .map none] ++ []) :: []) P5 w := H
      exact ⟨(a2, decide (n2 ≤ 0), l4, s4), ⟨rfl, rfl, rfl, rfl, rfl, rfl, trivial⟩, hl4, by rw [if_pos hh]; exact ((rdField_list _ _ _ _ _ _ _ _ _ _ _).trans hr4), by rw [hP5] at H; exact H⟩
    · ((conv=>whnf);repeat(first|(refine mvT ?_;conv=>whnf)|(refine mvF ?_;conv=>whnf)|(refine cT (by rfl) ?_;conv=>whnf)|(refine cF (by rfl) ?_;conv=>whnf)))
      have hh : ¬ hasF (.mk 11 4 (-1) (-1) (-1) 0 8 []) v = true := by have := of_decide_eq_false hcv; rw [hasF_iff]; omega
      exact ⟨(.slice none 0 0, true, [], (l, false)), ⟨rfl, rfl, rfl, rfl, rfl, rfl, trivial⟩, fun _ => rfl, by rw [if_neg hh]; rfl, H.add fun w' _ => .inl ⟨rfl, rfl⟩⟩
  clear H
  rintro ⟨c1, nl1, l1, s1⟩ w ⟨hnl1, hr1, H⟩
  dsimp only at hnl1 hr1 H
  ((conv=>whnf);repeat(first|(refine mvT ?_;conv=>whnf)|(refine mvF ?_;conv=>whnf)|(refine cT (by rfl) ?_;conv=>whnf)|(refine cF (by rfl) ?_;conv=>whnf)))
  obtain ⟨P7, hP7⟩ : ∃ P : World → Prop, P = fun w => ListR true (elZ true 8 8 []) (elQ true 8 8 [] ⟨w, fun k => k ≠ p⟩) w (fun k => k ≠ p) c1 (.mk 0 [] (nl1) l1 []) ∧ (fun _ => True) w := ⟨_, rfl⟩
  replace H : St w0 G0 p pb s1 ((p, ty, [] ++ [.int .i16 v, c1, .slice none 0 0, .map none] ++ []) :: []) P7 w := by rw [hP7]; exact H
  refine VC.cutE (fun q : Value × Bool × List T × Rd => [(0, .pointer (some ⟨p, 0, none⟩)), (2, .bool false), (7, .pointer (some ⟨pb, 0, none⟩)), (8, .int .i16 v), (9, .bool fx), (10, .pointer (some ⟨p, 0, none⟩))]) (fun q w' => (q.2.1 = true → q.2.2.1 = []) ∧ (if hasF (.mk 11 5 (-1) (-1) (-1) 0 8 []) v = true then rdField 9 v fx (.mk 11 5 (-1) (-1) (-1) 0 8 []) s1 else (dfT 9 (.mk 11 5 (-1) (-1) (-1) 0 8 []), s1)) = (.mk 0 [] q.2.1 q.2.2.1 [], q.2.2.2) ∧ St w0 G0 p pb q.2.2.2 ((p, ty, [] ++ [.int .i16 v, c1, q.1, .map none] ++ []) :: []) (fun w => ListR true (elZ true 8 8 []) (elQ true 8 8 [] ⟨w, fun k => k ≠ p⟩) w (fun k => k ≠ p) q.1 (.mk 0 [] (q.2.1) q.2.2.1 []) ∧ P7 w) w') ?_ ?_
  · refine cI (by rfl) (fun hcv=>?_) (fun hcv=>?_)
    · have hh : hasF (.mk 11 5 (-1) (-1) (-1) 0 8 []) v = true := by have := of_decide_eq_true hcv; rw [hasF_iff]; omega
      ((conv=>whnf);repeat(first|(refine mvT ?_;conv=>whnf)|(refine mvF ?_;conv=>whnf)|(refine cT (by rfl) ?_;conv=>whnf)|(refine cF (by rfl) ?_;conv=>whnf)))
      refine ldS (H.cell (o := 0) rfl (k := 2) rfl) ?_;((conv=>whnf);repeat(first|(refine mvT ?_;conv=>whnf)|(refine mvF ?_;conv=>whnf)|(refine cT (by rfl) ?_;conv=>whnf)|(refine cF (by rfl) ?_;conv=>whnf)))
      (refine mvB ?_;((conv=>whnf);repeat(first|(refine mvT ?_;conv=>whnf)|(refine mvF ?_;conv=>whnf)|(refine cT (by rfl) ?_;conv=>whnf)|(refine cF (by rfl) ?_;conv=>whnf))))
      refine VC.cutE (fun q : Int × Rd => [(18, .int .i32 q.1), (17, .slice none 0 0), (0, .pointer (some ⟨p, 0, none⟩)), (2, .bool false), (7, .pointer (some ⟨pb, 0, none⟩)), (8, .int .i16 v), (9, .bool fx), (10, .pointer (some ⟨p, 0, none⟩))]) (fun q w' => (-2147483648 ≤ q.1 ∧ q.1 ≤ 2147483647) ∧ rdLn fx s1 = q ∧ St w0 G0 p pb q.2 ((p, ty, [] ++ [.int .i16 v, c1, .slice none 0 0, .map none] ++ []) :: []) P7 w') ?_ ?_
      · refine cI (by rfl) (fun hc=>?_) (fun hc=>?_)
        · ((conv=>whnf);repeat(first|(refine mvT ?_;conv=>whnf)|(refine mvF ?_;conv=>whnf)|(refine cT (by rfl) ?_;conv=>whnf)|(refine cF (by rfl) ?_;conv=>whnf)))
          refine Does.mono H.lnc ?_
          rintro r w ⟨n, s', rfl, hn, hr, H⟩
          ((conv=>whnf);repeat(first|(refine mvT ?_;conv=>whnf)|(refine mvF ?_;conv=>whnf)|(refine cT (by rfl) ?_;conv=>whnf)|(refine cF (by rfl) ?_;conv=>whnf)))
          exact ⟨(n, s'), ⟨rfl, rfl, rfl, rfl, rfl, rfl, rfl, rfl, trivial⟩, hn, by rw [hc]; exact hr, H⟩
        · ((conv=>whnf);repeat(first|(refine mvT ?_;conv=>whnf)|(refine mvF ?_;conv=>whnf)|(refine cT (by rfl) ?_;conv=>whnf)|(refine cF (by rfl) ?_;conv=>whnf)))
          refine Does.mono H.lnp ?_
          rintro r w ⟨n, s', rfl, hn, hr, H⟩
          ((conv=>whnf);repeat(first|(refine mvT ?_;conv=>whnf)|(refine mvF ?_;conv=>whnf)|(refine cT (by rfl) ?_;conv=>whnf)|(refine cF (by rfl) ?_;conv=>whnf)))
          exact ⟨(n, s'), ⟨rfl, rfl, rfl, rfl, rfl, rfl, rfl, rfl, trivial⟩, hn, by rw [hc]; exact hr, H⟩
      clear H
      rintro ⟨n9, s9⟩ w ⟨hn9, hln9, H⟩
      dsimp only at hn9 hln9 H
      ((conv=>whnf);repeat(first|(refine mvT ?_;conv=>whnf)|(refine mvF ?_;conv=>whnf)|(refine cT (by rfl) ?_;conv=>whnf)|(refine cF (by rfl) ?_;conv=>whnf)))
      refine Does.mono H.ok ?_
      rintro r w ⟨rfl, H⟩
      ((conv=>whnf);repeat(first|(refine mvT ?_;conv=>whnf)|(refine mvF ?_;conv=>whnf)|(refine cT (by rfl) ?_;conv=>whnf)|(refine cF (by rfl) ?_;conv=>whnf)))
      refine cI (by rfl) (fun hbd=>?_) (fun hbd=>?_)
      · have hbd : s9.2 = true := by simpa using hbd
        ((conv=>whnf);repeat(first|(refine mvT ?_;conv=>whnf)|(refine mvF ?_;conv=>whnf)|(refine cT (by rfl) ?_;conv=>whnf)|(refine cF (by rfl) ?_;conv=>whnf)))
        refine Does.mono (H.done hL hp1) ?_
        rintro r w ⟨rfl, H⟩
        ((conv=>whnf);repeat(first|(refine mvT ?_;conv=>whnf)|(refine mvF ?_;conv=>whnf)|(refine cT (by rfl) ?_;conv=>whnf)|(refine cF (by rfl) ?_;conv=>whnf)))
        refine RdPost.early hbd (hup0 (?_)) H
        rw [tail_ver hr1 (by decide), tail_len ⟨by decide, hh⟩ hln9 hbd]
      have hbd : s9.2 = false := by simpa using hbd
      clear hbd
      ((conv=>whnf);repeat(first|(refine mvT ?_;conv=>whnf)|(refine mvF ?_;conv=>whnf)|(refine cT (by rfl) ?_;conv=>whnf)|(refine cF (by rfl) ?_;conv=>whnf)))
      refine cut_zero ?_
      ((conv=>whnf);repeat(first|(refine mvT ?_;conv=>whnf)|(refine mvF ?_;conv=>whnf)|(refine cT (by rfl) ?_;conv=>whnf)|(refine cF (by rfl) ?_;conv=>whnf)))
      refine VC.cutE (fun a : Value => [(18, .int .i32 n9), (17, a), (0, .pointer (some ⟨p, 0, none⟩)), (2, .bool false), (7, .pointer (some ⟨pb, 0, none⟩)), (8, .int .i16 v), (9, .bool fx), (10, .pointer (some ⟨p, 0, none⟩))]) (fun a w' => ListI w0 G0 p pb 9 [str []] (elR 8 v fx 8 []) (elQ true 8 8 []) s9 n9 (decide (n9 ≤ 0)) ((p, ty, [] ++ [.int .i16 v, c1, .slice none 0 0, .map none] ++ []) :: []) P7 a 0 w') ?_ ?_
      · refine cI (by rfl) (fun hps=>?_) (fun hps=>?_)
        · have hps : 0 < n9 := by have := of_decide_eq_true hps; omega
          ((conv=>whnf);repeat(first|(refine mvT ?_;conv=>whnf)|(refine mvF ?_;conv=>whnf)|(refine cT (by rfl) ?_;conv=>whnf)|(refine cF (by rfl) ?_;conv=>whnf)))
          refine H.grow hps hn9.2 (by decide) rfl rfl (by decide) ?_
          intro g cap post w hc1 hc2 H
          ((conv=>whnf);repeat(first|(refine mvT ?_;conv=>whnf)|(refine mvF ?_;conv=>whnf)|(refine cT (by rfl) ?_;conv=>whnf)|(refine cF (by rfl) ?_;conv=>whnf)))
          exact ⟨_, ⟨rfl, rfl, rfl, rfl, rfl, rfl, rfl, rfl, trivial⟩, ListI.some hps (decide_eq_false (by omega)) hc1 hc2 H⟩
        · have hps : n9 ≤ 0 := by have := of_decide_eq_false hps; omega
          ((conv=>whnf);repeat(first|(refine mvT ?_;conv=>whnf)|(refine mvF ?_;conv=>whnf)|(refine cT (by rfl) ?_;conv=>whnf)|(refine cF (by rfl) ?_;conv=>whnf)))
          exact ⟨_, ⟨rfl, rfl, rfl, rfl, rfl, rfl, rfl, rfl, trivial⟩, ListI.none hps (decide_eq_true hps) H⟩
      clear H
      rintro a9 w H
      ((conv=>whnf);repeat(first|(refine mvT ?_;conv=>whnf)|(refine mvF ?_;conv=>whnf)|(refine cT (by rfl) ?_;conv=>whnf)|(refine cF (by rfl) ?_;conv=>whnf)))
      have hpL9 : inL ((p, ty, [] ++ [.int .i16 v, c1, .slice none 0 0, .map none] ++ []) :: []) p := inL.head _ _
      refine VL.loop (fun i : Nat => [(18, .int .i32 n9), (17, a9), (19, .int .i32 i), (0, .pointer (some ⟨p, 0, none⟩)), (2, .bool false), (7, .pointer (some ⟨pb, 0, none⟩)), (8, .int .i16 v), (9, .bool fx), (10, .pointer (some ⟨p, 0, none⟩))]) (fun i w' => i ≤ 2147483647 ∧ ListI w0 G0 p pb 9 [str []] (elR 8 v fx 8 []) (elQ true 8 8 []) s9 n9 (decide (n9 ≤ 0)) ((p, ty, [] ++ [.int .i16 v, c1, .slice none 0 0, .map none] ++ []) :: []) P7 a9 i w') (fun i => n9.toNat - i) 0 ⟨rfl, rfl, rfl, rfl, rfl, rfl, rfl, rfl, rfl, trivial⟩ ⟨by decide, H⟩ ?_
      clear H
      rintro i9 w ⟨hi9, H⟩
      ((conv=>whnf);repeat(first|(refine mvT ?_;conv=>whnf)|(refine mvF ?_;conv=>whnf)|(refine cT (by rfl) ?_;conv=>whnf)|(refine cF (by rfl) ?_;conv=>whnf)))
      refine cI (by rfl) (fun h9=>?_) (fun h9=>?_)
      · have hlt9 : (i9 : Int) < n9 := of_decide_eq_true h9
        obtain ⟨g9, cap9, post9, rfl, hgo9, HI⟩ := H.go hlt9
        obtain ⟨es9, ts9, si9, hes9, hez9, hrn9, hts9, hlen1, H⟩ := HI.open hgo9.2.2.2.2
        obtain ⟨L9, hL9⟩ : ∃ L : List Ob, L = ((p, ty, [] ++ [.int .i16 v, c1, .slice none 0 0, .map none] ++ []) :: []) := ⟨_, rfl⟩
        rw [← hL9] at H hpL9
        obtain ⟨P9, hP9⟩ : ∃ P : World → Prop, P = fun w => (∀ (j : Nat) (c : List Value) (y : T), es9[j]? = some c → ts9[j]? = some y → elQ true 8 8 [] ⟨w, fun k => k ≠ p⟩ c y) ∧ P7 w := ⟨_, rfl⟩
        rw [← hP9] at H
        replace H : St w0 G0 p pb si9 ((g9, 9, es9.flatten ++ [str []] ++ ((List.replicate (n9.toNat - (i9 + 1)) [str []]).flatten ++ post9)) :: L9) P9 w := H
        ((conv=>whnf);repeat(first|(refine mvT ?_;conv=>whnf)|(refine mvF ?_;conv=>whnf)|(refine cT (by rfl) ?_;conv=>whnf)|(refine cF (by rfl) ?_;conv=>whnf)))
        (refine mvB ?_;((conv=>whnf);repeat(first|(refine mvT ?_;conv=>whnf)|(refine mvF ?_;conv=>whnf)|(refine cT (by rfl) ?_;conv=>whnf)|(refine cF (by rfl) ?_;conv=>whnf))))
        refine VC.cutE (fun q : List UInt8 × Rd => [(20, str q.1), (0, .pointer (some ⟨p, 0, none⟩)), (2, .bool false), (7, .pointer (some ⟨pb, 0, none⟩)), (8, .int .i16 v), (9, .bool fx), (10, .pointer (some ⟨p, 0, none⟩)), (18, .int .i32 n9), (17, .slice (some ⟨g9, 0, none⟩) n9.toNat cap9), (19, .int .i32 i9)]) (fun q w' => rdTx fx si9 = q ∧ St w0 G0 p pb q.2 ((g9, 9, es9.flatten ++ [str []] ++ ((List.replicate (n9.toNat - (i9 + 1)) [str []]).flatten ++ post9)) :: L9) P9 w') ?_ ?_
        · refine cI (by rfl) (fun hc=>?_) (fun hc=>?_)
          · ((conv=>whnf);repeat(first|(refine mvT ?_;conv=>whnf)|(refine mvF ?_;conv=>whnf)|(refine cT (by rfl) ?_;conv=>whnf)|(refine cF (by rfl) ?_;conv=>whnf)))
            refine Does.mono H.txc ?_
            rintro r w ⟨u, s', rfl, hr, H⟩
            ((conv=>whnf);repeat(first|(refine mvT ?_;conv=>whnf)|(refine mvF ?_;conv=>whnf)|(refine cT (by rfl) ?_;conv=>whnf)|(refine cF (by rfl) ?_;conv=>whnf)))
            exact ⟨(u, s'), ⟨rfl, rfl, rfl, rfl, rfl, rfl, rfl, rfl, rfl, rfl, trivial⟩, by rw [hc]; exact hr, H⟩
          · ((conv=>whnf);repeat(first|(refine mvT ?_;conv=>whnf)|(refine mvF ?_;conv=>whnf)|(refine cT (by rfl) ?_;conv=>whnf)|(refine cF (by rfl) ?_;conv=>whnf)))
            refine Does.mono H.txp ?_
            rintro r w ⟨u, s', rfl, hr, H⟩
            ((conv=>whnf);repeat(first|(refine mvT ?_;conv=>whnf)|(refine mvF ?_;conv=>whnf)|(refine cT (by rfl) ?_;conv=>whnf)|(refine cF (by rfl) ?_;conv=>whnf)))
            exact ⟨(u, s'), ⟨rfl, rfl, rfl, rfl, rfl, rfl, rfl, rfl, rfl, rfl, trivial⟩, by rw [hc]; exact hr, H⟩
        clear H
        rintro ⟨u10, s10⟩ w ⟨hr10, H⟩
        dsimp only at hr10 H
        ((conv=>whnf);repeat(first|(refine mvT ?_;conv=>whnf)|(refine mvF ?_;conv=>whnf)|(refine cT (by rfl) ?_;conv=>whnf)|(refine cF (by rfl) ?_;conv=>whnf)))
        refine ⟨g9, 0, rfl, ⟨by omega, by omega⟩, ?_⟩
        ((conv=>whnf);repeat(first|(refine mvT ?_;conv=>whnf)|(refine mvF ?_;conv=>whnf)|(refine cT (by rfl) ?_;conv=>whnf)|(refine cF (by rfl) ?_;conv=>whnf)))
        refine H.st1 (v := str u10) 0 (rfl) (rfl) rfl (by first | omega | (simp [hlen1]; done) | (simp [hlen1]; omega)) rfl (Nat.lt_of_lt_of_le (Nat.lt_succ_self _) (Nat.le_of_ble_eq_true rfl)) ?_
        intro w H
        ((conv=>whnf);repeat(first|(refine mvT ?_;conv=>whnf)|(refine mvF ?_;conv=>whnf)|(refine cT (by rfl) ?_;conv=>whnf)|(refine cF (by rfl) ?_;conv=>whnf)))
        replace H : St w0 G0 p pb s10 ((g9, 9, es9.flatten ++ [str u10] ++ ((List.replicate (n9.toNat - (i9 + 1)) [str []]).flatten ++ post9)) :: L9) P9 w := H
        refine ⟨i9 + 1, ⟨rfl, rfl, ?_, rfl, rfl, rfl, rfl, rfl, rfl, trivial⟩, ⟨by omega, ListI.back hgo9 (LoopI.next hes9 hez9 hrn9 hts9 (cur := [str u10]) (x := .mk 0 u10 false [] []) (elR8 hr10) rfl (by rw [← hL9]; exact H) fun w hP => ?_)⟩, by omega⟩
        · show some (Value.int .i32 _) = _
          rw [IntKind.wrap_i32]
          simp only [Option.some.injEq, Value.int.injEq, true_and]
          omega
        · skip
          rw [hP9] at hP
          exact ⟨⟨_, rfl, rfl⟩, hP⟩
      have hge9 : ¬ (i9 : Int) < n9 := of_decide_eq_false h9
      obtain ⟨l11, s11, hone11, hl11, hr11, H⟩ := H.done hge9 hln9 (nl := nlF (.mk 11 5 (-1) (-1) (-1) 0 8 []) v) (sz := elZ true 8 8 []) rfl hpL9 rfl
      ((conv=>whnf);repeat(first|(refine mvT ?_;conv=>whnf)|(refine mvF ?_;conv=>whnf)|(refine cT (by rfl) ?_;conv=>whnf)|(refine cF (by rfl) ?_;conv=>whnf)))
      obtain ⟨P12, hP12⟩ : ∃ P : World → Prop, P = fun w => ListR true (elZ true 8 8 []) (elQ true 8 8 [] ⟨w, fun k => k ≠ p⟩) w (fun k => k ≠ p) a9 (.mk 0 [] (decide (n9 ≤ 0)) l11 []) ∧ P7 w := ⟨_, rfl⟩
      replace H : St w0 G0 p pb s11 ((p, ty, [] ++ [.int .i16 v, c1, .slice none 0 0, .map none] ++ []) :: []) P12 w := by rw [hP12]; exact H
      refine H.st1 (v := a9) 2 (cells_one hone11) (hone11) rfl (by simp) rfl (Nat.lt_of_lt_of_le (Nat.lt_succ_self _) (Nat.le_of_ble_eq_true rfl)) ?_
      intro w H
      ((conv=>whnf);repeat(first|(refine mvT ?_;conv=>whnf)|(refine mvF ?_;conv=>whnf)|(refine cT (by rfl) ?_;conv=>whnf)|(refine cF (by rfl) ?_;conv=>whnf)))
      replace H : St w0 G0 p pb s11 ((p, ty, [] ++ [.int .i16 v, c1, a9, .map none] ++ []) :: []) P12 w := H
      exact ⟨(a9, decide (n9 ≤ 0), l11, s11), ⟨rfl, rfl, rfl, rfl, rfl, rfl, trivial⟩, hl11, by rw [if_pos hh]; exact ((rdField_list _ _ _ _ _ _ _ _ _ _ _).trans hr11), by rw [hP12] at H; exact H⟩
    · ((conv=>whnf);repeat(first|(refine mvT ?_;conv=>whnf)|(refine mvF ?_;conv=>whnf)|(refine cT (by rfl) ?_;conv=>whnf)|(refine cF (by rfl) ?_;conv=>whnf)))
      have hh : ¬ hasF (.mk 11 5 (-1) (-1) (-1) 0 8 []) v = true := by have := of_decide_eq_false hcv; rw [hasF_iff]; omega
      exact ⟨(.slice none 0 0, true, [], s1), ⟨rfl, rfl, rfl, rfl, rfl, rfl, trivial⟩, fun _ => rfl, by rw [if_neg hh]; rfl, H.add fun w' _ => .inl ⟨rfl, rfl⟩⟩
  clear H
  rintro ⟨c8, nl8, l8, s8⟩ w ⟨hnl8, hr8, H⟩
  dsimp only at hnl8 hr8 H
  ((conv=>whnf);repeat(first|(refine mvT ?_;conv=>whnf)|(refine mvF ?_;conv=>whnf)|(refine cT (by rfl) ?_;conv=>whnf)|(refine cF (by rfl) ?_;conv=>whnf)))
  obtain ⟨P14, hP14⟩ : ∃ P : World → Prop, P = fun w => ListR true (elZ true 8 8 []) (elQ true 8 8 [] ⟨w, fun k => k ≠ p⟩) w (fun k => k ≠ p) c8 (.mk 0 [] (nl8) l8 []) ∧ P7 w := ⟨_, rfl⟩
  replace H : St w0 G0 p pb s8 ((p, ty, [] ++ [.int .i16 v, c1, c8, .map none] ++ []) :: []) P14 w := by rw [hP14]; exact H
  (refine mvB ?_;((conv=>whnf);repeat(first|(refine mvT ?_;conv=>whnf)|(refine mvF ?_;conv=>whnf)|(refine cT (by rfl) ?_;conv=>whnf)|(refine cF (by rfl) ?_;conv=>whnf))))
  refine VC.cutE (fun q : Value × List Tg × Rd => [(0, .pointer (some ⟨p, 0, none⟩)), (2, .bool false), (7, .pointer (some ⟨pb, 0, none⟩)), (8, .int .i16 v), (9, .bool fx), (10, .pointer (some ⟨p, 0, none⟩))]) (fun q w' => rdTagsF fx s8 = q.2 ∧ St w0 G0 p pb q.2.2 ((p, ty, [] ++ [.int .i16 v, c1, c8, q.1] ++ []) :: []) (fun w => TGf p q.1 q.2.1 w ∧ P14 w) w') ?_ ?_
  · refine cI (by rfl) (fun hc=>?_) (fun hc=>?_)
    · ((conv=>whnf);repeat(first|(refine mvT ?_;conv=>whnf)|(refine mvF ?_;conv=>whnf)|(refine cT (by rfl) ?_;conv=>whnf)|(refine cF (by rfl) ?_;conv=>whnf)))
      refine Does.mono H.tags ?_
      rintro r w ⟨m, u, s', rfl, hone, hr, H⟩
      ((conv=>whnf);repeat(first|(refine mvT ?_;conv=>whnf)|(refine mvF ?_;conv=>whnf)|(refine cT (by rfl) ?_;conv=>whnf)|(refine cF (by rfl) ?_;conv=>whnf)))
      refine H.st1 (v := m) 3 (rfl) (hone) rfl (by simp) rfl (Nat.lt_of_lt_of_le (Nat.lt_succ_self _) (Nat.le_of_ble_eq_true rfl)) ?_
      intro w H
      ((conv=>whnf);repeat(first|(refine mvT ?_;conv=>whnf)|(refine mvF ?_;conv=>whnf)|(refine cT (by rfl) ?_;conv=>whnf)|(refine cF (by rfl) ?_;conv=>whnf)))
      exact ⟨(m, u, s'), ⟨rfl, rfl, rfl, rfl, rfl, rfl, trivial⟩, by rw [rdTagsF, if_pos hc]; exact hr, H⟩
    · ((conv=>whnf);repeat(first|(refine mvT ?_;conv=>whnf)|(refine mvF ?_;conv=>whnf)|(refine cT (by rfl) ?_;conv=>whnf)|(refine cF (by rfl) ?_;conv=>whnf)))
      exact ⟨(.map none, [], s8), ⟨rfl, rfl, rfl, rfl, rfl, rfl, trivial⟩, by rw [rdTagsF, if_neg (by rw [hc]; decide)], H.add fun w' _ => TagsR.nil _ _⟩
  clear H
  rintro ⟨m15, u15, s15⟩ w ⟨htg, H⟩
  dsimp only at htg H
  ((conv=>whnf);repeat(first|(refine mvT ?_;conv=>whnf)|(refine mvF ?_;conv=>whnf)|(refine cT (by rfl) ?_;conv=>whnf)|(refine cF (by rfl) ?_;conv=>whnf)))
  obtain ⟨P16, hP16⟩ : ∃ P : World → Prop, P = fun w => TGf p m15 u15 w ∧ P14 w := ⟨_, rfl⟩
  replace H : St w0 G0 p pb s15 ((p, ty, [] ++ [.int .i16 v, c1, c8, m15] ++ []) :: []) P16 w := by rw [hP16]; exact H
  have hpart : rdPart 9 v fx dListGroupsRequest (l, false) = (.mk 0 [] false [.mk 0 [] nl1 l1 [], .mk 0 [] nl8 l8 []] u15, s15) := by
    unfold rdPart rdPartW
    rw [rdAll_ver hr1 (by decide), rdAll_ver hr8 (by decide)]
    simp only [rdAll]
    rw [htg]
  refine Does.mono (H.done hL hp1) ?_
  rintro r w ⟨rfl, H⟩
  ((conv=>whnf);repeat(first|(refine mvT ?_;conv=>whnf)|(refine mvF ?_;conv=>whnf)|(refine cT (by rfl) ?_;conv=>whnf)|(refine cF (by rfl) ?_;conv=>whnf)))
  refine RdPost.end hpart H fun hP => ?_
  rw [hP16] at hP
  obtain ⟨hf16_, hP⟩ := hP
  rw [hP14] at hP
  obtain ⟨hf14_, hP⟩ := hP
  rw [hP7] at hP
  obtain ⟨hf7_, hP⟩ := hP
  exact QPt (QA1 (QF11 hnl1 hf7_) (QA1 (QF11 hnl8 hf14_) (QA0))) hf16_
end Go.Proofs.YtmmieooipcfbiabDoorR.K
