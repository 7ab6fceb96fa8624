/- Reading of ListTransactionsRequest. -/
import Derived.Test.YtmmieooipcfbiaaGreatDoorE5
set_option linter.unusedVariables false
set_option linter.unusedSimpArgs false
namespace Go.Proofs.YtmmieooipcfbiaaGreatDoor.K
open Go
set_option maxHeartbeats 4000000
set_option maxRecDepth 100000

abbrev dListTransactionsRequest : List Fd := [.mk 11 0 (-1) (-1) (-1) 0 8 [], .mk 11 0 (-1) (-1) (-1) 0 4 [], .mk 4 1 (-1) (-1) (-1) (-1) 0 [], .mk 8 2 (-1) 2 (-1) 0 0 []]
theorem sListTransactionsRequest (w : World) : Does X.P 10 #[] w fun r w' => Msg w' (fun k => w.heap.size ≤ k) r dListTransactionsRequest 0 ∧ Ext nob w w' := by
  have hx0 : Ext nob w w := Ext.refl _ _
  refine Does.go (X := X) (l := []) Tryz.func10 rfl (by kernel_rfl) (by kernel_rfl) _ rfl ?_
  ((conv=>whnf);repeat(first|(refine mvT ?_;conv=>whnf)|(refine mvF ?_;conv=>whnf)|(refine cT (by rfl) ?_;conv=>whnf)|(refine cF (by rfl) ?_;conv=>whnf)))
  intro b w1 hb ho hx
  have hx0 := hx0.e0 hx
  have ho := ho
  ((conv=>whnf);repeat(first|(refine mvT ?_;conv=>whnf)|(refine mvF ?_;conv=>whnf)|(refine cT (by rfl) ?_;conv=>whnf)|(refine cF (by rfl) ?_;conv=>whnf)))
  have hxs := hx0
  intro b2 w2 hb2 ho2 hx2
  ((conv=>whnf);repeat(first|(refine mvT ?_;conv=>whnf)|(refine mvF ?_;conv=>whnf)|(refine cT (by rfl) ?_;conv=>whnf)|(refine cF (by rfl) ?_;conv=>whnf)))
  have hx0 := hx0.e0 hx2
  refine ⟨_, _, ho.e0 hx2, rfl, rfl, rfl, ?_⟩
  intro w3 ho3 hx3
  have hx03 := hx0.st hx3 hb
  ((conv=>whnf);repeat(first|(refine mvT ?_;conv=>whnf)|(refine mvF ?_;conv=>whnf)|(refine cT (by rfl) ?_;conv=>whnf)|(refine cF (by rfl) ?_;conv=>whnf)))
  refine ⟨_, rfl, ho3.cells, ?_⟩
  refine ⟨⟨_, rfl, ?_⟩, hx03⟩
  have ho2 := ho2.ext hx3 (by have := ho.lt; omega)
  have hs := hx0.size
  have hs2 : w.heap.size ≤ b2 := Nat.le_trans hxs.size hb2
  exact FdL.fds (cs := [[.int .i64 11, .int .i64 0, .int .i64 (-1), .int .i64 (-1), .int .i64 (-1), .int .i64 0, .int .i64 8, .slice none 0 0], [.int .i64 11, .int .i64 0, .int .i64 (-1), .int .i64 (-1), .int .i64 (-1), .int .i64 0, .int .i64 4, .slice none 0 0], [.int .i64 4, .int .i64 1, .int .i64 (-1), .int .i64 (-1), .int .i64 (-1), .int .i64 (-1), .int .i64 0, .slice none 0 0], [.int .i64 8, .int .i64 2, .int .i64 (-1), .int .i64 2, .int .i64 (-1), .int .i64 0, .int .i64 0, .slice none 0 0]])
    ⟨fdLeaf _ _ _ _ _ _ _ _ _, fdLeaf _ _ _ _ _ _ _ _ _, fdLeaf _ _ _ _ _ _ _ _ _, fdLeaf _ _ _ _ _ _ _ _ _, trivial⟩ ho2 rfl (by decide) (by omega)
theorem dfListTransactionsRequest {w : World} {q o : Nat} {T : TypeId} {pre cur post : List Value} (ho : Own w q T (pre ++ cur ++ post)) (hp : pre.length = o) (hl : cur.length = 6) :
    Does X.P 71 #[.pointer (some ⟨q, o, none⟩)] w fun r w' => Own w' q T (pre ++ (cur.set 3 (.int .i64 (-1))) ++ post) ∧ Ext (fun k => k = q) w w' := by
  have hx : Ext (fun k => k = q) w w := Ext.refl _ _
  refine Does.go (X := X) (l := [_]) Tryz.func71 rfl (by kernel_rfl) (by kernel_rfl) _ rfl ?_
  ((conv=>whnf);repeat(first|(refine mvT ?_;conv=>whnf)|(refine mvF ?_;conv=>whnf)|(refine cT (by rfl) ?_;conv=>whnf)|(refine cF (by rfl) ?_;conv=>whnf)))
  refine stm ho 3 rfl rfl hp (by omega) rfl (by first | omega | (simp only [List.length_set]; omega)) ?_
  intro w0 ho hxd
  have hx := hx.trans hxd fun _ _ h => h
  ((conv=>whnf);repeat(first|(refine mvT ?_;conv=>whnf)|(refine mvF ?_;conv=>whnf)|(refine cT (by rfl) ?_;conv=>whnf)|(refine cF (by rfl) ?_;conv=>whnf)))
  exact ⟨ho, hx⟩
theorem readListTransactionsRequest {w0 : World} {F : Nat → Prop} {p : Nat} {ty : TypeId} {v : Int} {x ev : Value} {l : List UInt8} (hL : Laid w0 ev) (hp : Own w0 p ty [.int .i16 v, .slice none 0 0, .slice none 0 0, .int .i64 (-1), .pointer none, .map none]) (hx : Bytes w0 F x l) (hF : ∀ k, F k → k ≠ p) (hv : 0 ≤ v) (hp1 : p ≠ errG) :
    Does X.P 72 #[.pointer (some ⟨p, 0, none⟩), x, .bool false] w0 fun r w' => RdPost w0 p ty v (decide (v ≥ 0)) true dListTransactionsRequest ev l r w' := by
  have hpl := hp.lt
  obtain ⟨fx, hfx⟩ : ∃ fx, fx = decide (v ≥ 0) := ⟨_, rfl⟩
  rw [← hfx]
  obtain ⟨G0, hG0, hx⟩ : ∃ G0 : Nat → Prop, (∀ k, G0 k → k < w0.heap.size ∧ k ≠ p) ∧ Bytes w0 G0 x l := ⟨fun k => F k ∧ k < w0.heap.size, fun k h => ⟨h.2, hF k h.1⟩, Sl.mono hx fun k hk h => ⟨h, hk⟩⟩
  obtain ⟨a0, c0, rfl, _⟩ := hx.view
  refine Does.go (X := X) (l := [_, _, _]) Tryz.func72 rfl (by kernel_rfl) (by kernel_rfl) _ rfl ?_
  ((conv=>whnf);repeat(first|(refine mvT ?_;conv=>whnf)|(refine mvF ?_;conv=>whnf)|(refine cT (by rfl) ?_;conv=>whnf)|(refine cF (by rfl) ?_;conv=>whnf)))
  refine Does.mono (dfListTransactionsRequest (pre := []) (cur := [.int .i16 v, .slice none 0 0, .slice none 0 0, .int .i64 (-1), .pointer none, .map none]) (post := []) (by simpa using hp) rfl rfl) ?_
  rintro rd wd ⟨hpd, hxd⟩
  ((conv=>whnf);repeat(first|(refine mvT ?_;conv=>whnf)|(refine mvF ?_;conv=>whnf)|(refine cT (by rfl) ?_;conv=>whnf)|(refine cF (by rfl) ?_;conv=>whnf)))
  intro pb w1 hpb hb hx1
  ((conv=>whnf);repeat(first|(refine mvT ?_;conv=>whnf)|(refine mvF ?_;conv=>whnf)|(refine cT (by rfl) ?_;conv=>whnf)|(refine cF (by rfl) ?_;conv=>whnf)))
  refine st_all [.slice a0 l.length c0, .bool false] hb rfl rfl rfl ?_
  intro w hb hx2
  ((conv=>whnf);repeat(first|(refine mvT ?_;conv=>whnf)|(refine mvF ?_;conv=>whnf)|(refine cT (by rfl) ?_;conv=>whnf)|(refine cF (by rfl) ?_;conv=>whnf)))
  have hsd := hxd.size
  have hwp : w0.heap.size ≤ pb := by omega
  have he1 : Ext nob wd w := hx1.trans hx2 fun k hk h => by omega
  have hpw : Own w p ty [.int .i16 v, .slice none 0 0, .slice none 0 0, .int .i64 (-1), .pointer none, .map none] := by have := hpd.e0 he1; simpa using this
  have he := hxd.tr0 he1
  have H := St.init hpw hb (hx.ext he fun k _ h => (hG0 k h).2) hG0 he hpl hwp
  clear hpd hxd hx1 hx2 hb hpw he1 hp
  refine ldS (H.cell (o := 0) rfl (k := 0) rfl) ?_;((conv=>whnf);repeat(first|(refine mvT ?_;conv=>whnf)|(refine mvF ?_;conv=>whnf)|(refine cT (by rfl) ?_;conv=>whnf)|(refine cF (by rfl) ?_;conv=>whnf)))
  rw [← hfx]
  (refine mvB ?_;((conv=>whnf);repeat(first|(refine mvT ?_;conv=>whnf)|(refine mvF ?_;conv=>whnf)|(refine cT (by rfl) ?_;conv=>whnf)|(refine cF (by rfl) ?_;conv=>whnf))))
  have hup0 : tailBad 9 v fx dListTransactionsRequest (l, false) = true → (rdPart 9 v fx dListTransactionsRequest (l, false)).2.2 = true := id
  refine ldS (H.cell (o := 0) rfl (k := 1) rfl) ?_;((conv=>whnf);repeat(first|(refine mvT ?_;conv=>whnf)|(refine mvF ?_;conv=>whnf)|(refine cT (by rfl) ?_;conv=>whnf)|(refine cF (by rfl) ?_;conv=>whnf)))
  (refine mvB ?_;((conv=>whnf);repeat(first|(refine mvT ?_;conv=>whnf)|(refine mvF ?_;conv=>whnf)|(refine cT (by rfl) ?_;conv=>whnf)|(refine cF (by rfl) ?_;conv=>whnf))))
  refine VC.cutE (fun q : Int × Rd => [(13, .int .i32 q.1), (12, .slice none 0 0), (0, .pointer (some ⟨p, 0, none⟩)), (2, .bool false), (7, .pointer (some ⟨pb, 0, none⟩)), (8, .int .i16 v), (9, .bool fx), (10, .pointer (some ⟨p, 0, none⟩))]) (fun q w' => (-2147483648 ≤ q.1 ∧ q.1 ≤ 2147483647) ∧ rdLn fx (l, false) = q ∧ St w0 G0 p pb q.2 ((p, ty, [] ++ [.int .i16 v, .slice none 0 0, .slice none 0 0, .int .i64 (-1), .pointer none, .map none] ++ []) :: []) (fun _ => True) w') ?_ ?_
  · refine cI (by rfl) (fun hc=>?_) (fun hc=>?_)
    · ((conv=>whnf);repeat(first|(refine mvT ?_;conv=>whnf)|(refine mvF ?_;conv=>whnf)|(refine cT (by rfl) ?_;conv=>whnf)|(refine cF (by rfl) ?_;conv=>whnf)))
      refine Does.mono H.lnc ?_
      rintro r w ⟨n, s', rfl, hn, hr, H⟩
      ((conv=>whnf);repeat(first|(refine mvT ?_;conv=>whnf)|(refine mvF ?_;conv=>whnf)|(refine cT (by rfl) ?_;conv=>whnf)|(refine cF (by rfl) ?_;conv=>whnf)))
      exact ⟨(n, s'), ⟨rfl, rfl, rfl, rfl, rfl, rfl, rfl, rfl, trivial⟩, hn, by rw [hc]; exact hr, H⟩
    · ((conv=>whnf);repeat(first|(refine mvT ?_;conv=>whnf)|(refine mvF ?_;conv=>whnf)|(refine cT (by rfl) ?_;conv=>whnf)|(refine cF (by rfl) ?_;conv=>whnf)))
      refine Does.mono H.lnp ?_
      rintro r w ⟨n, s', rfl, hn, hr, H⟩
      ((conv=>whnf);repeat(first|(refine mvT ?_;conv=>whnf)|(refine mvF ?_;conv=>whnf)|(refine cT (by rfl) ?_;conv=>whnf)|(refine cF (by rfl) ?_;conv=>whnf)))
      exact ⟨(n, s'), ⟨rfl, rfl, rfl, rfl, rfl, rfl, rfl, rfl, trivial⟩, hn, by rw [hc]; exact hr, H⟩
  clear H
  rintro ⟨n1, s1⟩ w ⟨hn1, hln1, H⟩
  dsimp only at hn1 hln1 H
  ((conv=>whnf);repeat(first|(refine mvT ?_;conv=>whnf)|(refine mvF ?_;conv=>whnf)|(refine cT (by rfl) ?_;conv=>whnf)|(refine cF (by rfl) ?_;conv=>whnf)))
  refine Does.mono H.ok ?_
  rintro r w ⟨rfl, H⟩
  ((conv=>whnf);repeat(first|(refine mvT ?_;conv=>whnf)|(refine mvF ?_;conv=>whnf)|(refine cT (by rfl) ?_;conv=>whnf)|(refine cF (by rfl) ?_;conv=>whnf)))
  refine cI (by rfl) (fun hbd=>?_) (fun hbd=>?_)
  · have hbd : s1.2 = true := by simpa using hbd
    ((conv=>whnf);repeat(first|(refine mvT ?_;conv=>whnf)|(refine mvF ?_;conv=>whnf)|(refine cT (by rfl) ?_;conv=>whnf)|(refine cF (by rfl) ?_;conv=>whnf)))
    refine Does.mono (H.done hL hp1) ?_
    rintro r w ⟨rfl, H⟩
    ((conv=>whnf);repeat(first|(refine mvT ?_;conv=>whnf)|(refine mvF ?_;conv=>whnf)|(refine cT (by rfl) ?_;conv=>whnf)|(refine cF (by rfl) ?_;conv=>whnf)))
    refine RdPost.early hbd (hup0 (?_)) H
    rw [tail_len ⟨by decide, has_all hv⟩ hln1 hbd]
  have hbd : s1.2 = false := by simpa using hbd
  clear hbd
  ((conv=>whnf);repeat(first|(refine mvT ?_;conv=>whnf)|(refine mvF ?_;conv=>whnf)|(refine cT (by rfl) ?_;conv=>whnf)|(refine cF (by rfl) ?_;conv=>whnf)))
  refine cut_zero ?_
  ((conv=>whnf);repeat(first|(refine mvT ?_;conv=>whnf)|(refine mvF ?_;conv=>whnf)|(refine cT (by rfl) ?_;conv=>whnf)|(refine cF (by rfl) ?_;conv=>whnf)))
  refine VC.cutE (fun a : Value => [(13, .int .i32 n1), (12, a), (0, .pointer (some ⟨p, 0, none⟩)), (2, .bool false), (7, .pointer (some ⟨pb, 0, none⟩)), (8, .int .i16 v), (9, .bool fx), (10, .pointer (some ⟨p, 0, none⟩))]) (fun a w' => ListI w0 G0 p pb 9 [str []] (elR 8 v fx 8 []) (elQ true 8 8 []) s1 n1 (decide (n1 ≤ 0)) ((p, ty, [] ++ [.int .i16 v, .slice none 0 0, .slice none 0 0, .int .i64 (-1), .pointer none, .map none] ++ []) :: []) (fun _ => True) a 0 w') ?_ ?_
  · refine cI (by rfl) (fun hps=>?_) (fun hps=>?_)
    · have hps : 0 < n1 := by have := of_decide_eq_true hps; omega
      ((conv=>whnf);repeat(first|(refine mvT ?_;conv=>whnf)|(refine mvF ?_;conv=>whnf)|(refine cT (by rfl) ?_;conv=>whnf)|(refine cF (by rfl) ?_;conv=>whnf)))
      refine H.grow hps hn1.2 (by decide) rfl rfl (by decide) ?_
      intro g cap post w hc1 hc2 H
      ((conv=>whnf);repeat(first|(refine mvT ?_;conv=>whnf)|(refine mvF ?_;conv=>whnf)|(refine cT (by rfl) ?_;conv=>whnf)|(refine cF (by rfl) ?_;conv=>whnf)))
      exact ⟨_, ⟨rfl, rfl, rfl, rfl, rfl, rfl, rfl, rfl, trivial⟩, ListI.some hps (decide_eq_false (by omega)) hc1 hc2 H⟩
    · have hps : n1 ≤ 0 := by have := of_decide_eq_false hps; omega
      ((conv=>whnf);repeat(first|(refine mvT ?_;conv=>whnf)|(refine mvF ?_;conv=>whnf)|(refine cT (by rfl) ?_;conv=>whnf)|(refine cF (by rfl) ?_;conv=>whnf)))
      exact ⟨_, ⟨rfl, rfl, rfl, rfl, rfl, rfl, rfl, rfl, trivial⟩, ListI.none hps (decide_eq_true hps) H⟩
  clear H
  rintro a1 w H
  ((conv=>whnf);repeat(first|(refine mvT ?_;conv=>whnf)|(refine mvF ?_;conv=>whnf)|(refine cT (by rfl) ?_;conv=>whnf)|(refine cF (by rfl) ?_;conv=>whnf)))
  have hpL1 : inL ((p, ty, [] ++ [.int .i16 v, .slice none 0 0, .slice none 0 0, .int .i64 (-1), .pointer none, .map none] ++ []) :: []) p := inL.head _ _
  refine VL.loop (fun i : Nat => [(13, .int .i32 n1), (12, a1), (14, .int .i32 i), (0, .pointer (some ⟨p, 0, none⟩)), (2, .bool false), (7, .pointer (some ⟨pb, 0, none⟩)), (8, .int .i16 v), (9, .bool fx), (10, .pointer (some ⟨p, 0, none⟩))]) (fun i w' => i ≤ 2147483647 ∧ ListI w0 G0 p pb 9 [str []] (elR 8 v fx 8 []) (elQ true 8 8 []) s1 n1 (decide (n1 ≤ 0)) ((p, ty, [] ++ [.int .i16 v, .slice none 0 0, .slice none 0 0, .int .i64 (-1), .pointer none, .map none] ++ []) :: []) (fun _ => True) a1 i w') (fun i => n1.toNat - i) 0 ⟨rfl, rfl, rfl, rfl, rfl, rfl, rfl, rfl, rfl, trivial⟩ ⟨by decide, H⟩ ?_
  clear H
  rintro i1 w ⟨hi1, H⟩
  ((conv=>whnf);repeat(first|(refine mvT ?_;conv=>whnf)|(refine mvF ?_;conv=>whnf)|(refine cT (by rfl) ?_;conv=>whnf)|(refine cF (by rfl) ?_;conv=>whnf)))
  refine cI (by rfl) (fun h9=>?_) (fun h9=>?_)
  · have hlt1 : (i1 : Int) < n1 := of_decide_eq_true h9
    obtain ⟨g1, cap1, post1, rfl, hgo1, HI⟩ := H.go hlt1
    obtain ⟨es1, ts1, si1, hes1, hez1, hrn1, hts1, hlen1, H⟩ := HI.open hgo1.2.2.2.2
    obtain ⟨L1, hL1⟩ : ∃ L : List Ob, L = ((p, ty, [] ++ [.int .i16 v, .slice none 0 0, .slice none 0 0, .int .i64 (-1), .pointer none, .map none] ++ []) :: []) := ⟨_, rfl⟩
    rw [← hL1] at H hpL1
    obtain ⟨P1, hP1⟩ : ∃ P : World → Prop, P = fun w => (∀ (j : Nat) (c : List Value) (y : T), es1[j]? = some c → ts1[j]? = some y → elQ true 8 8 [] ⟨w, fun k => k ≠ p⟩ c y) ∧ (fun _ => True) w := ⟨_, rfl⟩
    rw [← hP1] at H
    replace H : St w0 G0 p pb si1 ((g1, 9, es1.flatten ++ [str []] ++ ((List.replicate (n1.toNat - (i1 + 1)) [str []]).flatten ++ post1)) :: L1) P1 w := H
    ((conv=>whnf);repeat(first|(refine mvT ?_;conv=>whnf)|(refine mvF ?_;conv=>whnf)|(refine cT (by rfl) ?_;conv=>whnf)|(refine cF (by rfl) ?_;conv=>whnf)))
    (refine mvB ?_;((conv=>whnf);repeat(first|(refine mvT ?_;conv=>whnf)|(refine mvF ?_;conv=>whnf)|(refine cT (by rfl) ?_;conv=>whnf)|(refine cF (by rfl) ?_;conv=>whnf))))
    refine VC.cutE (fun q : List UInt8 × Rd => [(15, str q.1), (0, .pointer (some ⟨p, 0, none⟩)), (2, .bool false), (7, .pointer (some ⟨pb, 0, none⟩)), (8, .int .i16 v), (9, .bool fx), (10, .pointer (some ⟨p, 0, none⟩)), (13, .int .i32 n1), (12, .slice (some ⟨g1, 0, none⟩) n1.toNat cap1), (14, .int .i32 i1)]) (fun q w' => rdTx fx si1 = q ∧ St w0 G0 p pb q.2 ((g1, 9, es1.flatten ++ [str []] ++ ((List.replicate (n1.toNat - (i1 + 1)) [str []]).flatten ++ post1)) :: L1) P1 w') ?_ ?_
    · refine cI (by rfl) (fun hc=>?_) (fun hc=>?_)
      · ((conv=>whnf);repeat(first|(refine mvT ?_;conv=>whnf)|(refine mvF ?_;conv=>whnf)|(refine cT (by rfl) ?_;conv=>whnf)|(refine cF (by rfl) ?_;conv=>whnf)))
        refine Does.mono H.txc ?_
        rintro r w ⟨u, s', rfl, hr, H⟩
        ((conv=>whnf);repeat(first|(refine mvT ?_;conv=>whnf)|(refine mvF ?_;conv=>whnf)|(refine cT (by rfl) ?_;conv=>whnf)|(refine cF (by rfl) ?_;conv=>whnf)))
        exact ⟨(u, s'), ⟨rfl, rfl, rfl, rfl, rfl, rfl, rfl, rfl, rfl, rfl, trivial⟩, by rw [hc]; exact hr, H⟩
      · ((conv=>whnf);repeat(first|(refine mvT ?_;conv=>whnf)|(refine mvF ?_;conv=>whnf)|(refine cT (by rfl) ?_;conv=>whnf)|(refine cF (by rfl) ?_;conv=>whnf)))
        refine Does.mono H.txp ?_
        rintro r w ⟨u, s', rfl, hr, H⟩
        ((conv=>whnf);repeat(first|(refine mvT ?_;conv=>whnf)|(refine mvF ?_;conv=>whnf)|(refine cT (by rfl) ?_;conv=>whnf)|(refine cF (by rfl) ?_;conv=>whnf)))
        exact ⟨(u, s'), ⟨rfl, rfl, rfl, rfl, rfl, rfl, rfl, rfl, rfl, rfl, trivial⟩, by rw [hc]; exact hr, H⟩
    clear H
    rintro ⟨u2, s2⟩ w ⟨hr2, H⟩
    dsimp only at hr2 H
    ((conv=>whnf);repeat(first|(refine mvT ?_;conv=>whnf)|(refine mvF ?_;conv=>whnf)|(refine cT (by rfl) ?_;conv=>whnf)|(refine cF (by rfl) ?_;conv=>whnf)))
    refine ⟨g1, 0, rfl, ⟨by omega, by omega⟩, ?_⟩
    ((conv=>whnf);repeat(first|(refine mvT ?_;conv=>whnf)|(refine mvF ?_;conv=>whnf)|(refine cT (by rfl) ?_;conv=>whnf)|(refine cF (by rfl) ?_;conv=>whnf)))
    refine H.st1 (v := str u2) 0 (rfl) (rfl) rfl (by first | omega | (simp [hlen1]; done) | (simp [hlen1]; omega)) rfl (Nat.lt_of_lt_of_le (Nat.lt_succ_self _) (Nat.le_of_ble_eq_true rfl)) ?_
    intro w H
    ((conv=>whnf);repeat(first|(refine mvT ?_;conv=>whnf)|(refine mvF ?_;conv=>whnf)|(refine cT (by rfl) ?_;conv=>whnf)|(refine cF (by rfl) ?_;conv=>whnf)))
    replace H : St w0 G0 p pb s2 ((g1, 9, es1.flatten ++ [str u2] ++ ((List.replicate (n1.toNat - (i1 + 1)) [str []]).flatten ++ post1)) :: L1) P1 w := H
    refine ⟨i1 + 1, ⟨rfl, rfl, ?_, rfl, rfl, rfl, rfl, rfl, rfl, trivial⟩, ⟨by omega, ListI.back hgo1 (LoopI.next hes1 hez1 hrn1 hts1 (cur := [str u2]) (x := .mk 0 u2 false [] []) (elR8 hr2) rfl (by rw [← hL1]; exact H) fun w hP => ?_)⟩, by omega⟩
    · show some (Value.int .i32 _) = _
      rw [IntKind.wrap_i32]
      simp only [Option.some.injEq, Value.int.injEq, true_and]
      omega
    · skip
      rw [hP1] at hP
      exact ⟨⟨_, rfl, rfl⟩, hP⟩
  have hge1 : ¬ (i1 : Int) < n1 := of_decide_eq_false h9
  obtain ⟨l3, s3, hone3, hl3, hr3, H⟩ := H.done hge1 hln1 (nl := nlF (.mk 11 0 (-1) (-1) (-1) 0 8 []) v) (sz := elZ true 8 8 []) rfl hpL1 rfl
  ((conv=>whnf);repeat(first|(refine mvT ?_;conv=>whnf)|(refine mvF ?_;conv=>whnf)|(refine cT (by rfl) ?_;conv=>whnf)|(refine cF (by rfl) ?_;conv=>whnf)))
  obtain ⟨P4, hP4⟩ : ∃ P : World → Prop, P = fun w => ListR true (elZ true 8 8 []) (elQ true 8 8 [] ⟨w, fun k => k ≠ p⟩) w (fun k => k ≠ p) a1 (.mk 0 [] (decide (n1 ≤ 0)) l3 []) ∧ (fun _ => True) w := ⟨_, rfl⟩
  replace H : St w0 G0 p pb s3 ((p, ty, [] ++ [.int .i16 v, .slice none 0 0, .slice none 0 0, .int .i64 (-1), .pointer none, .map none] ++ []) :: []) P4 w := by rw [hP4]; exact H
  refine H.st1 (v := a1) 1 (cells_one hone3) (hone3) rfl (by simp) rfl (Nat.lt_of_lt_of_le (Nat.lt_succ_self _) (Nat.le_of_ble_eq_true rfl)) ?_
  intro w H
  ((conv=>whnf);repeat(first|(refine mvT ?_;conv=>whnf)|(refine mvF ?_;conv=>whnf)|(refine cT (by rfl) ?_;conv=>whnf)|(refine cF (by rfl) ?_;conv=>whnf)))
  replace H : St w0 G0 p pb s3 ((p, ty, [] ++ [.int .i16 v, a1, .slice none 0 0, .int .i64 (-1), .pointer none, .map none] ++ []) :: []) P4 w := H
  refine ldS (H.cell (o := 0) rfl (k := 2) rfl) ?_;((conv=>whnf);repeat(first|(refine mvT ?_;conv=>whnf)|(refine mvF ?_;conv=>whnf)|(refine cT (by rfl) ?_;conv=>whnf)|(refine cF (by rfl) ?_;conv=>whnf)))
  (refine mvB ?_;((conv=>whnf);repeat(first|(refine mvT ?_;conv=>whnf)|(refine mvF ?_;conv=>whnf)|(refine cT (by rfl) ?_;conv=>whnf)|(refine cF (by rfl) ?_;conv=>whnf))))
  refine VC.cutE (fun q : Int × Rd => [(18, .int .i32 q.1), (17, .slice none 0 0), (0, .pointer (some ⟨p, 0, none⟩)), (2, .bool false), (7, .pointer (some ⟨pb, 0, none⟩)), (8, .int .i16 v), (9, .bool fx), (10, .pointer (some ⟨p, 0, none⟩))]) (fun q w' => (-2147483648 ≤ q.1 ∧ q.1 ≤ 2147483647) ∧ rdLn fx s3 = q ∧ St w0 G0 p pb q.2 ((p, ty, [] ++ [.int .i16 v, a1, .slice none 0 0, .int .i64 (-1), .pointer none, .map none] ++ []) :: []) P4 w') ?_ ?_
  · refine cI (by rfl) (fun hc=>?_) (fun hc=>?_)
    · ((conv=>whnf);repeat(first|(refine mvT ?_;conv=>whnf)|(refine mvF ?_;conv=>whnf)|(refine cT (by rfl) ?_;conv=>whnf)|(refine cF (by rfl) ?_;conv=>whnf)))
      refine Does.mono H.lnc ?_
      rintro r w ⟨n, s', rfl, hn, hr, H⟩
      ((conv=>whnf);repeat(first|(refine mvT ?_;conv=>whnf)|(refine mvF ?_;conv=>whnf)|(refine cT (by rfl) ?_;conv=>whnf)|(refine cF (by rfl) ?_;conv=>whnf)))
      exact ⟨(n, s'), ⟨rfl, rfl, rfl, rfl, rfl, rfl, rfl, rfl, trivial⟩, hn, by rw [hc]; exact hr, H⟩
    · ((conv=>whnf);repeat(first|(refine mvT ?_;conv=>whnf)|(refine mvF ?_;conv=>whnf)|(refine cT (by rfl) ?_;conv=>whnf)|(refine cF (by rfl) ?_;conv=>whnf)))
      refine Does.mono H.lnp ?_
      rintro r w ⟨n, s', rfl, hn, hr, H⟩
      ((conv=>whnf);repeat(first|(refine mvT ?_;conv=>whnf)|(refine mvF ?_;conv=>whnf)|(refine cT (by rfl) ?_;conv=>whnf)|(refine cF (by rfl) ?_;conv=>whnf)))
      exact ⟨(n, s'), ⟨rfl, rfl, rfl, rfl, rfl, rfl, rfl, rfl, trivial⟩, hn, by rw [hc]; exact hr, H⟩
  clear H
  rintro ⟨n6, s6⟩ w ⟨hn6, hln6, H⟩
  dsimp only at hn6 hln6 H
  ((conv=>whnf);repeat(first|(refine mvT ?_;conv=>whnf)|(refine mvF ?_;conv=>whnf)|(refine cT (by rfl) ?_;conv=>whnf)|(refine cF (by rfl) ?_;conv=>whnf)))
  refine Does.mono H.ok ?_
  rintro r w ⟨rfl, H⟩
  ((conv=>whnf);repeat(first|(refine mvT ?_;conv=>whnf)|(refine mvF ?_;conv=>whnf)|(refine cT (by rfl) ?_;conv=>whnf)|(refine cF (by rfl) ?_;conv=>whnf)))
  refine cI (by rfl) (fun hbd=>?_) (fun hbd=>?_)
  · have hbd : s6.2 = true := by simpa using hbd
    ((conv=>whnf);repeat(first|(refine mvT ?_;conv=>whnf)|(refine mvF ?_;conv=>whnf)|(refine cT (by rfl) ?_;conv=>whnf)|(refine cF (by rfl) ?_;conv=>whnf)))
    refine Does.mono (H.done hL hp1) ?_
    rintro r w ⟨rfl, H⟩
    ((conv=>whnf);repeat(first|(refine mvT ?_;conv=>whnf)|(refine mvF ?_;conv=>whnf)|(refine cT (by rfl) ?_;conv=>whnf)|(refine cF (by rfl) ?_;conv=>whnf)))
    refine RdPost.early hbd (hup0 (?_)) H
    rw [tail_yes ((rdField_list _ _ _ _ _ _ _ _ _ _ _).trans hr3) ⟨by decide, has_all hv⟩, tail_len ⟨by decide, has_all hv⟩ hln6 hbd]
  have hbd : s6.2 = false := by simpa using hbd
  clear hbd
  ((conv=>whnf);repeat(first|(refine mvT ?_;conv=>whnf)|(refine mvF ?_;conv=>whnf)|(refine cT (by rfl) ?_;conv=>whnf)|(refine cF (by rfl) ?_;conv=>whnf)))
  refine cut_zero ?_
  ((conv=>whnf);repeat(first|(refine mvT ?_;conv=>whnf)|(refine mvF ?_;conv=>whnf)|(refine cT (by rfl) ?_;conv=>whnf)|(refine cF (by rfl) ?_;conv=>whnf)))
  refine VC.cutE (fun a : Value => [(18, .int .i32 n6), (17, a), (0, .pointer (some ⟨p, 0, none⟩)), (2, .bool false), (7, .pointer (some ⟨pb, 0, none⟩)), (8, .int .i16 v), (9, .bool fx), (10, .pointer (some ⟨p, 0, none⟩))]) (fun a w' => ListI w0 G0 p pb 2 [.int .i64 0] (elR 8 v fx 4 []) (elQ true 8 4 []) s6 n6 (decide (n6 ≤ 0)) ((p, ty, [] ++ [.int .i16 v, a1, .slice none 0 0, .int .i64 (-1), .pointer none, .map none] ++ []) :: []) P4 a 0 w') ?_ ?_
  · refine cI (by rfl) (fun hps=>?_) (fun hps=>?_)
    · have hps : 0 < n6 := by have := of_decide_eq_true hps; omega
      ((conv=>whnf);repeat(first|(refine mvT ?_;conv=>whnf)|(refine mvF ?_;conv=>whnf)|(refine cT (by rfl) ?_;conv=>whnf)|(refine cF (by rfl) ?_;conv=>whnf)))
      refine H.grow hps hn6.2 (by decide) rfl rfl (by decide) ?_
      intro g cap post w hc1 hc2 H
      ((conv=>whnf);repeat(first|(refine mvT ?_;conv=>whnf)|(refine mvF ?_;conv=>whnf)|(refine cT (by rfl) ?_;conv=>whnf)|(refine cF (by rfl) ?_;conv=>whnf)))
      exact ⟨_, ⟨rfl, rfl, rfl, rfl, rfl, rfl, rfl, rfl, trivial⟩, ListI.some hps (decide_eq_false (by omega)) hc1 hc2 H⟩
    · have hps : n6 ≤ 0 := by have := of_decide_eq_false hps; omega
      ((conv=>whnf);repeat(first|(refine mvT ?_;conv=>whnf)|(refine mvF ?_;conv=>whnf)|(refine cT (by rfl) ?_;conv=>whnf)|(refine cF (by rfl) ?_;conv=>whnf)))
      exact ⟨_, ⟨rfl, rfl, rfl, rfl, rfl, rfl, rfl, rfl, trivial⟩, ListI.none hps (decide_eq_true hps) H⟩
  clear H
  rintro a6 w H
  ((conv=>whnf);repeat(first|(refine mvT ?_;conv=>whnf)|(refine mvF ?_;conv=>whnf)|(refine cT (by rfl) ?_;conv=>whnf)|(refine cF (by rfl) ?_;conv=>whnf)))
  have hpL6 : inL ((p, ty, [] ++ [.int .i16 v, a1, .slice none 0 0, .int .i64 (-1), .pointer none, .map none] ++ []) :: []) p := inL.head _ _
  refine VL.loop (fun i : Nat => [(18, .int .i32 n6), (17, a6), (19, .int .i32 i), (0, .pointer (some ⟨p, 0, none⟩)), (2, .bool false), (7, .pointer (some ⟨pb, 0, none⟩)), (8, .int .i16 v), (9, .bool fx), (10, .pointer (some ⟨p, 0, none⟩))]) (fun i w' => i ≤ 2147483647 ∧ ListI w0 G0 p pb 2 [.int .i64 0] (elR 8 v fx 4 []) (elQ true 8 4 []) s6 n6 (decide (n6 ≤ 0)) ((p, ty, [] ++ [.int .i16 v, a1, .slice none 0 0, .int .i64 (-1), .pointer none, .map none] ++ []) :: []) P4 a6 i w') (fun i => n6.toNat - i) 0 ⟨rfl, rfl, rfl, rfl, rfl, rfl, rfl, rfl, rfl, trivial⟩ ⟨by decide, H⟩ ?_
  clear H
  rintro i6 w ⟨hi6, H⟩
  ((conv=>whnf);repeat(first|(refine mvT ?_;conv=>whnf)|(refine mvF ?_;conv=>whnf)|(refine cT (by rfl) ?_;conv=>whnf)|(refine cF (by rfl) ?_;conv=>whnf)))
  refine cI (by rfl) (fun h9=>?_) (fun h9=>?_)
  · have hlt6 : (i6 : Int) < n6 := of_decide_eq_true h9
    obtain ⟨g6, cap6, post6, rfl, hgo6, HI⟩ := H.go hlt6
    obtain ⟨es6, ts6, si6, hes6, hez6, hrn6, hts6, hlen1, H⟩ := HI.open hgo6.2.2.2.2
    obtain ⟨L6, hL6⟩ : ∃ L : List Ob, L = ((p, ty, [] ++ [.int .i16 v, a1, .slice none 0 0, .int .i64 (-1), .pointer none, .map none] ++ []) :: []) := ⟨_, rfl⟩
    rw [← hL6] at H hpL6
    obtain ⟨P6, hP6⟩ : ∃ P : World → Prop, P = fun w => (∀ (j : Nat) (c : List Value) (y : T), es6[j]? = some c → ts6[j]? = some y → elQ true 8 4 [] ⟨w, fun k => k ≠ p⟩ c y) ∧ P4 w := ⟨_, rfl⟩
    rw [← hP6] at H
    replace H : St w0 G0 p pb si6 ((g6, 2, es6.flatten ++ [.int .i64 0] ++ ((List.replicate (n6.toNat - (i6 + 1)) [.int .i64 0]).flatten ++ post6)) :: L6) P6 w := H
    ((conv=>whnf);repeat(first|(refine mvT ?_;conv=>whnf)|(refine mvF ?_;conv=>whnf)|(refine cT (by rfl) ?_;conv=>whnf)|(refine cF (by rfl) ?_;conv=>whnf)))
    refine Does.mono H.int64 ?_
    rintro r w ⟨n7, s7, rfl, hn7, hr7, H⟩
    ((conv=>whnf);repeat(first|(refine mvT ?_;conv=>whnf)|(refine mvF ?_;conv=>whnf)|(refine cT (by rfl) ?_;conv=>whnf)|(refine cF (by rfl) ?_;conv=>whnf)))
    refine ⟨g6, 0, rfl, ⟨by omega, by omega⟩, ?_⟩
    ((conv=>whnf);repeat(first|(refine mvT ?_;conv=>whnf)|(refine mvF ?_;conv=>whnf)|(refine cT (by rfl) ?_;conv=>whnf)|(refine cF (by rfl) ?_;conv=>whnf)))
    refine H.st1 (v := .int .i64 n7) 0 (rfl) (rfl) rfl (by first | omega | (simp [hlen1]; done) | (simp [hlen1]; omega)) rfl (Nat.lt_of_lt_of_le (Nat.lt_succ_self _) (Nat.le_of_ble_eq_true rfl)) ?_
    intro w H
    ((conv=>whnf);repeat(first|(refine mvT ?_;conv=>whnf)|(refine mvF ?_;conv=>whnf)|(refine cT (by rfl) ?_;conv=>whnf)|(refine cF (by rfl) ?_;conv=>whnf)))
    replace H : St w0 G0 p pb s7 ((g6, 2, es6.flatten ++ [.int .i64 n7] ++ ((List.replicate (n6.toNat - (i6 + 1)) [.int .i64 0]).flatten ++ post6)) :: L6) P6 w := H
    refine ⟨i6 + 1, ⟨rfl, rfl, ?_, rfl, rfl, rfl, rfl, rfl, rfl, trivial⟩, ⟨by omega, ListI.back hgo6 (LoopI.next hes6 hez6 hrn6 hts6 (cur := [.int .i64 n7]) (x := numT n7) (hr7) rfl (by rw [← hL6]; exact H) fun w hP => ?_)⟩, by omega⟩
    · show some (Value.int .i32 _) = _
      rw [IntKind.wrap_i32]
      simp only [Option.some.injEq, Value.int.injEq, true_and]
      omega
    · skip
      rw [hP6] at hP
      exact ⟨⟨_, hn7, rfl, rfl⟩, hP⟩
  have hge6 : ¬ (i6 : Int) < n6 := of_decide_eq_false h9
  obtain ⟨l8, s8, hone8, hl8, hr8, H⟩ := H.done hge6 hln6 (nl := nlF (.mk 11 0 (-1) (-1) (-1) 0 4 []) v) (sz := elZ true 8 4 []) rfl hpL6 rfl
  ((conv=>whnf);repeat(first|(refine mvT ?_;conv=>whnf)|(refine mvF ?_;conv=>whnf)|(refine cT (by rfl) ?_;conv=>whnf)|(refine cF (by rfl) ?_;conv=>whnf)))
  obtain ⟨P9, hP9⟩ : ∃ P : World → Prop, P = fun w => ListR true (elZ true 8 4 []) (elQ true 8 4 [] ⟨w, fun k => k ≠ p⟩) w (fun k => k ≠ p) a6 (.mk 0 [] (decide (n6 ≤ 0)) l8 []) ∧ P4 w := ⟨_, rfl⟩
  replace H : St w0 G0 p pb s8 ((p, ty, [] ++ [.int .i16 v, a1, .slice none 0 0, .int .i64 (-1), .pointer none, .map none] ++ []) :: []) P9 w := by rw [hP9]; exact H
  refine H.st1 (v := a6) 2 (cells_one hone8) (hone8) rfl (by simp) rfl (Nat.lt_of_lt_of_le (Nat.lt_succ_self _) (Nat.le_of_ble_eq_true rfl)) ?_
  intro w H
  ((conv=>whnf);repeat(first|(refine mvT ?_;conv=>whnf)|(refine mvF ?_;conv=>whnf)|(refine cT (by rfl) ?_;conv=>whnf)|(refine cF (by rfl) ?_;conv=>whnf)))
  replace H : St w0 G0 p pb s8 ((p, ty, [] ++ [.int .i16 v, a1, a6, .int .i64 (-1), .pointer none, .map none] ++ []) :: []) P9 w := H
  refine VC.cutE (fun q : Int × Rd => [(0, .pointer (some ⟨p, 0, none⟩)), (2, .bool false), (7, .pointer (some ⟨pb, 0, none⟩)), (8, .int .i16 v), (9, .bool fx), (10, .pointer (some ⟨p, 0, none⟩))]) (fun q w' => IntKind.i64.wrap q.1 = q.1 ∧ (if hasF (.mk 4 1 (-1) (-1) (-1) (-1) 0 []) v = true then rdField 9 v fx (.mk 4 1 (-1) (-1) (-1) (-1) 0 []) s8 else (dfT 9 (.mk 4 1 (-1) (-1) (-1) (-1) 0 []), s8)) = (numT q.1, q.2) ∧ St w0 G0 p pb q.2 ((p, ty, [] ++ [.int .i16 v, a1, a6, .int .i64 q.1, .pointer none, .map none] ++ []) :: []) P9 w') ?_ ?_
  · refine cI (by rfl) (fun hcv=>?_) (fun hcv=>?_)
    · ((conv=>whnf);repeat(first|(refine mvT ?_;conv=>whnf)|(refine mvF ?_;conv=>whnf)|(refine cT (by rfl) ?_;conv=>whnf)|(refine cF (by rfl) ?_;conv=>whnf)))
      refine Does.mono H.int64 ?_
      rintro r w ⟨n12, s12, rfl, hn12, hr12, H⟩
      ((conv=>whnf);repeat(first|(refine mvT ?_;conv=>whnf)|(refine mvF ?_;conv=>whnf)|(refine cT (by rfl) ?_;conv=>whnf)|(refine cF (by rfl) ?_;conv=>whnf)))
      refine H.st1 (v := .int .i64 n12) 3 (rfl) (rfl) rfl (by simp) rfl (Nat.lt_of_lt_of_le (Nat.lt_succ_self _) (Nat.le_of_ble_eq_true rfl)) ?_
      intro w H
      ((conv=>whnf);repeat(first|(refine mvT ?_;conv=>whnf)|(refine mvF ?_;conv=>whnf)|(refine cT (by rfl) ?_;conv=>whnf)|(refine cF (by rfl) ?_;conv=>whnf)))
      replace H : St w0 G0 p pb s12 ((p, ty, [] ++ [.int .i16 v, a1, a6, .int .i64 n12, .pointer none, .map none] ++ []) :: []) P9 w := H
      have hh : hasF (.mk 4 1 (-1) (-1) (-1) (-1) 0 []) v = true := by have := of_decide_eq_true hcv; rw [hasF_iff]; omega
      exact ⟨(n12, s12), ⟨rfl, rfl, rfl, rfl, rfl, rfl, trivial⟩, hn12, by rw [if_pos hh]; exact (rdField4.trans hr12), H⟩
    · ((conv=>whnf);repeat(first|(refine mvT ?_;conv=>whnf)|(refine mvF ?_;conv=>whnf)|(refine cT (by rfl) ?_;conv=>whnf)|(refine cF (by rfl) ?_;conv=>whnf)))
      have hh : ¬ hasF (.mk 4 1 (-1) (-1) (-1) (-1) 0 []) v = true := by have := of_decide_eq_false hcv; rw [hasF_iff]; omega
      exact ⟨((-1), s8), ⟨rfl, rfl, rfl, rfl, rfl, rfl, trivial⟩, rfl, by rw [if_neg hh]; rfl, H⟩
  clear H
  rintro ⟨n11, s11⟩ w ⟨hn11, hr11, H⟩
  dsimp only at hn11 hr11 H
  ((conv=>whnf);repeat(first|(refine mvT ?_;conv=>whnf)|(refine mvF ?_;conv=>whnf)|(refine cT (by rfl) ?_;conv=>whnf)|(refine cF (by rfl) ?_;conv=>whnf)))
  replace H : St w0 G0 p pb s11 ((p, ty, [] ++ [.int .i16 v, a1, a6, .int .i64 n11, .pointer none, .map none] ++ []) :: []) P9 w := H
  refine VC.cutE (fun q : Value × Bool × List UInt8 × Rd => [(0, .pointer (some ⟨p, 0, none⟩)), (2, .bool false), (7, .pointer (some ⟨pb, 0, none⟩)), (8, .int .i16 v), (9, .bool fx), (10, .pointer (some ⟨p, 0, none⟩))]) (fun q w' => (q.2.1 = true → q.2.2.1 = []) ∧ (if hasF (.mk 8 2 (-1) 2 (-1) 0 0 []) v = true then rdField 9 v fx (.mk 8 2 (-1) 2 (-1) 0 0 []) s11 else (dfT 9 (.mk 8 2 (-1) 2 (-1) 0 0 []), s11)) = (.mk 0 q.2.2.1 q.2.1 [] [], q.2.2.2) ∧ St w0 G0 p pb q.2.2.2 ((p, ty, [] ++ [.int .i16 v, a1, a6, .int .i64 n11, q.1, .map none] ++ []) :: []) (fun w => NTf p q.1 (.mk 0 q.2.2.1 q.2.1 [] []) w ∧ P9 w) w') ?_ ?_
  · refine cI (by rfl) (fun hcv=>?_) (fun hcv=>?_)
    · ((conv=>whnf);repeat(first|(refine mvT ?_;conv=>whnf)|(refine mvF ?_;conv=>whnf)|(refine cT (by rfl) ?_;conv=>whnf)|(refine cF (by rfl) ?_;conv=>whnf)))
      (refine mvB ?_;((conv=>whnf);repeat(first|(refine mvT ?_;conv=>whnf)|(refine mvF ?_;conv=>whnf)|(refine cT (by rfl) ?_;conv=>whnf)|(refine cF (by rfl) ?_;conv=>whnf))))
      refine VC.cutE (fun q : Value × Bool × List UInt8 × Rd => [(22, q.1), (0, .pointer (some ⟨p, 0, none⟩)), (2, .bool false), (7, .pointer (some ⟨pb, 0, none⟩)), (8, .int .i16 v), (9, .bool fx), (10, .pointer (some ⟨p, 0, none⟩))]) (fun q w' => q.1.oneCell' = true ∧ (q.2.1 = true → q.2.2.1 = []) ∧ rdNt fx s11 = (.mk 0 q.2.2.1 q.2.1 [] [], q.2.2.2) ∧ St w0 G0 p pb q.2.2.2 ((p, ty, [] ++ [.int .i16 v, a1, a6, .int .i64 n11, .pointer none, .map none] ++ []) :: []) (fun w => NTf p q.1 (.mk 0 q.2.2.1 q.2.1 [] []) w ∧ P9 w) w') ?_ ?_
      · refine cI (by rfl) (fun hc=>?_) (fun hc=>?_)
        · ((conv=>whnf);repeat(first|(refine mvT ?_;conv=>whnf)|(refine mvF ?_;conv=>whnf)|(refine cT (by rfl) ?_;conv=>whnf)|(refine cF (by rfl) ?_;conv=>whnf)))
          refine Does.mono H.ntc ?_
          rintro r w ⟨c, nl, u, s', rfl, hone, hnl, hr, H⟩
          ((conv=>whnf);repeat(first|(refine mvT ?_;conv=>whnf)|(refine mvF ?_;conv=>whnf)|(refine cT (by rfl) ?_;conv=>whnf)|(refine cF (by rfl) ?_;conv=>whnf)))
          exact ⟨(r, nl, u, s'), ⟨rfl, rfl, rfl, rfl, rfl, rfl, rfl, trivial⟩, hone, hnl, by rw [hc]; exact hr, H⟩
        · ((conv=>whnf);repeat(first|(refine mvT ?_;conv=>whnf)|(refine mvF ?_;conv=>whnf)|(refine cT (by rfl) ?_;conv=>whnf)|(refine cF (by rfl) ?_;conv=>whnf)))
          refine Does.mono H.ntp ?_
          rintro r w ⟨c, nl, u, s', rfl, hone, hnl, hr, H⟩
          ((conv=>whnf);repeat(first|(refine mvT ?_;conv=>whnf)|(refine mvF ?_;conv=>whnf)|(refine cT (by rfl) ?_;conv=>whnf)|(refine cF (by rfl) ?_;conv=>whnf)))
          exact ⟨(r, nl, u, s'), ⟨rfl, rfl, rfl, rfl, rfl, rfl, rfl, trivial⟩, hone, hnl, by rw [hc]; exact hr, H⟩
      clear H
      rintro ⟨c15, nl15, u15, s15⟩ w ⟨hone15, hnl15, hr15, H⟩
      dsimp only at hone15 hnl15 hr15 H
      ((conv=>whnf);repeat(first|(refine mvT ?_;conv=>whnf)|(refine mvF ?_;conv=>whnf)|(refine cT (by rfl) ?_;conv=>whnf)|(refine cF (by rfl) ?_;conv=>whnf)))
      obtain ⟨P16, hP16⟩ : ∃ P : World → Prop, P = fun w => NTf p c15 (.mk 0 u15 nl15 [] []) w ∧ P9 w := ⟨_, rfl⟩
      replace H : St w0 G0 p pb s15 ((p, ty, [] ++ [.int .i16 v, a1, a6, .int .i64 n11, .pointer none, .map none] ++ []) :: []) P16 w := by rw [hP16]; exact H
      refine H.st1 (v := c15) 4 (cells_one hone15) (hone15) rfl (by simp) rfl (Nat.lt_of_lt_of_le (Nat.lt_succ_self _) (Nat.le_of_ble_eq_true rfl)) ?_
      intro w H
      ((conv=>whnf);repeat(first|(refine mvT ?_;conv=>whnf)|(refine mvF ?_;conv=>whnf)|(refine cT (by rfl) ?_;conv=>whnf)|(refine cF (by rfl) ?_;conv=>whnf)))
      replace H : St w0 G0 p pb s15 ((p, ty, [] ++ [.int .i16 v, a1, a6, .int .i64 n11, c15, .map none] ++ []) :: []) P16 w := H
      have hh : hasF (.mk 8 2 (-1) 2 (-1) 0 0 []) v = true := by have := of_decide_eq_true hcv; rw [hasF_iff]; omega
      exact ⟨(c15, nl15, u15, s15), ⟨rfl, rfl, rfl, rfl, rfl, rfl, trivial⟩, hnl15, by rw [if_pos hh]; exact ((rdField8n (by decide)).trans hr15), by rw [hP16] at H; exact H⟩
    · ((conv=>whnf);repeat(first|(refine mvT ?_;conv=>whnf)|(refine mvF ?_;conv=>whnf)|(refine cT (by rfl) ?_;conv=>whnf)|(refine cF (by rfl) ?_;conv=>whnf)))
      have hh : ¬ hasF (.mk 8 2 (-1) 2 (-1) 0 0 []) v = true := by have := of_decide_eq_false hcv; rw [hasF_iff]; omega
      exact ⟨(.pointer none, true, [], s11), ⟨rfl, rfl, rfl, rfl, rfl, rfl, trivial⟩, fun _ => rfl, by rw [if_neg hh]; rfl, H.add fun w' _ => .inl ⟨rfl, rfl⟩⟩
  clear H
  rintro ⟨c14, nl14, u14, s14⟩ w ⟨hnl14, hr14, H⟩
  dsimp only at hnl14 hr14 H
  ((conv=>whnf);repeat(first|(refine mvT ?_;conv=>whnf)|(refine mvF ?_;conv=>whnf)|(refine cT (by rfl) ?_;conv=>whnf)|(refine cF (by rfl) ?_;conv=>whnf)))
  obtain ⟨P18, hP18⟩ : ∃ P : World → Prop, P = fun w => NTf p c14 (.mk 0 u14 nl14 [] []) w ∧ P9 w := ⟨_, rfl⟩
  replace H : St w0 G0 p pb s14 ((p, ty, [] ++ [.int .i16 v, a1, a6, .int .i64 n11, c14, .map none] ++ []) :: []) P18 w := by rw [hP18]; exact H
  (refine mvB ?_;((conv=>whnf);repeat(first|(refine mvT ?_;conv=>whnf)|(refine mvF ?_;conv=>whnf)|(refine cT (by rfl) ?_;conv=>whnf)|(refine cF (by rfl) ?_;conv=>whnf))))
  refine VC.cutE (fun q : Value × List Tg × Rd => [(0, .pointer (some ⟨p, 0, none⟩)), (2, .bool false), (7, .pointer (some ⟨pb, 0, none⟩)), (8, .int .i16 v), (9, .bool fx), (10, .pointer (some ⟨p, 0, none⟩))]) (fun q w' => rdTagsF fx s14 = q.2 ∧ St w0 G0 p pb q.2.2 ((p, ty, [] ++ [.int .i16 v, a1, a6, .int .i64 n11, c14, q.1] ++ []) :: []) (fun w => TGf p q.1 q.2.1 w ∧ P18 w) w') ?_ ?_
  · refine cI (by rfl) (fun hc=>?_) (fun hc=>?_)
    · ((conv=>whnf);repeat(first|(refine mvT ?_;conv=>whnf)|(refine mvF ?_;conv=>whnf)|(refine cT (by rfl) ?_;conv=>whnf)|(refine cF (by rfl) ?_;conv=>whnf)))
      refine Does.mono H.tags ?_
      rintro r w ⟨m, u, s', rfl, hone, hr, H⟩
      ((conv=>whnf);repeat(first|(refine mvT ?_;conv=>whnf)|(refine mvF ?_;conv=>whnf)|(refine cT (by rfl) ?_;conv=>whnf)|(refine cF (by rfl) ?_;conv=>whnf)))
      refine H.st1 (v := m) 5 (rfl) (hone) rfl (by simp) rfl (Nat.lt_of_lt_of_le (Nat.lt_succ_self _) (Nat.le_of_ble_eq_true rfl)) ?_
      intro w H
      ((conv=>whnf);repeat(first|(refine mvT ?_;conv=>whnf)|(refine mvF ?_;conv=>whnf)|(refine cT (by rfl) ?_;conv=>whnf)|(refine cF (by rfl) ?_;conv=>whnf)))
      exact ⟨(m, u, s'), ⟨rfl, rfl, rfl, rfl, rfl, rfl, trivial⟩, by rw [rdTagsF, if_pos hc]; exact hr, H⟩
    · ((conv=>whnf);repeat(first|(refine mvT ?_;conv=>whnf)|(refine mvF ?_;conv=>whnf)|(refine cT (by rfl) ?_;conv=>whnf)|(refine cF (by rfl) ?_;conv=>whnf)))
      exact ⟨(.map none, [], s14), ⟨rfl, rfl, rfl, rfl, rfl, rfl, trivial⟩, by rw [rdTagsF, if_neg (by rw [hc]; decide)], H.add fun w' _ => TagsR.nil _ _⟩
  clear H
  rintro ⟨m19, u19, s19⟩ w ⟨htg, H⟩
  dsimp only at htg H
  ((conv=>whnf);repeat(first|(refine mvT ?_;conv=>whnf)|(refine mvF ?_;conv=>whnf)|(refine cT (by rfl) ?_;conv=>whnf)|(refine cF (by rfl) ?_;conv=>whnf)))
  obtain ⟨P20, hP20⟩ : ∃ P : World → Prop, P = fun w => TGf p m19 u19 w ∧ P18 w := ⟨_, rfl⟩
  replace H : St w0 G0 p pb s19 ((p, ty, [] ++ [.int .i16 v, a1, a6, .int .i64 n11, c14, m19] ++ []) :: []) P20 w := by rw [hP20]; exact H
  have hpart : rdPart 9 v fx dListTransactionsRequest (l, false) = (.mk 0 [] false [.mk 0 [] (decide (n1 ≤ 0)) l3 [], .mk 0 [] (decide (n6 ≤ 0)) l8 [], numT n11, .mk 0 u14 nl14 [] []] u19, s19) := by
    unfold rdPart rdPartW
    rw [rdAll_yes (df := dfT 9) ((rdField_list _ _ _ _ _ _ _ _ _ _ _).trans hr3) ⟨by decide, has_all hv⟩, rdAll_yes (df := dfT 9) ((rdField_list _ _ _ _ _ _ _ _ _ _ _).trans hr8) ⟨by decide, has_all hv⟩, rdAll_ver hr11 (by decide), rdAll_ver hr14 (by decide)]
    simp only [rdAll]
    rw [htg]
  refine Does.mono (H.done hL hp1) ?_
  rintro r w ⟨rfl, H⟩
  ((conv=>whnf);repeat(first|(refine mvT ?_;conv=>whnf)|(refine mvF ?_;conv=>whnf)|(refine cT (by rfl) ?_;conv=>whnf)|(refine cF (by rfl) ?_;conv=>whnf)))
  refine RdPost.end hpart H fun hP => ?_
  rw [hP20] at hP
  obtain ⟨hf20_, hP⟩ := hP
  rw [hP18] at hP
  obtain ⟨hf18_, hP⟩ := hP
  rw [hP9] at hP
  obtain ⟨hf9_, hP⟩ := hP
  rw [hP4] at hP
  obtain ⟨hf4_, hP⟩ := hP
  exact QPt (QA1 (QF11 hl3 hf4_) (QA1 (QF11 hl8 hf9_) (QA1 (QF4 hn11) (QA1 (QF8n (by decide) hnl14 hf18_) (QA0))))) hf20_
end Go.Proofs.YtmmieooipcfbiaaGreatDoor.K
