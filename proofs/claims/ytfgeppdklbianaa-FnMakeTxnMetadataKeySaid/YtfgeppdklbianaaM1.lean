/- TxnMetadataKey. -/
import Derived.Test.YtfgeppdklbianaaM0
import Derived.Test.YtfgeppdklbianaaGkept
set_option linter.unusedVariables false
set_option linter.unusedSimpArgs false
namespace Go.Proofs.Ytfgeppdklbianaa.K
open Go
set_option maxHeartbeats 1600000

abbrev dTxnMetadataKey : List Fd := [.mk 8 0 (-1) (-1) (-1) 0 0 []]
theorem sTxnMetadataKey (w : World) : Does X.P 6 #[] w fun r w' => Msg w' (fun k => w.heap.size ≤ k) r dTxnMetadataKey (-1) ∧ Ext nob w w' := by
  refine Does.of (X := X) (l := []) Try.func6 rfl (by kernel_rfl) (by kernel_rfl) _ rfl ?_
  (repeat (first | (refine V.reg ?_; conv => whnf) | refine V.seqS ?_ | (refine V.regEnd ?_; conv => whnf) | refine V.seqB ?_ | refine V.block ?_ | (refine V.skip ?_; conv => whnf) | (refine V.exit ?_; conv => whnf) | (refine V.ret ?_; conv => whnf) | (refine mvT ?_; conv => whnf) | (refine mvF ?_; conv => whnf) | refine V.condT (by rfl) ?_ | refine V.condF (by rfl) ?_ | refine V.seqCT (by rfl) ?_ | refine V.seqCF (by rfl) ?_))
  intro b w1 hb ho hx
  (repeat (first | (refine V.reg ?_; conv => whnf) | refine V.seqS ?_ | (refine V.regEnd ?_; conv => whnf) | refine V.seqB ?_ | refine V.block ?_ | (refine V.skip ?_; conv => whnf) | (refine V.exit ?_; conv => whnf) | (refine V.ret ?_; conv => whnf) | (refine mvT ?_; conv => whnf) | (refine mvF ?_; conv => whnf) | refine V.condT (by rfl) ?_ | refine V.condF (by rfl) ?_ | refine V.seqCT (by rfl) ?_ | refine V.seqCF (by rfl) ?_))
  intro b2 w2 hb2 ho2 hx2
  (conv => whnf); (repeat (first | (refine V.reg ?_; conv => whnf) | refine V.seqS ?_ | (refine V.regEnd ?_; conv => whnf) | refine V.seqB ?_ | refine V.block ?_ | (refine V.skip ?_; conv => whnf) | (refine V.exit ?_; conv => whnf) | (refine V.ret ?_; conv => whnf) | (refine mvT ?_; conv => whnf) | (refine mvF ?_; conv => whnf) | refine V.condT (by rfl) ?_ | refine V.condF (by rfl) ?_ | refine V.seqCT (by rfl) ?_ | refine V.seqCF (by rfl) ?_))
  refine ⟨_, _, ho.e0 hx2, rfl, rfl, rfl, ?_⟩
  intro w3 ho3 hx3
  have hx03 := (hx.e0 hx2).st hx3 hb
  (conv => whnf); (repeat (first | (refine V.reg ?_; conv => whnf) | refine V.seqS ?_ | (refine V.regEnd ?_; conv => whnf) | refine V.seqB ?_ | refine V.block ?_ | (refine V.skip ?_; conv => whnf) | (refine V.exit ?_; conv => whnf) | (refine V.ret ?_; conv => whnf) | (refine mvT ?_; conv => whnf) | (refine mvF ?_; conv => whnf) | refine V.condT (by rfl) ?_ | refine V.condF (by rfl) ?_ | refine V.seqCT (by rfl) ?_ | refine V.seqCF (by rfl) ?_))
  refine ⟨_, rfl, ho3.cells, ?_⟩
  refine ⟨⟨_, rfl, ?_⟩, hx03⟩
  have ho2 := ho2.ext hx3 (by have := ho.lt; omega)
  have hs := hx.size
  exact FdL.fds (cs := [[.int .i64 8, .int .i64 0, .int .i64 (-1), .int .i64 (-1), .int .i64 (-1), .int .i64 0, .int .i64 0, .slice none 0 0]]) ⟨fdLeaf _ _ _ _ _ _ _ _ _, trivial⟩ ho2 rfl (by omega) (by omega)
theorem fillTxnMetadataKey {F : Nat → Prop} {w : World} {p : Nat} {ty : TypeId} {v : Int} {x : Value} {t : T} (hp : Own w p ty [.int .i16 v, str []]) (ht : Tr w F x t) :
    Does X.P 18 #[.pointer (some ⟨p, 0, none⟩), x] w fun r w' => Own w' p ty [.int .i16 v, str (atT t 0).s] ∧ Ext (fun k => k = p) w w' := by
  obtain ⟨sv, lv, uv, ls, rfl, hn, hs, hl, hels, hu⟩ := ht.open
  refine Does.of (X := X) (l := [_, _]) Try.func18 rfl (by kernel_rfl) (by kernel_rfl) _ rfl ?_
  (repeat (first | (refine V.reg ?_; conv => whnf) | refine V.seqS ?_ | (refine V.regEnd ?_; conv => whnf) | refine V.seqB ?_ | refine V.block ?_ | (refine V.skip ?_; conv => whnf) | (refine V.exit ?_; conv => whnf) | (refine V.ret ?_; conv => whnf) | (refine mvT ?_; conv => whnf) | (refine mvF ?_; conv => whnf) | refine V.condT (by rfl) ?_ | refine V.condF (by rfl) ?_ | refine V.seqCT (by rfl) ?_ | refine V.seqCF (by rfl) ?_))
  intro b w1 hb ho hx
  (repeat (first | (refine V.reg ?_; conv => whnf) | refine V.seqS ?_ | (refine V.regEnd ?_; conv => whnf) | refine V.seqB ?_ | refine V.block ?_ | (refine V.skip ?_; conv => whnf) | (refine V.exit ?_; conv => whnf) | (refine V.ret ?_; conv => whnf) | (refine mvT ?_; conv => whnf) | (refine mvF ?_; conv => whnf) | refine V.condT (by rfl) ?_ | refine V.condF (by rfl) ?_ | refine V.seqCT (by rfl) ?_ | refine V.seqCF (by rfl) ?_))
  refine ⟨_, rfl, ho.cells, ?_⟩
  (conv => whnf); (repeat (first | (refine V.reg ?_; conv => whnf) | refine V.seqS ?_ | (refine V.regEnd ?_; conv => whnf) | refine V.seqB ?_ | refine V.block ?_ | (refine V.skip ?_; conv => whnf) | (refine V.exit ?_; conv => whnf) | (refine V.ret ?_; conv => whnf) | (refine mvT ?_; conv => whnf) | (refine mvF ?_; conv => whnf) | refine V.condT (by rfl) ?_ | refine V.condF (by rfl) ?_ | refine V.seqCT (by rfl) ?_ | refine V.seqCF (by rfl) ?_))
  refine Does.mono (iat_does (ht.e0 hx) 0) ?_
  rintro r2 w2 ⟨hr2, hx2⟩
  obtain ⟨sv2, lv2, uv2, ls2, rfl, hn2, hs2, hl2, hels2, hu2⟩ := hr2.open
  (conv => whnf); (repeat (first | (refine V.reg ?_; conv => whnf) | refine V.seqS ?_ | (refine V.regEnd ?_; conv => whnf) | refine V.seqB ?_ | refine V.block ?_ | (refine V.skip ?_; conv => whnf) | (refine V.exit ?_; conv => whnf) | (refine V.ret ?_; conv => whnf) | (refine mvT ?_; conv => whnf) | (refine mvF ?_; conv => whnf) | refine V.condT (by rfl) ?_ | refine V.condF (by rfl) ?_ | refine V.seqCT (by rfl) ?_ | refine V.seqCF (by rfl) ?_))
  refine ⟨_, _, hs2, ?_⟩
  (conv => whnf); (repeat (first | (refine V.reg ?_; conv => whnf) | refine V.seqS ?_ | (refine V.regEnd ?_; conv => whnf) | refine V.seqB ?_ | refine V.block ?_ | (refine V.skip ?_; conv => whnf) | (refine V.exit ?_; conv => whnf) | (refine V.ret ?_; conv => whnf) | (refine mvT ?_; conv => whnf) | (refine mvF ?_; conv => whnf) | refine V.condT (by rfl) ?_ | refine V.condF (by rfl) ?_ | refine V.seqCT (by rfl) ?_ | refine V.seqCF (by rfl) ?_))
  refine ⟨_, _, (hp.e0 hx).e0 hx2, rfl, rfl, rfl, ?_⟩
  intro w3 ho3 hx3
  (conv => whnf); (repeat (first | (refine V.reg ?_; conv => whnf) | refine V.seqS ?_ | (refine V.regEnd ?_; conv => whnf) | refine V.seqB ?_ | refine V.block ?_ | (refine V.skip ?_; conv => whnf) | (refine V.exit ?_; conv => whnf) | (refine V.ret ?_; conv => whnf) | (refine mvT ?_; conv => whnf) | (refine mvF ?_; conv => whnf) | refine V.condT (by rfl) ?_ | refine V.condF (by rfl) ?_ | refine V.seqCT (by rfl) ?_ | refine V.seqCF (by rfl) ?_))
  exact ⟨ho3, ((hx.e0 hx2).mono fun _ _ f => f.elim).trans hx3 fun _ _ h => h⟩
theorem appTxnMetadataKey {w : World} {p : Nat} {ty : TypeId} {v : Int} {s l : List UInt8} {x : Value} {B : Nat} (hp : Own w p ty [.int .i16 v, str s]) (hx : OB w B x l) (hB : B ≤ w.heap.size) (hd : x.ownBlock ≠ some p) (hl : l.length + (s.length + 4) ≤ 140737488355328) :
    Does X.P 19 #[.pointer (some ⟨p, 0, none⟩), x] w fun r w' => Apd w B x l (fixed v 2 ++ (fixed s.length 2 ++ s)) r w' := by
  refine Does.of (X := X) (l := [_, _]) Try.func19 rfl (by kernel_rfl) (by kernel_rfl) _ rfl ?_
  (repeat (first | (refine V.reg ?_; conv => whnf) | refine V.seqS ?_ | (refine V.regEnd ?_; conv => whnf) | refine V.seqB ?_ | refine V.block ?_ | (refine V.skip ?_; conv => whnf) | (refine V.exit ?_; conv => whnf) | (refine V.ret ?_; conv => whnf) | (refine mvT ?_; conv => whnf) | (refine mvF ?_; conv => whnf) | refine V.condT (by rfl) ?_ | refine V.condF (by rfl) ?_ | refine V.seqCT (by rfl) ?_ | refine V.seqCF (by rfl) ?_))
  refine ldS (hp.cell rfl) ?_; (conv => whnf); (repeat (first | (refine V.reg ?_; conv => whnf) | refine V.seqS ?_ | (refine V.regEnd ?_; conv => whnf) | refine V.seqB ?_ | refine V.block ?_ | (refine V.skip ?_; conv => whnf) | (refine V.exit ?_; conv => whnf) | (refine V.ret ?_; conv => whnf) | (refine mvT ?_; conv => whnf) | (refine mvF ?_; conv => whnf) | refine V.condT (by rfl) ?_ | refine V.condF (by rfl) ?_ | refine V.seqCT (by rfl) ?_ | refine V.seqCF (by rfl) ?_))
  refine ldS (hp.cell rfl) ?_; (conv => whnf); (repeat (first | (refine V.reg ?_; conv => whnf) | refine V.seqS ?_ | (refine V.regEnd ?_; conv => whnf) | refine V.seqB ?_ | refine V.block ?_ | (refine V.skip ?_; conv => whnf) | (refine V.exit ?_; conv => whnf) | (refine V.ret ?_; conv => whnf) | (refine mvT ?_; conv => whnf) | (refine mvF ?_; conv => whnf) | refine V.condT (by rfl) ?_ | refine V.condF (by rfl) ?_ | refine V.seqCT (by rfl) ?_ | refine V.seqCF (by rfl) ?_))
  refine Does.mono (AppendInt16_does hx hB (by omega) v) ?_; rintro r1 w1 h1; (conv => whnf); (repeat (first | (refine V.reg ?_; conv => whnf) | refine V.seqS ?_ | (refine V.regEnd ?_; conv => whnf) | refine V.seqB ?_ | refine V.block ?_ | (refine V.skip ?_; conv => whnf) | (refine V.exit ?_; conv => whnf) | (refine V.ret ?_; conv => whnf) | (refine mvT ?_; conv => whnf) | (refine mvF ?_; conv => whnf) | refine V.condT (by rfl) ?_ | refine V.condF (by rfl) ?_ | refine V.seqCT (by rfl) ?_ | refine V.seqCF (by rfl) ?_))
  have hp1 := hp.ext h1.ext hd
  refine ldS (hp1.cell rfl) ?_; (conv => whnf); (repeat (first | (refine V.reg ?_; conv => whnf) | refine V.seqS ?_ | (refine V.regEnd ?_; conv => whnf) | refine V.seqB ?_ | refine V.block ?_ | (refine V.skip ?_; conv => whnf) | (refine V.exit ?_; conv => whnf) | (refine V.ret ?_; conv => whnf) | (refine mvT ?_; conv => whnf) | (refine mvF ?_; conv => whnf) | refine V.condT (by rfl) ?_ | refine V.condF (by rfl) ?_ | refine V.seqCT (by rfl) ?_ | refine V.seqCF (by rfl) ?_))
  refine Does.mono (AppendString_does h1.ob (Nat.le_trans hB h1.size) s (by rw [List.length_append, fixed_length]; omega)) ?_; rintro r2 w2 h2; (conv => whnf); (repeat (first | (refine V.reg ?_; conv => whnf) | refine V.seqS ?_ | (refine V.regEnd ?_; conv => whnf) | refine V.seqB ?_ | refine V.block ?_ | (refine V.skip ?_; conv => whnf) | (refine V.exit ?_; conv => whnf) | (refine V.ret ?_; conv => whnf) | (refine mvT ?_; conv => whnf) | (refine mvF ?_; conv => whnf) | refine V.condT (by rfl) ?_ | refine V.condF (by rfl) ?_ | refine V.seqCT (by rfl) ?_ | refine V.seqCF (by rfl) ?_))
  exact h1.tr h2
theorem makeTxnMetadataKey {F : Nat → Prop} {w : World} {v : Int} {x : Value} {t : T} (ht : Tr w F x t) (hl : (atT t 0).s.length ≤ 2 ^ 46) :
    Does X.P 8 #[.int .i64 v, x] w fun r w' => OB w' w.heap.size r (fixed v 2 ++ (fixed (atT t 0).s.length 2 ++ (atT t 0).s)) ∧ Ext nob w w' := by
  obtain ⟨sv, lv, uv, ls, rfl, hn, hs, hl', hels, hu⟩ := ht.open
  refine Does.of (X := X) (l := [_, _]) Try.func8 rfl (by kernel_rfl) (by kernel_rfl) _ rfl ?_
  (repeat (first | (refine V.reg ?_; conv => whnf) | refine V.seqS ?_ | (refine V.regEnd ?_; conv => whnf) | refine V.seqB ?_ | refine V.block ?_ | (refine V.skip ?_; conv => whnf) | (refine V.exit ?_; conv => whnf) | (refine V.ret ?_; conv => whnf) | (refine mvT ?_; conv => whnf) | (refine mvF ?_; conv => whnf) | refine V.condT (by rfl) ?_ | refine V.condF (by rfl) ?_ | refine V.seqCT (by rfl) ?_ | refine V.seqCF (by rfl) ?_))
  intro b w1 hb ho hx
  (repeat (first | (refine V.reg ?_; conv => whnf) | refine V.seqS ?_ | (refine V.regEnd ?_; conv => whnf) | refine V.seqB ?_ | refine V.block ?_ | (refine V.skip ?_; conv => whnf) | (refine V.exit ?_; conv => whnf) | (refine V.ret ?_; conv => whnf) | (refine mvT ?_; conv => whnf) | (refine mvF ?_; conv => whnf) | refine V.condT (by rfl) ?_ | refine V.condF (by rfl) ?_ | refine V.seqCT (by rfl) ?_ | refine V.seqCF (by rfl) ?_))
  intro p w2 hp hop hx2
  have hx02 := hx.e0 hx2
  (repeat (first | (refine V.reg ?_; conv => whnf) | refine V.seqS ?_ | (refine V.regEnd ?_; conv => whnf) | refine V.seqB ?_ | refine V.block ?_ | (refine V.skip ?_; conv => whnf) | (refine V.exit ?_; conv => whnf) | (refine V.ret ?_; conv => whnf) | (refine mvT ?_; conv => whnf) | (refine mvF ?_; conv => whnf) | refine V.condT (by rfl) ?_ | refine V.condF (by rfl) ?_ | refine V.seqCT (by rfl) ?_ | refine V.seqCF (by rfl) ?_))
  refine ⟨_, rfl, (ho.e0 hx2).cells, ?_⟩
  (conv => whnf); (repeat (first | (refine V.reg ?_; conv => whnf) | refine V.seqS ?_ | (refine V.regEnd ?_; conv => whnf) | refine V.seqB ?_ | refine V.block ?_ | (refine V.skip ?_; conv => whnf) | (refine V.exit ?_; conv => whnf) | (refine V.ret ?_; conv => whnf) | (refine mvT ?_; conv => whnf) | (refine mvF ?_; conv => whnf) | refine V.condT (by rfl) ?_ | refine V.condF (by rfl) ?_ | refine V.seqCT (by rfl) ?_ | refine V.seqCF (by rfl) ?_))
  refine Does.mono (fillTxnMetadataKey (v := IntKind.i16.wrap v) hop (ht.e0 hx02)) ?_; rintro r3 w3 ⟨hop3, hx3⟩; (conv => whnf); (repeat (first | (refine V.reg ?_; conv => whnf) | refine V.seqS ?_ | (refine V.regEnd ?_; conv => whnf) | refine V.seqB ?_ | refine V.block ?_ | (refine V.skip ?_; conv => whnf) | (refine V.exit ?_; conv => whnf) | (refine V.ret ?_; conv => whnf) | (refine mvT ?_; conv => whnf) | (refine mvF ?_; conv => whnf) | refine V.condT (by rfl) ?_ | refine V.condF (by rfl) ?_ | refine V.seqCT (by rfl) ?_ | refine V.seqCF (by rfl) ?_))
  have hwp : w.heap.size ≤ p := by have := hx.size; omega
  have hx03 := hx02.st hx3 hwp
  refine Does.mono (appTxnMetadataKey hop3 (OB.nil _ _) (Nat.le_refl _) (by simp [Value.ownBlock]) (by simp only [List.length_nil]; omega)) ?_; rintro r4 w4 h4; (conv => whnf); (repeat (first | (refine V.reg ?_; conv => whnf) | refine V.seqS ?_ | (refine V.regEnd ?_; conv => whnf) | refine V.seqB ?_ | refine V.block ?_ | (refine V.skip ?_; conv => whnf) | (refine V.exit ?_; conv => whnf) | (refine V.ret ?_; conv => whnf) | (refine mvT ?_; conv => whnf) | (refine mvF ?_; conv => whnf) | refine V.condT (by rfl) ?_ | refine V.condF (by rfl) ?_ | refine V.seqCT (by rfl) ?_ | refine V.seqCF (by rfl) ?_))
  have e : fixed (IntKind.i16.wrap v) 2 = fixed v 2 := fixed2_mod (wrap_i16m v)
  rw [← e]
  refine ⟨?_, hx03.own h4.ext (B := w.heap.size) (by simp [Value.ownBlock]) (Nat.le_refl _)⟩
  have := h4.ob
  rw [List.nil_append] at this
  exact this.mono hx03.size
theorem lawTxnMetadataKey (v : Int) (hv : 0 ≤ v) (t : T) : fixed v 2 ++ (fixed (atT (fitB 9 v dTxnMetadataKey t) 0).s.length 2 ++ (atT (fitB 9 v dTxnMetadataKey t) 0).s) = fixed v 2 ++ partB 9 v (flexB (-1) v) dTxnMetadataKey t := by
  have e1 : (atT (fitB 9 v dTxnMetadataKey t) 0).s = (atT t 0).s.take most := rfl
  rw [e1]
  have e2 : flexB (-1) v = false := by simp [flexB]
  rw [e2]
  have e3 : nullF (.mk 8 0 (-1) (-1) (-1) 0 0 []) v (atT t 0) = false := nullF_neg _ _ _ _ _ _ _ _ _
  have e4 : hasF (.mk 8 0 (-1) (-1) (-1) 0 0 []) v = true := by simp [hasF, Fd.fr, Fd.to, hv]
  have e5 : fieldB 9 v false (.mk 8 0 (-1) (-1) (-1) 0 0 []) (atT t 0) = fixed ((atT t 0).s.take most).length 2 ++ (atT t 0).s.take most := by
    rw [fieldB_value _ _ _ _ _ (by decide) (by decide), e3]
    rfl
  have e6 : partB 9 v false dTxnMetadataKey t = (if (Fd.mk 8 0 (-1) (-1) (-1) 0 0 []).tag < 0 ∧ hasF (.mk 8 0 (-1) (-1) (-1) 0 0 []) v = true then fieldB 9 v false (.mk 8 0 (-1) (-1) (-1) 0 0 []) (atT t 0) else []) ++ [] ++ [] := rfl
  rw [e6, if_pos ⟨by decide, e4⟩, e5, List.append_nil, List.append_nil]
theorem walkTxnMetadataKey {w : World} {n : Nat} (hn : n < 256) {x : Value} {t : T} (ht : Tr w anyB x t) : Does X.P 3 #[.int .u8 n, x] w fun r w' => r = .bool true ∧ Ext nob w w' := by
  obtain ⟨sv, lv, uv, ls, rfl, hn', hs, hl', hels, hu⟩ := ht.open
  refine Does.of (X := X) (l := [_, _]) Try.func3 rfl (by kernel_rfl) (by kernel_rfl) _ rfl ?_
  (repeat (first | (refine V.reg ?_; conv => whnf) | refine V.seqS ?_ | (refine V.regEnd ?_; conv => whnf) | refine V.seqB ?_ | refine V.block ?_ | (refine V.skip ?_; conv => whnf) | (refine V.exit ?_; conv => whnf) | (refine V.ret ?_; conv => whnf) | (refine mvT ?_; conv => whnf) | (refine mvF ?_; conv => whnf) | refine V.condT (by rfl) ?_ | refine V.condF (by rfl) ?_ | refine V.seqCT (by rfl) ?_ | refine V.seqCF (by rfl) ?_))
  intro b w1 hb ho hx
  (repeat (first | (refine V.reg ?_; conv => whnf) | refine V.seqS ?_ | (refine V.regEnd ?_; conv => whnf) | refine V.seqB ?_ | refine V.block ?_ | (refine V.skip ?_; conv => whnf) | (refine V.exit ?_; conv => whnf) | (refine V.ret ?_; conv => whnf) | (refine mvT ?_; conv => whnf) | (refine mvF ?_; conv => whnf) | refine V.condT (by rfl) ?_ | refine V.condF (by rfl) ?_ | refine V.seqCT (by rfl) ?_ | refine V.seqCF (by rfl) ?_))
  refine ⟨_, rfl, ho.cells, ?_⟩
  (conv => whnf); (repeat (first | (refine V.reg ?_; conv => whnf) | refine V.seqS ?_ | (refine V.regEnd ?_; conv => whnf) | refine V.seqB ?_ | refine V.block ?_ | (refine V.skip ?_; conv => whnf) | (refine V.exit ?_; conv => whnf) | (refine V.ret ?_; conv => whnf) | (refine mvT ?_; conv => whnf) | (refine mvF ?_; conv => whnf) | refine V.condT (by rfl) ?_ | refine V.condF (by rfl) ?_ | refine V.seqCT (by rfl) ?_ | refine V.seqCF (by rfl) ?_))
  refine Does.mono (zzFits1_does (ht.e0 hx)) ?_; rintro r2 w2 ⟨⟨b2, rfl⟩, hx2⟩; (conv => whnf); (repeat (first | (refine V.reg ?_; conv => whnf) | refine V.seqS ?_ | (refine V.regEnd ?_; conv => whnf) | refine V.seqB ?_ | refine V.block ?_ | (refine V.skip ?_; conv => whnf) | (refine V.exit ?_; conv => whnf) | (refine V.ret ?_; conv => whnf) | (refine mvT ?_; conv => whnf) | (refine mvF ?_; conv => whnf) | refine V.condT (by rfl) ?_ | refine V.condF (by rfl) ?_ | refine V.seqCT (by rfl) ?_ | refine V.seqCF (by rfl) ?_))
  have hx02 := hx.e0 hx2
  (first | refine V.cond (by rfl) (fun h1 => ?_) (fun h1 => ?_) | refine V.seqC (by rfl) (fun h1 => ?_) (fun h1 => ?_))
  · (repeat (first | (refine V.reg ?_; conv => whnf) | refine V.seqS ?_ | (refine V.regEnd ?_; conv => whnf) | refine V.seqB ?_ | refine V.block ?_ | (refine V.skip ?_; conv => whnf) | (refine V.exit ?_; conv => whnf) | (refine V.ret ?_; conv => whnf) | (refine mvT ?_; conv => whnf) | (refine mvF ?_; conv => whnf) | refine V.condT (by rfl) ?_ | refine V.condF (by rfl) ?_ | refine V.seqCT (by rfl) ?_ | refine V.seqCF (by rfl) ?_))
    exact ⟨rfl, hx02⟩
  · (repeat (first | (refine V.reg ?_; conv => whnf) | refine V.seqS ?_ | (refine V.regEnd ?_; conv => whnf) | refine V.seqB ?_ | refine V.block ?_ | (refine V.skip ?_; conv => whnf) | (refine V.exit ?_; conv => whnf) | (refine V.ret ?_; conv => whnf) | (refine mvT ?_; conv => whnf) | (refine mvF ?_; conv => whnf) | refine V.condT (by rfl) ?_ | refine V.condF (by rfl) ?_ | refine V.seqCT (by rfl) ?_ | refine V.seqCF (by rfl) ?_))
    refine Does.mono (sTxnMetadataKey w2) ?_; rintro r3 w3 ⟨⟨fv, rfl, hfd⟩, hx3⟩; (conv => whnf); (repeat (first | (refine V.reg ?_; conv => whnf) | refine V.seqS ?_ | (refine V.regEnd ?_; conv => whnf) | refine V.seqB ?_ | refine V.block ?_ | (refine V.skip ?_; conv => whnf) | (refine V.exit ?_; conv => whnf) | (refine V.ret ?_; conv => whnf) | (refine mvT ?_; conv => whnf) | (refine mvF ?_; conv => whnf) | refine V.condT (by rfl) ?_ | refine V.condF (by rfl) ?_ | refine V.seqCT (by rfl) ?_ | refine V.seqCF (by rfl) ?_))
    have hone := hfd
    obtain ⟨ls3, hsl3, _⟩ := hone
    obtain ⟨a3, c3, rfl, _⟩ := hsl3.view
    refine ⟨rfl, by decide, ?_⟩
    (conv => whnf); (repeat (first | (refine V.reg ?_; conv => whnf) | refine V.seqS ?_ | (refine V.regEnd ?_; conv => whnf) | refine V.seqB ?_ | refine V.block ?_ | (refine V.skip ?_; conv => whnf) | (refine V.exit ?_; conv => whnf) | (refine V.ret ?_; conv => whnf) | (refine mvT ?_; conv => whnf) | (refine mvF ?_; conv => whnf) | refine V.condT (by rfl) ?_ | refine V.condF (by rfl) ?_ | refine V.seqCT (by rfl) ?_ | refine V.seqCF (by rfl) ?_))
    intro b4 w4 hb4 ho4 hx4
    (conv => whnf); (repeat (first | (refine V.reg ?_; conv => whnf) | refine V.seqS ?_ | (refine V.regEnd ?_; conv => whnf) | refine V.seqB ?_ | refine V.block ?_ | (refine V.skip ?_; conv => whnf) | (refine V.exit ?_; conv => whnf) | (refine V.ret ?_; conv => whnf) | (refine mvT ?_; conv => whnf) | (refine mvF ?_; conv => whnf) | refine V.condT (by rfl) ?_ | refine V.condF (by rfl) ?_ | refine V.seqCT (by rfl) ?_ | refine V.seqCF (by rfl) ?_))
    refine ⟨_, _, ho4, rfl, rfl, rfl, ?_⟩
    intro w5 ho5 hx5
    have hx25 : Ext nob w3 w5 := hx4.st hx5 hb4
    (conv => whnf); (repeat (first | (refine V.reg ?_; conv => whnf) | refine V.seqS ?_ | (refine V.regEnd ?_; conv => whnf) | refine V.seqB ?_ | refine V.block ?_ | (refine V.skip ?_; conv => whnf) | (refine V.exit ?_; conv => whnf) | (refine V.ret ?_; conv => whnf) | (refine mvT ?_; conv => whnf) | (refine mvF ?_; conv => whnf) | refine V.condT (by rfl) ?_ | refine V.condF (by rfl) ?_ | refine V.seqCT (by rfl) ?_ | refine V.seqCF (by rfl) ?_))
    have hv0 : (IntKind.i64.wrap (n : Int)).tmod 1 = 0 := by rw [Int.tmod_one]
    rw [hv0]
    have hx05 : Ext nob w w5 := (hx02.e0 hx3).e0 hx25
    have hxd := hx05.e0 (ext_drew _)
    have hod := (((ho.e0 hx2).e0 hx3).e0 hx25).e0 (ext_drew _)
    have ho5d := ho5.e0 (ext_drew _)
    have hfdd := (hfd.e0 hx25).e0 (ext_drew _)
    have hok : ∀ f, f ∈ dTxnMetadataKey → okF 9 f = true := by
      intro f hf
      simp only [List.mem_singleton] at hf
      subst hf
      rfl
    (first | refine V.draw mixed (.q 0 (.q 1 (.q 2 (.q 3 (.q 4 (.q 8 (.q 9 (.q 10 (.eff 5 [8, 10] (.eff 6 [8, 10] (.eff 7 [8, 10] (.eff 11 [] (.eff 12 [] (.eff 13 [] (.done))))))))))))))) (by kernel_rfl) ?_ | refine V.drawEnd mixed (.q 0 (.q 1 (.q 2 (.q 3 (.q 4 (.q 8 (.q 9 (.q 10 (.eff 5 [8, 10] (.eff 6 [8, 10] (.eff 7 [8, 10] (.eff 11 [] (.eff 12 [] (.eff 13 [] (.done))))))))))))))) (by kernel_rfl) ?_); (conv => whnf); (repeat (first | (refine V.reg ?_; conv => whnf) | refine V.seqS ?_ | (refine V.regEnd ?_; conv => whnf) | refine V.seqB ?_ | refine V.block ?_ | (refine V.skip ?_; conv => whnf) | (refine V.exit ?_; conv => whnf) | (refine V.ret ?_; conv => whnf) | (refine mvT ?_; conv => whnf) | (refine mvF ?_; conv => whnf) | refine V.condT (by rfl) ?_ | refine V.condF (by rfl) ?_ | refine V.seqCT (by rfl) ?_ | refine V.seqCF (by rfl) ?_))
    refine ldS (ho5d.cell rfl) ?_; (conv => whnf); (repeat (first | (refine V.reg ?_; conv => whnf) | refine V.seqS ?_ | (refine V.regEnd ?_; conv => whnf) | refine V.seqB ?_ | refine V.block ?_ | (refine V.skip ?_; conv => whnf) | (refine V.exit ?_; conv => whnf) | (refine V.ret ?_; conv => whnf) | (refine mvT ?_; conv => whnf) | (refine mvF ?_; conv => whnf) | refine V.condT (by rfl) ?_ | refine V.condF (by rfl) ?_ | refine V.seqCT (by rfl) ?_ | refine V.seqCF (by rfl) ?_))
    refine ⟨_, rfl, hod.cells, ?_⟩
    (conv => whnf); (repeat (first | (refine V.reg ?_; conv => whnf) | refine V.seqS ?_ | (refine V.regEnd ?_; conv => whnf) | refine V.seqB ?_ | refine V.block ?_ | (refine V.skip ?_; conv => whnf) | (refine V.exit ?_; conv => whnf) | (refine V.ret ?_; conv => whnf) | (refine mvT ?_; conv => whnf) | (refine mvF ?_; conv => whnf) | refine V.condT (by rfl) ?_ | refine V.condF (by rfl) ?_ | refine V.seqCT (by rfl) ?_ | refine V.seqCF (by rfl) ?_))
    refine ⟨_, rfl, ho5d.cells, ?_⟩
    (conv => whnf); (repeat (first | (refine V.reg ?_; conv => whnf) | refine V.seqS ?_ | (refine V.regEnd ?_; conv => whnf) | refine V.seqB ?_ | refine V.block ?_ | (refine V.skip ?_; conv => whnf) | (refine V.exit ?_; conv => whnf) | (refine V.ret ?_; conv => whnf) | (refine mvT ?_; conv => whnf) | (refine mvF ?_; conv => whnf) | refine V.condT (by rfl) ?_ | refine V.condF (by rfl) ?_ | refine V.seqCT (by rfl) ?_ | refine V.seqCF (by rfl) ?_))
    refine ⟨_, rfl, hod.cells, ?_⟩
    (conv => whnf); (repeat (first | (refine V.reg ?_; conv => whnf) | refine V.seqS ?_ | (refine V.regEnd ?_; conv => whnf) | refine V.seqB ?_ | refine V.block ?_ | (refine V.skip ?_; conv => whnf) | (refine V.exit ?_; conv => whnf) | (refine V.ret ?_; conv => whnf) | (refine mvT ?_; conv => whnf) | (refine mvF ?_; conv => whnf) | refine V.condT (by rfl) ?_ | refine V.condF (by rfl) ?_ | refine V.seqCT (by rfl) ?_ | refine V.seqCF (by rfl) ?_))
    refine Does.mono (fit_does (fits_do 9) (v := 0) hfdd (ht.e0 hxd) hok (by decide)) ?_
    rintro r6 w6 ⟨hr6, hx6⟩
    refine ⟨by (conv => whnf); exact ⟨⟨_, rfl, (ho5d.e0 hx6).cells, rfl, rfl⟩, ⟨_, rfl, (hod.e0 hx6).cells, rfl, rfl⟩, trivial⟩, ?_⟩
    (conv => whnf); (repeat (first | (refine V.reg ?_; conv => whnf) | refine V.seqS ?_ | (refine V.regEnd ?_; conv => whnf) | refine V.seqB ?_ | refine V.block ?_ | (refine V.skip ?_; conv => whnf) | (refine V.exit ?_; conv => whnf) | (refine V.ret ?_; conv => whnf) | (refine mvT ?_; conv => whnf) | (refine mvF ?_; conv => whnf) | refine V.condT (by rfl) ?_ | refine V.condF (by rfl) ?_ | refine V.seqCT (by rfl) ?_ | refine V.seqCF (by rfl) ?_))
    refine Does.mono (given_does hr6 (fit_small 9 _ (by decide) 0 hok t)) ?_
    rintro r7 w7 ⟨hr7, hx7⟩
    have hx67 := hx6.e0 hx7
    refine ⟨by (conv => whnf); exact ⟨⟨_, rfl, (ho5d.e0 hx67).cells, rfl, rfl⟩, ⟨_, rfl, (hod.e0 hx67).cells, rfl, rfl⟩, trivial⟩, ?_⟩
    (conv => whnf); (repeat (first | (refine V.reg ?_; conv => whnf) | refine V.seqS ?_ | (refine V.regEnd ?_; conv => whnf) | refine V.seqB ?_ | refine V.block ?_ | (refine V.skip ?_; conv => whnf) | (refine V.exit ?_; conv => whnf) | (refine V.ret ?_; conv => whnf) | (refine mvT ?_; conv => whnf) | (refine mvF ?_; conv => whnf) | refine V.condT (by rfl) ?_ | refine V.condF (by rfl) ?_ | refine V.seqCT (by rfl) ?_ | refine V.seqCF (by rfl) ?_))
    have hsl : (atT (fitB 9 0 dTxnMetadataKey t) 0).s.length ≤ 32767 := take_most_length (atT t 0).s
    refine Does.mono (makeTxnMetadataKey (v := 0) hr7 (by omega)) ?_
    rintro r8 w8 ⟨hr8, hx8⟩
    have hx68 := hx67.e0 hx8
    refine ⟨by (conv => whnf); exact ⟨⟨_, rfl, (ho5d.e0 hx68).cells, rfl, rfl⟩, ⟨_, rfl, (hod.e0 hx68).cells, rfl, rfl⟩, trivial⟩, ?_⟩
    (conv => whnf); (repeat (first | (refine V.reg ?_; conv => whnf) | refine V.seqS ?_ | (refine V.regEnd ?_; conv => whnf) | refine V.seqB ?_ | refine V.block ?_ | (refine V.skip ?_; conv => whnf) | (refine V.exit ?_; conv => whnf) | (refine V.ret ?_; conv => whnf) | (refine mvT ?_; conv => whnf) | (refine mvF ?_; conv => whnf) | refine V.condT (by rfl) ?_ | refine V.condF (by rfl) ?_ | refine V.seqCT (by rfl) ?_ | refine V.seqCF (by rfl) ?_))
    rw [lawTxnMetadataKey 0 (by decide)] at hr8
    have hlen : (partB 9 0 (flexB (-1) 0) dTxnMetadataKey t).length ≤ 2 ^ 46 := by
      have h1 := lawTxnMetadataKey 0 (by decide) t
      have h2 := congrArg List.length h1
      simp only [List.length_append, fixed_length] at h2
      omega
    refine Does.mono (kept_does 9 (v := 0) ⟨_, rfl, hfdd.e0 hx68⟩ (ht.e0 (hxd.e0 hx68)) hok (by decide) hlen) ?_
    rintro r9 w9 ⟨hr9, hx9⟩
    (conv => whnf); (repeat (first | (refine V.reg ?_; conv => whnf) | refine V.seqS ?_ | (refine V.regEnd ?_; conv => whnf) | refine V.seqB ?_ | refine V.block ?_ | (refine V.skip ?_; conv => whnf) | (refine V.exit ?_; conv => whnf) | (refine V.ret ?_; conv => whnf) | (refine mvT ?_; conv => whnf) | (refine mvF ?_; conv => whnf) | refine V.condT (by rfl) ?_ | refine V.condF (by rfl) ?_ | refine V.seqCT (by rfl) ?_ | refine V.seqCF (by rfl) ?_))
    refine Does.mono (Same_does (hr8.e0 hx9).bytesAny hr9.bytesAny) ?_
    rintro r10 w10 ⟨rfl, hx10⟩
    (conv => whnf); (repeat (first | (refine V.reg ?_; conv => whnf) | refine V.seqS ?_ | (refine V.regEnd ?_; conv => whnf) | refine V.seqB ?_ | refine V.block ?_ | (refine V.skip ?_; conv => whnf) | (refine V.exit ?_; conv => whnf) | (refine V.ret ?_; conv => whnf) | (refine mvT ?_; conv => whnf) | (refine mvF ?_; conv => whnf) | refine V.condT (by rfl) ?_ | refine V.condF (by rfl) ?_ | refine V.seqCT (by rfl) ?_ | refine V.seqCF (by rfl) ?_))
    exact ⟨by simp [oneOr], ((hxd.e0 hx68).e0 hx9).e0 hx10⟩
end Go.Proofs.Ytfgeppdklbianaa.K
