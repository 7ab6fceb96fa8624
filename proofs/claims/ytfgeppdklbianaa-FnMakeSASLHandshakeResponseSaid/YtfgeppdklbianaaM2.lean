/- SASLHandshakeResponse. -/
import Derived.Test.YtfgeppdklbianaaM0
import Derived.Test.YtfgeppdklbianaaGversion
set_option linter.unusedVariables false
set_option linter.unusedSimpArgs false
namespace Go.Proofs.Ytfgeppdklbianaa.K
open Go
set_option maxHeartbeats 1600000

abbrev dSASLHandshakeResponse : List Fd := [.mk 2 0 (-1) (-1) (-1) 0 0 [], .mk 11 0 (-1) (-1) (-1) 0 8 []]
theorem sSASLHandshakeResponse (w : World) : Does X.P 13 #[] w fun r w' => Msg w' (fun k => w.heap.size ≤ k) r dSASLHandshakeResponse (-1) ∧ Ext nob w w' := by
  refine Does.of (X := X) (l := []) Try.func13 rfl (by kernel_rfl) (by kernel_rfl) _ rfl ?_
  (repeat (first | (refine V.reg ?_; conv => whnf) | refine V.seqS ?_ | (refine V.regEnd ?_; conv => whnf) | refine V.seqB ?_ | refine V.block ?_ | (refine V.skip ?_; conv => whnf) | (refine V.exit ?_; conv => whnf) | (refine V.ret ?_; conv => whnf) | (refine mvT ?_; conv => whnf) | (refine mvF ?_; conv => whnf) | refine V.condT (by rfl) ?_ | refine V.condF (by rfl) ?_ | refine V.seqCT (by rfl) ?_ | refine V.seqCF (by rfl) ?_))
  intro b w1 hb ho hx
  (repeat (first | (refine V.reg ?_; conv => whnf) | refine V.seqS ?_ | (refine V.regEnd ?_; conv => whnf) | refine V.seqB ?_ | refine V.block ?_ | (refine V.skip ?_; conv => whnf) | (refine V.exit ?_; conv => whnf) | (refine V.ret ?_; conv => whnf) | (refine mvT ?_; conv => whnf) | (refine mvF ?_; conv => whnf) | refine V.condT (by rfl) ?_ | refine V.condF (by rfl) ?_ | refine V.seqCT (by rfl) ?_ | refine V.seqCF (by rfl) ?_))
  intro b2 w2 hb2 ho2 hx2
  (conv => whnf); (repeat (first | (refine V.reg ?_; conv => whnf) | refine V.seqS ?_ | (refine V.regEnd ?_; conv => whnf) | refine V.seqB ?_ | refine V.block ?_ | (refine V.skip ?_; conv => whnf) | (refine V.exit ?_; conv => whnf) | (refine V.ret ?_; conv => whnf) | (refine mvT ?_; conv => whnf) | (refine mvF ?_; conv => whnf) | refine V.condT (by rfl) ?_ | refine V.condF (by rfl) ?_ | refine V.seqCT (by rfl) ?_ | refine V.seqCF (by rfl) ?_))
  refine ⟨_, _, ho.e0 hx2, rfl, rfl, rfl, ?_⟩
  intro w3 ho3 hx3
  have hx03 := (hx.e0 hx2).st hx3 hb
  (conv => whnf); (repeat (first | (refine V.reg ?_; conv => whnf) | refine V.seqS ?_ | (refine V.regEnd ?_; conv => whnf) | refine V.seqB ?_ | refine V.block ?_ | (refine V.skip ?_; conv => whnf) | (refine V.exit ?_; conv => whnf) | (refine V.ret ?_; conv => whnf) | (refine mvT ?_; conv => whnf) | (refine mvF ?_; conv => whnf) | refine V.condT (by rfl) ?_ | refine V.condF (by rfl) ?_ | refine V.seqCT (by rfl) ?_ | refine V.seqCF (by rfl) ?_))
  refine ⟨_, rfl, ho3.cells, ?_⟩
  refine ⟨⟨_, rfl, ?_⟩, hx03⟩
  have ho2 := ho2.ext hx3 (by have := ho.lt; omega)
  have hs := hx.size
  exact FdL.fds (cs := [[.int .i64 2, .int .i64 0, .int .i64 (-1), .int .i64 (-1), .int .i64 (-1), .int .i64 0, .int .i64 0, .slice none 0 0], [.int .i64 11, .int .i64 0, .int .i64 (-1), .int .i64 (-1), .int .i64 (-1), .int .i64 0, .int .i64 8, .slice none 0 0]])
    ⟨fdLeaf _ _ _ _ _ _ _ _ _, fdLeaf _ _ _ _ _ _ _ _ _, trivial⟩ ho2 rfl (by omega) (by omega)
abbrev StrT : TypeId := 9
/-- A slice of texts of our own. -/
abbrev OStr (w : World) (B : Nat) (v : Value) (l : List (List UInt8)) : Prop := OSl w B StrT 1 v (l.map fun s => [str s])
theorem OSl.make {w : World} {b : Nat} {T : TypeId} {l : List Value} {sz n : Nat} (h : Own w b T l) (hl : l.length = n * sz) (hn : n ≤ maxLen) {B : Nat} (hB : B ≤ b) : OSl w B T sz (.slice (some ⟨b, 0, none⟩) 0 n) [] := by
  refine ⟨?_, by simp, fun k hk => ?_⟩
  · have := OwnSl.of_own (sz := sz) (n := 0) (cap := n) h (Nat.zero_le _) hn hl
    rw [Nat.zero_mul, List.take_zero] at this
    exact this
  · simp only [Value.ownBlock, Option.some.injEq] at hk
    omega
theorem fillSASLHandshakeResponse {F : Nat → Prop} {w : World} {p : Nat} {ty : TypeId} {v : Int} {x : Value} {t : T} (hp : Own w p ty [.int .i16 v, .int .i16 0, .slice none 0 0]) (ht : Tr w F x t) (hF : ∀ k, F k → k ≠ p) (hsm : (atT t 1).l.length ≤ 1000000) :
    Does X.P 28 #[.pointer (some ⟨p, 0, none⟩), x] w fun r w' => Ext (fun k => k = p) w w' ∧
      ∃ sl ss, Own w' p ty [.int .i16 v, .int .i16 (IntKind.i16.wrap (atT t 0).n), sl] ∧ OStr w' w.heap.size sl ss ∧ ss = (if (atT t 1).nl = true then [] else (atT t 1).l.map T.s) := by
  have htm := ht.mono (F' := fun k => k ≠ p ∧ k < w.heap.size) fun k h1 h2 => ⟨hF k h2, h1⟩
  clear ht hF
  obtain ⟨sv, lv, uv, ls, rfl, hn, hs, hl, hels, hu⟩ := htm.open
  have hpl := hp.lt
  refine Does.of (X := X) (l := [_, _]) Try.func28 rfl (by kernel_rfl) (by kernel_rfl) _ rfl ?_
  (repeat (first | (refine V.reg ?_; conv => whnf) | refine V.seqS ?_ | (refine V.regEnd ?_; conv => whnf) | refine V.seqB ?_ | refine V.block ?_ | (refine V.skip ?_; conv => whnf) | (refine V.exit ?_; conv => whnf) | (refine V.ret ?_; conv => whnf) | (refine mvT ?_; conv => whnf) | (refine mvF ?_; conv => whnf) | refine V.condT (by rfl) ?_ | refine V.condF (by rfl) ?_ | refine V.seqCT (by rfl) ?_ | refine V.seqCF (by rfl) ?_))
  intro b w1 hb ho hx
  (repeat (first | (refine V.reg ?_; conv => whnf) | refine V.seqS ?_ | (refine V.regEnd ?_; conv => whnf) | refine V.seqB ?_ | refine V.block ?_ | (refine V.skip ?_; conv => whnf) | (refine V.exit ?_; conv => whnf) | (refine V.ret ?_; conv => whnf) | (refine mvT ?_; conv => whnf) | (refine mvF ?_; conv => whnf) | refine V.condT (by rfl) ?_ | refine V.condF (by rfl) ?_ | refine V.seqCT (by rfl) ?_ | refine V.seqCF (by rfl) ?_))
  refine ⟨_, rfl, ho.cells, ?_⟩
  (conv => whnf); (repeat (first | (refine V.reg ?_; conv => whnf) | refine V.seqS ?_ | (refine V.regEnd ?_; conv => whnf) | refine V.seqB ?_ | refine V.block ?_ | (refine V.skip ?_; conv => whnf) | (refine V.exit ?_; conv => whnf) | (refine V.ret ?_; conv => whnf) | (refine mvT ?_; conv => whnf) | (refine mvF ?_; conv => whnf) | refine V.condT (by rfl) ?_ | refine V.condF (by rfl) ?_ | refine V.seqCT (by rfl) ?_ | refine V.seqCF (by rfl) ?_))
  refine Does.mono (iat_does (htm.e0 hx) 0) ?_
  rintro r2 w2 ⟨hr2, hx2⟩
  obtain ⟨sv2, lv2, uv2, ls2, rfl, hn2, hs2, hl2, hels2, hu2⟩ := hr2.open
  have hx02 := hx.e0 hx2
  (conv => whnf); (repeat (first | (refine V.reg ?_; conv => whnf) | refine V.seqS ?_ | (refine V.regEnd ?_; conv => whnf) | refine V.seqB ?_ | refine V.block ?_ | (refine V.skip ?_; conv => whnf) | (refine V.exit ?_; conv => whnf) | (refine V.ret ?_; conv => whnf) | (refine mvT ?_; conv => whnf) | (refine mvF ?_; conv => whnf) | refine V.condT (by rfl) ?_ | refine V.condF (by rfl) ?_ | refine V.seqCT (by rfl) ?_ | refine V.seqCF (by rfl) ?_))
  refine ⟨_, _, hp.e0 hx02, rfl, rfl, rfl, ?_⟩
  intro w3 ho3 hx3
  have ho3 : Own w3 p ty [.int .i16 v, .int .i16 (IntKind.i16.wrap (atT t 0).n), .slice none 0 0] := ho3
  have hob3 := (ho.e0 hx2).ext hx3 (by omega)
  have hx03 : Ext (fun k => k = p) w w3 := (hx02.mono fun _ _ f => f.elim).trans hx3 fun _ _ h => h
  have ht3 := htm.ext hx03 fun k _ h => h.1
  (conv => whnf); (repeat (first | (refine V.reg ?_; conv => whnf) | refine V.seqS ?_ | (refine V.regEnd ?_; conv => whnf) | refine V.seqB ?_ | refine V.block ?_ | (refine V.skip ?_; conv => whnf) | (refine V.exit ?_; conv => whnf) | (refine V.ret ?_; conv => whnf) | (refine mvT ?_; conv => whnf) | (refine mvF ?_; conv => whnf) | refine V.condT (by rfl) ?_ | refine V.condF (by rfl) ?_ | refine V.seqCT (by rfl) ?_ | refine V.seqCF (by rfl) ?_))
  refine ⟨_, rfl, hob3.cells, ?_⟩
  (conv => whnf); (repeat (first | (refine V.reg ?_; conv => whnf) | refine V.seqS ?_ | (refine V.regEnd ?_; conv => whnf) | refine V.seqB ?_ | refine V.block ?_ | (refine V.skip ?_; conv => whnf) | (refine V.exit ?_; conv => whnf) | (refine V.ret ?_; conv => whnf) | (refine mvT ?_; conv => whnf) | (refine mvF ?_; conv => whnf) | refine V.condT (by rfl) ?_ | refine V.condF (by rfl) ?_ | refine V.seqCT (by rfl) ?_ | refine V.seqCF (by rfl) ?_))
  refine Does.mono (iat_does ht3 1) ?_
  rintro r4 w4 ⟨hr4, hx4⟩
  obtain ⟨sv4, lv4, uv4, ls4, rfl, hn4, hs4, hl4, hels4, hu4⟩ := hr4.open
  have hx04 : Ext (fun k => k = p) w w4 := hx03.tr0 hx4
  (conv => whnf); (repeat (first | (refine V.reg ?_; conv => whnf) | refine V.seqS ?_ | (refine V.regEnd ?_; conv => whnf) | refine V.seqB ?_ | refine V.block ?_ | (refine V.skip ?_; conv => whnf) | (refine V.exit ?_; conv => whnf) | (refine V.ret ?_; conv => whnf) | (refine mvT ?_; conv => whnf) | (refine mvF ?_; conv => whnf) | refine V.condT (by rfl) ?_ | refine V.condF (by rfl) ?_ | refine V.seqCT (by rfl) ?_ | refine V.seqCF (by rfl) ?_))
  (first | refine V.cond (by rfl) (fun h1 => ?_) (fun h1 => ?_) | refine V.seqC (by rfl) (fun h1 => ?_) (fun h1 => ?_))
  · have hnl : (atT t 1).nl = false := by simpa using h1
    rw [hnl]
    (repeat (first | (refine V.reg ?_; conv => whnf) | refine V.seqS ?_ | (refine V.regEnd ?_; conv => whnf) | refine V.seqB ?_ | refine V.block ?_ | (refine V.skip ?_; conv => whnf) | (refine V.exit ?_; conv => whnf) | (refine V.ret ?_; conv => whnf) | (refine mvT ?_; conv => whnf) | (refine mvF ?_; conv => whnf) | refine V.condT (by rfl) ?_ | refine V.condF (by rfl) ?_ | refine V.seqCT (by rfl) ?_ | refine V.seqCF (by rfl) ?_))
    refine ⟨_, rfl, (hob3.e0 hx4).cells, ?_⟩
    (conv => whnf); (repeat (first | (refine V.reg ?_; conv => whnf) | refine V.seqS ?_ | (refine V.regEnd ?_; conv => whnf) | refine V.seqB ?_ | refine V.block ?_ | (refine V.skip ?_; conv => whnf) | (refine V.exit ?_; conv => whnf) | (refine V.ret ?_; conv => whnf) | (refine mvT ?_; conv => whnf) | (refine mvF ?_; conv => whnf) | refine V.condT (by rfl) ?_ | refine V.condF (by rfl) ?_ | refine V.seqCT (by rfl) ?_ | refine V.seqCF (by rfl) ?_))
    refine Does.mono (iat_does (ht3.e0 hx4) 1) ?_
    rintro r5 w5 ⟨hr5, hx5⟩
    obtain ⟨sv5, lv5, uv5, ls5, rfl, hn5, hs5, hl5, hels5, hu5⟩ := hr5.open
    obtain ⟨a5, c5, rfl, _⟩ := hl5.view
    have hlen5 := hels5.len
    (conv => whnf); (repeat (first | (refine V.reg ?_; conv => whnf) | refine V.seqS ?_ | (refine V.regEnd ?_; conv => whnf) | refine V.seqB ?_ | refine V.block ?_ | (refine V.skip ?_; conv => whnf) | (refine V.exit ?_; conv => whnf) | (refine V.ret ?_; conv => whnf) | (refine mvT ?_; conv => whnf) | (refine mvF ?_; conv => whnf) | refine V.condT (by rfl) ?_ | refine V.condF (by rfl) ?_ | refine V.seqCT (by rfl) ?_ | refine V.seqCF (by rfl) ?_))
    refine ⟨⟨by omega, by omega, by omega, by simp only [Int.toNat_natCast]; omega⟩, ⟨by decide, rfl⟩, ?_⟩
    intro b6 w6 hb6 ho6 hx6
    have hx56 := hx5.e0 hx6
    (conv => whnf); (repeat (first | (refine V.reg ?_; conv => whnf) | refine V.seqS ?_ | (refine V.regEnd ?_; conv => whnf) | refine V.seqB ?_ | refine V.block ?_ | (refine V.skip ?_; conv => whnf) | (refine V.exit ?_; conv => whnf) | (refine V.ret ?_; conv => whnf) | (refine mvT ?_; conv => whnf) | (refine mvF ?_; conv => whnf) | refine V.condT (by rfl) ?_ | refine V.condF (by rfl) ?_ | refine V.seqCT (by rfl) ?_ | refine V.seqCF (by rfl) ?_))
    refine ⟨_, _, (ho3.e0 hx4).e0 hx56, rfl, rfl, rfl, ?_⟩
    intro w7 ho7 hx7
    have hx47 : Ext (fun k => k = p) w4 w7 := (hx56.mono fun _ _ f => f.elim).trans hx7 fun _ _ h => h
    have hob7 := (hob3.e0 hx4).ext hx47 (by omega)
    have ht7 := (ht3.e0 hx4).ext hx47 fun k _ h => h.1
    (conv => whnf); (repeat (first | (refine V.reg ?_; conv => whnf) | refine V.seqS ?_ | (refine V.regEnd ?_; conv => whnf) | refine V.seqB ?_ | refine V.block ?_ | (refine V.skip ?_; conv => whnf) | (refine V.exit ?_; conv => whnf) | (refine V.ret ?_; conv => whnf) | (refine mvT ?_; conv => whnf) | (refine mvF ?_; conv => whnf) | refine V.condT (by rfl) ?_ | refine V.condF (by rfl) ?_ | refine V.seqCT (by rfl) ?_ | refine V.seqCF (by rfl) ?_))
    refine ⟨_, rfl, hob7.cells, ?_⟩
    (conv => whnf); (repeat (first | (refine V.reg ?_; conv => whnf) | refine V.seqS ?_ | (refine V.regEnd ?_; conv => whnf) | refine V.seqB ?_ | refine V.block ?_ | (refine V.skip ?_; conv => whnf) | (refine V.exit ?_; conv => whnf) | (refine V.ret ?_; conv => whnf) | (refine mvT ?_; conv => whnf) | (refine mvF ?_; conv => whnf) | refine V.condT (by rfl) ?_ | refine V.condF (by rfl) ?_ | refine V.seqCT (by rfl) ?_ | refine V.seqCF (by rfl) ?_))
    refine Does.mono (iat_does ht7 1) ?_
    rintro r8 w8 ⟨hr8, hx8⟩
    obtain ⟨sv8, lv8, uv8, ls8, rfl, hn8, hs8, hl8, hels8, hu8⟩ := hr8.open
    obtain ⟨a8, c8, rfl, hc8, hm8, hF8, _, hC8⟩ := hl8.view
    have hlen8 := hels8.len
    (conv => whnf); (repeat (first | (refine V.reg ?_; conv => whnf) | refine V.seqS ?_ | (refine V.regEnd ?_; conv => whnf) | refine V.seqB ?_ | refine V.block ?_ | (refine V.skip ?_; conv => whnf) | (refine V.exit ?_; conv => whnf) | (refine V.ret ?_; conv => whnf) | (refine mvT ?_; conv => whnf) | (refine mvF ?_; conv => whnf) | refine V.condT (by rfl) ?_ | refine V.condF (by rfl) ?_ | refine V.seqCT (by rfl) ?_ | refine V.seqCF (by rfl) ?_))
    have hx48 := hx47.tr0 hx8
    have hx08 : Ext (fun k => k = p) w w8 := hx04.trans hx48 fun _ _ h => h
    have hos8 : OStr w8 w.heap.size (.slice (some ⟨b6, 0, none⟩) 0 ls5.length) [] := by
      have h6 := OSl.make (sz := 1) (n := ls5.length) (ho6.ext hx7 (by have := hx04.size; have := hx5.size; omega)) (by simp) (by rw [maxLen_eq]; omega) (B := w.heap.size) (by have := hx04.size; have := hx5.size; omega)
      exact h6.e0 hx8
    refine V.loop (fun i : Nat × Value => [(0, .pointer (some ⟨p, 0, none⟩)), (27, .slice a8 ls8.length c8), (28, .int .i64 ls8.length), (29, .int .i64 i.1)])
      (fun i w' => (Ext (fun k => k = p) w w' ∧ Ext (fun k => k = p ∨ w.heap.size ≤ k) w8 w' ∧ i.1 ≤ ls8.length) ∧ Own w' p ty [.int .i16 v, .int .i16 (IntKind.i16.wrap (atT t 0).n), i.2] ∧ OStr w' w.heap.size i.2 (((atT t 1).l.take i.1).map T.s)) (fun i => ls8.length - i.1) (0, .slice (some ⟨b6, 0, none⟩) 0 ls5.length)
      ⟨rfl, rfl, rfl, rfl, trivial⟩ ⟨⟨hx08, Ext.refl _ _, Nat.zero_le _⟩, ho7.e0 hx8, hos8⟩ ?_
    rintro ⟨i, sl⟩ w9 ⟨⟨hx09, hx89, hi⟩, ho9, hos9⟩
    dsimp only at hi ho9 hos9
    (repeat (first | (refine V.reg ?_; conv => whnf) | refine V.seqS ?_ | (refine V.regEnd ?_; conv => whnf) | refine V.seqB ?_ | refine V.block ?_ | (refine V.skip ?_; conv => whnf) | (refine V.exit ?_; conv => whnf) | (refine V.ret ?_; conv => whnf) | (refine mvT ?_; conv => whnf) | (refine mvF ?_; conv => whnf) | refine V.condT (by rfl) ?_ | refine V.condF (by rfl) ?_ | refine V.seqCT (by rfl) ?_ | refine V.seqCF (by rfl) ?_))
    (first | refine V.cond (by rfl) (fun h9 => ?_) (fun h9 => ?_) | refine V.seqC (by rfl) (fun h9 => ?_) (fun h9 => ?_))
    · have hil : i < ls8.length := by have := of_decide_eq_true h9; simp only at this; omega
      have hill : i < (atT t 1).l.length := by omega
      have htr := hels8.at' i ls8[i] (atT t 1).l[i] (by simp [hil]) (by simp [hill])
      obtain ⟨b10, o10, rfl, hc10⟩ := hC8 i ls8[i] (by simp [hil])
      have hb10 := hF8 b10 o10 rfl (by omega)
      have hc10 := hc10.ext hx89 (by have := hb10.1; omega)
      have htr9 := htr.ext hx89 fun k _ h => by omega
      (repeat (first | (refine V.reg ?_; conv => whnf) | refine V.seqS ?_ | (refine V.regEnd ?_; conv => whnf) | refine V.seqB ?_ | refine V.block ?_ | (refine V.skip ?_; conv => whnf) | (refine V.exit ?_; conv => whnf) | (refine V.ret ?_; conv => whnf) | (refine mvT ?_; conv => whnf) | (refine mvF ?_; conv => whnf) | refine V.condT (by rfl) ?_ | refine V.condF (by rfl) ?_ | refine V.seqCT (by rfl) ?_ | refine V.seqCF (by rfl) ?_))
      refine ⟨b10, o10, rfl, ⟨by omega, by omega⟩, ?_⟩
      (conv => whnf); (repeat (first | (refine V.reg ?_; conv => whnf) | refine V.seqS ?_ | (refine V.regEnd ?_; conv => whnf) | refine V.seqB ?_ | refine V.block ?_ | (refine V.skip ?_; conv => whnf) | (refine V.exit ?_; conv => whnf) | (refine V.ret ?_; conv => whnf) | (refine mvT ?_; conv => whnf) | (refine mvF ?_; conv => whnf) | refine V.condT (by rfl) ?_ | refine V.condF (by rfl) ?_ | refine V.seqCT (by rfl) ?_ | refine V.seqCF (by rfl) ?_))
      refine ⟨ls8[i], htr.len, by rw [Int.toNat_natCast]; exact hc10, ?_⟩
      (conv => whnf); (repeat (first | (refine V.reg ?_; conv => whnf) | refine V.seqS ?_ | (refine V.regEnd ?_; conv => whnf) | refine V.seqB ?_ | refine V.block ?_ | (refine V.skip ?_; conv => whnf) | (refine V.exit ?_; conv => whnf) | (refine V.ret ?_; conv => whnf) | (refine mvT ?_; conv => whnf) | (refine mvF ?_; conv => whnf) | refine V.condT (by rfl) ?_ | refine V.condF (by rfl) ?_ | refine V.seqCT (by rfl) ?_ | refine V.seqCF (by rfl) ?_))
      intro b11 w11 hb11 ho11 hx11
      (conv => whnf); (repeat (first | (refine V.reg ?_; conv => whnf) | refine V.seqS ?_ | (refine V.regEnd ?_; conv => whnf) | refine V.seqB ?_ | refine V.block ?_ | (refine V.skip ?_; conv => whnf) | (refine V.exit ?_; conv => whnf) | (refine V.ret ?_; conv => whnf) | (refine mvT ?_; conv => whnf) | (refine mvF ?_; conv => whnf) | refine V.condT (by rfl) ?_ | refine V.condF (by rfl) ?_ | refine V.seqCT (by rfl) ?_ | refine V.seqCF (by rfl) ?_))
      refine st_all ls8[i] ho11 htr.len rfl htr.ok ?_
      intro w12 ho12 hx12
      have hx912 : Ext nob w9 w12.drew := (hx11.st hx12 hb11).e0 (ext_drew _)
      have ho12 := ho12.e0 (ext_drew _)
      have htr12 := htr9.e0 hx912
      obtain ⟨sv6, lv6, uv6, ls6, hy, _, hsy, _⟩ := Tr.open ⟨ls8[i], rfl, htr12⟩
      have hci : ls8[i] = [.int .i64 ((atT t 1).l[i]).n, sv6, .bool ((atT t 1).l[i]).nl, lv6, uv6] := by
        have := congrArg Value.cells hy
        exact congrArg Array.toList this
      rw [hci] at ho12
      (repeat (first | (refine V.reg ?_; conv => whnf) | refine V.seqS ?_ | (refine V.regEnd ?_; conv => whnf) | refine V.seqB ?_ | refine V.block ?_ | (refine V.skip ?_; conv => whnf) | (refine V.exit ?_; conv => whnf) | (refine V.ret ?_; conv => whnf) | (refine mvT ?_; conv => whnf) | (refine mvF ?_; conv => whnf) | refine V.condT (by rfl) ?_ | refine V.condF (by rfl) ?_ | refine V.seqCT (by rfl) ?_ | refine V.seqCF (by rfl) ?_))
      (first | refine V.draw mixed (.q 0 (.q 1 (.q 2 (.q 3 (.q 4 (.q 5 (.q 6 (.q 7 (.eff 8 [4] (.eff 9 [] (.q 10 (.q 11 (.eff 12 [] (.done)))))))))))))) (by kernel_rfl) ?_ | refine V.drawEnd mixed (.q 0 (.q 1 (.q 2 (.q 3 (.q 4 (.q 5 (.q 6 (.q 7 (.eff 8 [4] (.eff 9 [] (.q 10 (.q 11 (.eff 12 [] (.done)))))))))))))) (by kernel_rfl) ?_); (conv => whnf); (repeat (first | (refine V.reg ?_; conv => whnf) | refine V.seqS ?_ | (refine V.regEnd ?_; conv => whnf) | refine V.seqB ?_ | refine V.block ?_ | (refine V.skip ?_; conv => whnf) | (refine V.exit ?_; conv => whnf) | (refine V.ret ?_; conv => whnf) | (refine mvT ?_; conv => whnf) | (refine mvF ?_; conv => whnf) | refine V.condT (by rfl) ?_ | refine V.condF (by rfl) ?_ | refine V.seqCT (by rfl) ?_ | refine V.seqCF (by rfl) ?_))
      refine ldS ((ho9.e0 hx912).cell rfl) ?_; (conv => whnf); (repeat (first | (refine V.reg ?_; conv => whnf) | refine V.seqS ?_ | (refine V.regEnd ?_; conv => whnf) | refine V.seqB ?_ | refine V.block ?_ | (refine V.skip ?_; conv => whnf) | (refine V.exit ?_; conv => whnf) | (refine V.ret ?_; conv => whnf) | (refine mvT ?_; conv => whnf) | (refine mvF ?_; conv => whnf) | refine V.condT (by rfl) ?_ | refine V.condF (by rfl) ?_ | refine V.seqCT (by rfl) ?_ | refine V.seqCF (by rfl) ?_))
      refine ldS (ho12.cell rfl) ?_; (conv => whnf); (repeat (first | (refine V.reg ?_; conv => whnf) | refine V.seqS ?_ | (refine V.regEnd ?_; conv => whnf) | refine V.seqB ?_ | refine V.block ?_ | (refine V.skip ?_; conv => whnf) | (refine V.exit ?_; conv => whnf) | (refine V.ret ?_; conv => whnf) | (refine mvT ?_; conv => whnf) | (refine mvF ?_; conv => whnf) | refine V.condT (by rfl) ?_ | refine V.condF (by rfl) ?_ | refine V.seqCT (by rfl) ?_ | refine V.seqCF (by rfl) ?_))
      refine ⟨_, _, hsy, ?_⟩
      (conv => whnf); (repeat (first | (refine V.reg ?_; conv => whnf) | refine V.seqS ?_ | (refine V.regEnd ?_; conv => whnf) | refine V.seqB ?_ | refine V.block ?_ | (refine V.skip ?_; conv => whnf) | (refine V.exit ?_; conv => whnf) | (refine V.ret ?_; conv => whnf) | (refine mvT ?_; conv => whnf) | (refine mvF ?_; conv => whnf) | refine V.condT (by rfl) ?_ | refine V.condF (by rfl) ?_ | refine V.seqCT (by rfl) ?_ | refine V.seqCF (by rfl) ?_))
      intro b13 w13 hb13 ho13 hx13
      have hx913 := hx912.e0 hx13
      refine ⟨by (conv => whnf); exact ⟨⟨_, (ho9.e0 hx913).cell rfl, rfl, rfl⟩, trivial⟩, ?_⟩
      have hl9 : (((atT t 1).l.take i).map T.s).length = i := by rw [List.length_map, List.length_take]; omega
      (conv => whnf); (repeat (first | (refine V.reg ?_; conv => whnf) | refine V.seqS ?_ | (refine V.regEnd ?_; conv => whnf) | refine V.seqB ?_ | refine V.block ?_ | (refine V.skip ?_; conv => whnf) | (refine V.exit ?_; conv => whnf) | (refine V.ret ?_; conv => whnf) | (refine mvT ?_; conv => whnf) | (refine mvF ?_; conv => whnf) | refine V.condT (by rfl) ?_ | refine V.condF (by rfl) ?_ | refine V.seqCT (by rfl) ?_ | refine V.seqCF (by rfl) ?_))
      refine app_struct (ms := [[str ((atT t 1).l[i]).s]]) rfl (hos9.e0 hx913) (src_one ho13 rfl rfl) (by simp) rfl rfl ⟨by simp only [List.length_map, List.length_singleton, hl9]; omega, by simp only [List.length_map, List.length_singleton]; rw [List.length_map] at hl9; omega⟩ (by have := hx09.size; have := hx913.size; omega) ?_
      intro v14 w14 hos14 hx14 hb14 _
      obtain ⟨a14, n14, c14, rfl⟩ : ∃ a n c, v14 = .slice a n c := by
        obtain ⟨a, c, h, _⟩ := hos14.shape
        exact ⟨a, _, c, h⟩
      have ho14 := (ho9.e0 hx913).ext hx14 fun h => by have := hos9.blk p h; omega
      (conv => whnf); (repeat (first | (refine V.reg ?_; conv => whnf) | refine V.seqS ?_ | (refine V.regEnd ?_; conv => whnf) | refine V.seqB ?_ | refine V.block ?_ | (refine V.skip ?_; conv => whnf) | (refine V.exit ?_; conv => whnf) | (refine V.ret ?_; conv => whnf) | (refine mvT ?_; conv => whnf) | (refine mvF ?_; conv => whnf) | refine V.condT (by rfl) ?_ | refine V.condF (by rfl) ?_ | refine V.seqCT (by rfl) ?_ | refine V.seqCF (by rfl) ?_))
      refine ⟨_, _, ho14, rfl, rfl, rfl, ?_⟩
      intro w15 ho15 hx15
      (conv => whnf); (repeat (first | (refine V.reg ?_; conv => whnf) | refine V.seqS ?_ | (refine V.regEnd ?_; conv => whnf) | refine V.seqB ?_ | refine V.block ?_ | (refine V.skip ?_; conv => whnf) | (refine V.exit ?_; conv => whnf) | (refine V.ret ?_; conv => whnf) | (refine mvT ?_; conv => whnf) | (refine mvF ?_; conv => whnf) | refine V.condT (by rfl) ?_ | refine V.condF (by rfl) ?_ | refine V.seqCT (by rfl) ?_ | refine V.seqCF (by rfl) ?_))
      have hx915 : Ext (fun k => k = p ∨ w.heap.size ≤ k) w9 w15 := ((hx913.mono fun _ _ f => f.elim).trans hx14 fun k _ h => .inr (hos9.blk k h)).trans hx15 fun _ _ h => .inl h
      have htk : ((atT t 1).l.take (i + 1)).map T.s = ((atT t 1).l.take i).map T.s ++ [((atT t 1).l[i]).s] := by
        rw [List.take_succ_eq_append_getElem hill, List.map_append]
        rfl
      have hos15 : OStr w15 w.heap.size (.slice a14 n14 c14) (((atT t 1).l.take (i + 1)).map T.s) := by
        rw [htk, OStr, List.map_append]
        exact hos14.ext hx15 fun k hk h => by have := hos14.blk k hk; omega
      refine ⟨(i + 1, _), ⟨rfl, rfl, rfl, inc_eq (by omega), trivial⟩, ⟨⟨hx09.trans hx915 fun k hk h => by omega, hx89.trans hx915 fun _ _ h => h, by simp only; omega⟩, ho15, hos15⟩, by simp only; omega⟩
    · have hil : i = (atT t 1).l.length := by have := of_decide_eq_false h9; simp only at this; omega
      (repeat (first | (refine V.reg ?_; conv => whnf) | refine V.seqS ?_ | (refine V.regEnd ?_; conv => whnf) | refine V.seqB ?_ | refine V.block ?_ | (refine V.skip ?_; conv => whnf) | (refine V.exit ?_; conv => whnf) | (refine V.ret ?_; conv => whnf) | (refine mvT ?_; conv => whnf) | (refine mvF ?_; conv => whnf) | refine V.condT (by rfl) ?_ | refine V.condF (by rfl) ?_ | refine V.seqCT (by rfl) ?_ | refine V.seqCF (by rfl) ?_))
      rw [hil, List.take_length] at hos9
      exact ⟨hx09, sl, _, ho9, hos9, rfl⟩
  · have hnl : (atT t 1).nl = true := by simpa using h1
    (repeat (first | (refine V.reg ?_; conv => whnf) | refine V.seqS ?_ | (refine V.regEnd ?_; conv => whnf) | refine V.seqB ?_ | refine V.block ?_ | (refine V.skip ?_; conv => whnf) | (refine V.exit ?_; conv => whnf) | (refine V.ret ?_; conv => whnf) | (refine mvT ?_; conv => whnf) | (refine mvF ?_; conv => whnf) | refine V.condT (by rfl) ?_ | refine V.condF (by rfl) ?_ | refine V.seqCT (by rfl) ?_ | refine V.seqCF (by rfl) ?_))
    exact ⟨hx04, _, [], ho3.e0 hx4, OSl.nil _ _ _ _, by rw [hnl]; rfl⟩
def strsB (ss : List (List UInt8)) : List UInt8 := ss.flatMap fun s => fixed s.length 2 ++ s
theorem appSASLHandshakeResponse {w : World} {p : Nat} {ty : TypeId} {v n : Int} {sl x : Value} {ss : List (List UInt8)} {B : Nat} (hp : Own w p ty [.int .i16 v, .int .i16 n, sl]) (hos : OStr w 0 sl ss) (hx : OB w B x []) (hB : B ≤ w.heap.size) (hd : ∀ k, k < w.heap.size → x.ownBlock ≠ some k)
    (hl : (fixed n 2 ++ (fixed ss.length 4 ++ strsB ss)).length ≤ 140737488355328) :
    Does X.P 29 #[.pointer (some ⟨p, 0, none⟩), x] w fun r w' => Apd w B x [] (fixed n 2 ++ (fixed ss.length 4 ++ strsB ss)) r w' := by
  have hpl := hp.lt
  simp only [List.length_append, fixed_length] at hl
  obtain ⟨a0, cs, hsl, hcs, hms, hFs, _, hCs⟩ := (hos.sl (F := fun k => k < w.heap.size ∨ True) fun _ _ => .inr trivial).view
  rw [List.length_map] at hsl hcs hFs
  subst hsl
  have hold : ∀ {r w1 m}, Apd w B x [] m r w1 → ∀ {c : List Value} {b o : Nat}, b < w.heap.size → Cells w b o c → Cells w1 b o c := fun h _ _ _ hb hc => hc.ext h.ext (hd _ hb)
  refine Does.of (X := X) (l := [_, _]) Try.func29 rfl (by kernel_rfl) (by kernel_rfl) _ rfl ?_
  (repeat (first | (refine V.reg ?_; conv => whnf) | refine V.seqS ?_ | (refine V.regEnd ?_; conv => whnf) | refine V.seqB ?_ | refine V.block ?_ | (refine V.skip ?_; conv => whnf) | (refine V.exit ?_; conv => whnf) | (refine V.ret ?_; conv => whnf) | (refine mvT ?_; conv => whnf) | (refine mvF ?_; conv => whnf) | refine V.condT (by rfl) ?_ | refine V.condF (by rfl) ?_ | refine V.seqCT (by rfl) ?_ | refine V.seqCF (by rfl) ?_))
  refine ldS (hp.cell rfl) ?_; (conv => whnf); (repeat (first | (refine V.reg ?_; conv => whnf) | refine V.seqS ?_ | (refine V.regEnd ?_; conv => whnf) | refine V.seqB ?_ | refine V.block ?_ | (refine V.skip ?_; conv => whnf) | (refine V.exit ?_; conv => whnf) | (refine V.ret ?_; conv => whnf) | (refine mvT ?_; conv => whnf) | (refine mvF ?_; conv => whnf) | refine V.condT (by rfl) ?_ | refine V.condF (by rfl) ?_ | refine V.seqCT (by rfl) ?_ | refine V.seqCF (by rfl) ?_))
  refine ldS (hp.cell rfl) ?_; (conv => whnf); (repeat (first | (refine V.reg ?_; conv => whnf) | refine V.seqS ?_ | (refine V.regEnd ?_; conv => whnf) | refine V.seqB ?_ | refine V.block ?_ | (refine V.skip ?_; conv => whnf) | (refine V.exit ?_; conv => whnf) | (refine V.ret ?_; conv => whnf) | (refine mvT ?_; conv => whnf) | (refine mvF ?_; conv => whnf) | refine V.condT (by rfl) ?_ | refine V.condF (by rfl) ?_ | refine V.seqCT (by rfl) ?_ | refine V.seqCF (by rfl) ?_))
  refine Does.mono (AppendInt16_does hx hB (by simp only [List.length_nil]; omega) n) ?_; rintro r1 w1 h1; (conv => whnf); (repeat (first | (refine V.reg ?_; conv => whnf) | refine V.seqS ?_ | (refine V.regEnd ?_; conv => whnf) | refine V.seqB ?_ | refine V.block ?_ | (refine V.skip ?_; conv => whnf) | (refine V.exit ?_; conv => whnf) | (refine V.ret ?_; conv => whnf) | (refine mvT ?_; conv => whnf) | (refine mvF ?_; conv => whnf) | refine V.condT (by rfl) ?_ | refine V.condF (by rfl) ?_ | refine V.seqCT (by rfl) ?_ | refine V.seqCF (by rfl) ?_))
  have hp1 := hp.ext h1.ext (hd _ hpl)
  refine ldS (hp1.cell rfl) ?_; (conv => whnf); (repeat (first | (refine V.reg ?_; conv => whnf) | refine V.seqS ?_ | (refine V.regEnd ?_; conv => whnf) | refine V.seqB ?_ | refine V.block ?_ | (refine V.skip ?_; conv => whnf) | (refine V.exit ?_; conv => whnf) | (refine V.ret ?_; conv => whnf) | (refine mvT ?_; conv => whnf) | (refine mvF ?_; conv => whnf) | refine V.condT (by rfl) ?_ | refine V.condF (by rfl) ?_ | refine V.seqCT (by rfl) ?_ | refine V.seqCF (by rfl) ?_))
  refine Does.mono (AppendArrayLen_does h1.ob (Nat.le_trans hB h1.size) (by simp only [List.length_append, List.length_nil, fixed_length]; omega) ss.length) ?_; rintro r2 w2 h2; (conv => whnf); (repeat (first | (refine V.reg ?_; conv => whnf) | refine V.seqS ?_ | (refine V.regEnd ?_; conv => whnf) | refine V.seqB ?_ | refine V.block ?_ | (refine V.skip ?_; conv => whnf) | (refine V.exit ?_; conv => whnf) | (refine V.ret ?_; conv => whnf) | (refine mvT ?_; conv => whnf) | (refine mvF ?_; conv => whnf) | refine V.condT (by rfl) ?_ | refine V.condF (by rfl) ?_ | refine V.seqCT (by rfl) ?_ | refine V.seqCF (by rfl) ?_))
  have h12 := h1.tr h2
  refine V.loop (fun i : Nat × Value => [(1, i.2), (7, .slice a0 ss.length cs), (31, .int .i64 ss.length), (32, .int .i64 i.1)])
    (fun i w' => i.1 ≤ ss.length ∧ Apd w B x [] ((fixed n 2 ++ fixed ss.length 4) ++ strsB (ss.take i.1)) i.2 w') (fun i => ss.length - i.1) (0, r2) ⟨rfl, rfl, rfl, rfl, trivial⟩ ⟨Nat.zero_le _, by rw [List.take_zero]; show Apd w B x [] ((fixed n 2 ++ fixed ss.length 4) ++ []) r2 w2; rw [List.append_nil]; exact h12⟩ ?_
  rintro ⟨i, r3⟩ w3 ⟨hi, h3⟩
  dsimp only at hi h3
  (repeat (first | (refine V.reg ?_; conv => whnf) | refine V.seqS ?_ | (refine V.regEnd ?_; conv => whnf) | refine V.seqB ?_ | refine V.block ?_ | (refine V.skip ?_; conv => whnf) | (refine V.exit ?_; conv => whnf) | (refine V.ret ?_; conv => whnf) | (refine mvT ?_; conv => whnf) | (refine mvF ?_; conv => whnf) | refine V.condT (by rfl) ?_ | refine V.condF (by rfl) ?_ | refine V.seqCT (by rfl) ?_ | refine V.seqCF (by rfl) ?_))
  (first | refine V.cond (by rfl) (fun h4 => ?_) (fun h4 => ?_) | refine V.seqC (by rfl) (fun h4 => ?_) (fun h4 => ?_))
  · have hil : i < ss.length := by have := of_decide_eq_true h4; simp only at this; omega
    have htk : strsB (ss.take (i + 1)) = strsB (ss.take i) ++ (fixed (ss[i]).length 2 ++ ss[i]) := by
      rw [strsB, List.take_succ_eq_append_getElem hil, List.flatMap_append, List.flatMap_cons, List.flatMap_nil, List.append_nil]
      rfl
    have hle : (strsB (ss.take (i + 1))).length ≤ (strsB ss).length := by
      have : strsB ss = strsB (ss.take (i + 1)) ++ strsB (ss.drop (i + 1)) := by
        rw [strsB, strsB, strsB, ← List.flatMap_append, List.take_append_drop]
      rw [this, List.length_append]
      omega
    rw [htk] at hle
    simp only [List.length_append, fixed_length] at hle
    obtain ⟨b5, o5, rfl, hc5⟩ := hCs i [str ss[i]] (by rw [List.getElem?_map]; simp [hil])
    have hb5 : b5 < w.heap.size := (hFs b5 o5 rfl (by omega)).2
    have hc5 := hold h3 hb5 hc5
    (repeat (first | (refine V.reg ?_; conv => whnf) | refine V.seqS ?_ | (refine V.regEnd ?_; conv => whnf) | refine V.seqB ?_ | refine V.block ?_ | (refine V.skip ?_; conv => whnf) | (refine V.exit ?_; conv => whnf) | (refine V.ret ?_; conv => whnf) | (refine mvT ?_; conv => whnf) | (refine mvF ?_; conv => whnf) | refine V.condT (by rfl) ?_ | refine V.condF (by rfl) ?_ | refine V.seqCT (by rfl) ?_ | refine V.seqCF (by rfl) ?_))
    refine ⟨b5, o5, rfl, ⟨by omega, by omega⟩, ?_⟩
    (conv => whnf); (repeat (first | (refine V.reg ?_; conv => whnf) | refine V.seqS ?_ | (refine V.regEnd ?_; conv => whnf) | refine V.seqB ?_ | refine V.block ?_ | (refine V.skip ?_; conv => whnf) | (refine V.exit ?_; conv => whnf) | (refine V.ret ?_; conv => whnf) | (refine mvT ?_; conv => whnf) | (refine mvF ?_; conv => whnf) | refine V.condT (by rfl) ?_ | refine V.condF (by rfl) ?_ | refine V.seqCT (by rfl) ?_ | refine V.seqCF (by rfl) ?_))
    refine ⟨_, ld (hc5.cell (j := 0) rfl) (by simp), ?_⟩
    (conv => whnf); (repeat (first | (refine V.reg ?_; conv => whnf) | refine V.seqS ?_ | (refine V.regEnd ?_; conv => whnf) | refine V.seqB ?_ | refine V.block ?_ | (refine V.skip ?_; conv => whnf) | (refine V.exit ?_; conv => whnf) | (refine V.ret ?_; conv => whnf) | (refine mvT ?_; conv => whnf) | (refine mvF ?_; conv => whnf) | refine V.condT (by rfl) ?_ | refine V.condF (by rfl) ?_ | refine V.seqCT (by rfl) ?_ | refine V.seqCF (by rfl) ?_))
    refine Does.mono (AppendString_does h3.ob (Nat.le_trans hB h3.size) ss[i] (by simp only [List.length_append, List.length_nil, fixed_length]; omega)) ?_; rintro r6 w6 h6; (conv => whnf); (repeat (first | (refine V.reg ?_; conv => whnf) | refine V.seqS ?_ | (refine V.regEnd ?_; conv => whnf) | refine V.seqB ?_ | refine V.block ?_ | (refine V.skip ?_; conv => whnf) | (refine V.exit ?_; conv => whnf) | (refine V.ret ?_; conv => whnf) | (refine mvT ?_; conv => whnf) | (refine mvF ?_; conv => whnf) | refine V.condT (by rfl) ?_ | refine V.condF (by rfl) ?_ | refine V.seqCT (by rfl) ?_ | refine V.seqCF (by rfl) ?_))
    have h36 := h3.tr h6
    exact ⟨(i + 1, r6), ⟨rfl, rfl, rfl, inc_eq (by rw [maxLen_eq] at hms; omega), trivial⟩, ⟨by simp only; omega, by simp only; rw [htk, ← List.append_assoc]; exact h36⟩, by simp only; omega⟩
  · have hil : i = ss.length := by have := of_decide_eq_false h4; simp only at this; omega
    (repeat (first | (refine V.reg ?_; conv => whnf) | refine V.seqS ?_ | (refine V.regEnd ?_; conv => whnf) | refine V.seqB ?_ | refine V.block ?_ | (refine V.skip ?_; conv => whnf) | (refine V.exit ?_; conv => whnf) | (refine V.ret ?_; conv => whnf) | (refine mvT ?_; conv => whnf) | (refine mvF ?_; conv => whnf) | refine V.condT (by rfl) ?_ | refine V.condF (by rfl) ?_ | refine V.seqCT (by rfl) ?_ | refine V.seqCF (by rfl) ?_))
    rw [hil, List.take_length, List.append_assoc] at h3
    exact h3
theorem makeSASLHandshakeResponse {F : Nat → Prop} {w : World} {v : Int} {x : Value} {t : T} (ht : Tr w F x t) (hsm : (atT t 1).l.length ≤ 1000000) (ss : List (List UInt8)) (hss : ss = if (atT t 1).nl = true then [] else (atT t 1).l.map T.s)
    (hl : (fixed (atT t 0).n 2 ++ (fixed ss.length 4 ++ strsB ss)).length ≤ 140737488355328) :
    Does X.P 15 #[.int .i64 v, x] w fun r w' => OB w' w.heap.size r (fixed (atT t 0).n 2 ++ (fixed ss.length 4 ++ strsB ss)) ∧ Ext nob w w' := by
  have htm := ht.mono (F' := fun k => k < w.heap.size) fun k h1 h2 => h1
  clear ht
  obtain ⟨sv, lv, uv, ls, rfl, hn, hs, hl', hels, hu⟩ := htm.open
  refine Does.of (X := X) (l := [_, _]) Try.func15 rfl (by kernel_rfl) (by kernel_rfl) _ rfl ?_
  (repeat (first | (refine V.reg ?_; conv => whnf) | refine V.seqS ?_ | (refine V.regEnd ?_; conv => whnf) | refine V.seqB ?_ | refine V.block ?_ | (refine V.skip ?_; conv => whnf) | (refine V.exit ?_; conv => whnf) | (refine V.ret ?_; conv => whnf) | (refine mvT ?_; conv => whnf) | (refine mvF ?_; conv => whnf) | refine V.condT (by rfl) ?_ | refine V.condF (by rfl) ?_ | refine V.seqCT (by rfl) ?_ | refine V.seqCF (by rfl) ?_))
  intro b w1 hb ho hx
  (repeat (first | (refine V.reg ?_; conv => whnf) | refine V.seqS ?_ | (refine V.regEnd ?_; conv => whnf) | refine V.seqB ?_ | refine V.block ?_ | (refine V.skip ?_; conv => whnf) | (refine V.exit ?_; conv => whnf) | (refine V.ret ?_; conv => whnf) | (refine mvT ?_; conv => whnf) | (refine mvF ?_; conv => whnf) | refine V.condT (by rfl) ?_ | refine V.condF (by rfl) ?_ | refine V.seqCT (by rfl) ?_ | refine V.seqCF (by rfl) ?_))
  intro p w2 hp hop hx2
  have hx02 := hx.e0 hx2
  have hwp : w.heap.size ≤ p := by have := hx.size; omega
  (repeat (first | (refine V.reg ?_; conv => whnf) | refine V.seqS ?_ | (refine V.regEnd ?_; conv => whnf) | refine V.seqB ?_ | refine V.block ?_ | (refine V.skip ?_; conv => whnf) | (refine V.exit ?_; conv => whnf) | (refine V.ret ?_; conv => whnf) | (refine mvT ?_; conv => whnf) | (refine mvF ?_; conv => whnf) | refine V.condT (by rfl) ?_ | refine V.condF (by rfl) ?_ | refine V.seqCT (by rfl) ?_ | refine V.seqCF (by rfl) ?_))
  have hset : Does X.P 27 #[.pointer (some ⟨p, 0, none⟩), .int .i16 (IntKind.i16.wrap v)] w2 fun r w' => Own w' p 66 [.int .i16 (IntKind.i16.wrap v), .int .i16 0, .slice none 0 0] ∧ Ext (fun k => k = p) w2 w' := by
    refine Does.of (X := X) (l := [_, _]) Try.func27 rfl (by kernel_rfl) (by kernel_rfl) _ rfl ?_
    (repeat (first | (refine V.reg ?_; conv => whnf) | refine V.seqS ?_ | (refine V.regEnd ?_; conv => whnf) | refine V.seqB ?_ | refine V.block ?_ | (refine V.skip ?_; conv => whnf) | (refine V.exit ?_; conv => whnf) | (refine V.ret ?_; conv => whnf) | (refine mvT ?_; conv => whnf) | (refine mvF ?_; conv => whnf) | refine V.condT (by rfl) ?_ | refine V.condF (by rfl) ?_ | refine V.seqCT (by rfl) ?_ | refine V.seqCF (by rfl) ?_))
    refine ⟨_, _, hop, rfl, rfl, rfl, ?_⟩
    intro w3 ho3 hx3
    (conv => whnf); (repeat (first | (refine V.reg ?_; conv => whnf) | refine V.seqS ?_ | (refine V.regEnd ?_; conv => whnf) | refine V.seqB ?_ | refine V.block ?_ | (refine V.skip ?_; conv => whnf) | (refine V.exit ?_; conv => whnf) | (refine V.ret ?_; conv => whnf) | (refine mvT ?_; conv => whnf) | (refine mvF ?_; conv => whnf) | refine V.condT (by rfl) ?_ | refine V.condF (by rfl) ?_ | refine V.seqCT (by rfl) ?_ | refine V.seqCF (by rfl) ?_))
    exact ⟨ho3, hx3⟩
  refine Does.mono (hset) ?_; rintro r3 w3 ⟨hop3, hx3⟩; (conv => whnf); (repeat (first | (refine V.reg ?_; conv => whnf) | refine V.seqS ?_ | (refine V.regEnd ?_; conv => whnf) | refine V.seqB ?_ | refine V.block ?_ | (refine V.skip ?_; conv => whnf) | (refine V.exit ?_; conv => whnf) | (refine V.ret ?_; conv => whnf) | (refine mvT ?_; conv => whnf) | (refine mvF ?_; conv => whnf) | refine V.condT (by rfl) ?_ | refine V.condF (by rfl) ?_ | refine V.seqCT (by rfl) ?_ | refine V.seqCF (by rfl) ?_))
  have hx03 := hx02.st hx3 hwp
  have hpb : p ≠ b := by have := ho.lt; omega
  refine ⟨_, rfl, ((ho.e0 hx2).ext hx3 fun h => hpb h.symm).cells, ?_⟩
  (conv => whnf); (repeat (first | (refine V.reg ?_; conv => whnf) | refine V.seqS ?_ | (refine V.regEnd ?_; conv => whnf) | refine V.seqB ?_ | refine V.block ?_ | (refine V.skip ?_; conv => whnf) | (refine V.exit ?_; conv => whnf) | (refine V.ret ?_; conv => whnf) | (refine mvT ?_; conv => whnf) | (refine mvF ?_; conv => whnf) | refine V.condT (by rfl) ?_ | refine V.condF (by rfl) ?_ | refine V.seqCT (by rfl) ?_ | refine V.seqCF (by rfl) ?_))
  refine Does.mono (fillSASLHandshakeResponse hop3 (htm.e0 hx03) (fun k h1 h2 => by omega) hsm) ?_; rintro r4 w4 ⟨hx4, sl, ss', hop4, hos4, hss'⟩; (conv => whnf); (repeat (first | (refine V.reg ?_; conv => whnf) | refine V.seqS ?_ | (refine V.regEnd ?_; conv => whnf) | refine V.seqB ?_ | refine V.block ?_ | (refine V.skip ?_; conv => whnf) | (refine V.exit ?_; conv => whnf) | (refine V.ret ?_; conv => whnf) | (refine mvT ?_; conv => whnf) | (refine mvF ?_; conv => whnf) | refine V.condT (by rfl) ?_ | refine V.condF (by rfl) ?_ | refine V.seqCT (by rfl) ?_ | refine V.seqCF (by rfl) ?_))
  have e : ss' = ss := by rw [hss', hss]
  subst e
  have hx04 := hx03.st hx4 hwp
  have e2 : fixed (IntKind.i16.wrap (atT t 0).n) 2 = fixed (atT t 0).n 2 := fixed2_mod (wrap_i16m _)
  rw [← e2] at hl ⊢
  refine Does.mono (appSASLHandshakeResponse hop4 (hos4.mono (Nat.zero_le _)) (OB.nil _ _) (Nat.le_refl _) (by simp [Value.ownBlock]) hl) ?_; rintro r5 w5 h5; (conv => whnf); (repeat (first | (refine V.reg ?_; conv => whnf) | refine V.seqS ?_ | (refine V.regEnd ?_; conv => whnf) | refine V.seqB ?_ | refine V.block ?_ | (refine V.skip ?_; conv => whnf) | (refine V.exit ?_; conv => whnf) | (refine V.ret ?_; conv => whnf) | (refine mvT ?_; conv => whnf) | (refine mvF ?_; conv => whnf) | refine V.condT (by rfl) ?_ | refine V.condF (by rfl) ?_ | refine V.seqCT (by rfl) ?_ | refine V.seqCF (by rfl) ?_))
  refine ⟨?_, hx04.own h5.ext (B := w.heap.size) (by simp [Value.ownBlock]) (Nat.le_refl _)⟩
  have := h5.ob
  rw [List.nil_append] at this
  exact this.mono hx04.size
theorem lawSASLHandshakeResponse (v : Int) (hv : 0 ≤ v) (t : T) (ss : List (List UInt8)) (hss : ss = if (atT (fitB 9 v dSASLHandshakeResponse t) 1).nl = true then [] else (atT (fitB 9 v dSASLHandshakeResponse t) 1).l.map T.s) :
    fixed (atT (fitB 9 v dSASLHandshakeResponse t) 0).n 2 ++ (fixed ss.length 4 ++ strsB ss) = partB 9 v (flexB (-1) v) dSASLHandshakeResponse t := by
  have e0 : (atT (fitB 9 v dSASLHandshakeResponse t) 0).n = (atT t 0).n := rfl
  have e1 : (atT (fitB 9 v dSASLHandshakeResponse t) 1).nl = (nullF (.mk 11 0 (-1) (-1) (-1) 0 8 []) v (atT t 1) || (decide ((0 : Int) ≤ -1) && (atT t 1).l.isEmpty)) := rfl
  have e2 : (atT (fitB 9 v dSASLHandshakeResponse t) 1).l = ((atT t 1).l.take most).map (fit1 (fun sub t => fitW (fittedB 8 v) sub t) 8 [] false) := rfl
  have e3 : nullF (.mk 11 0 (-1) (-1) (-1) 0 8 []) v (atT t 1) = false := nullF_neg _ _ _ _ _ _ _ _ _
  have e4 : nullF (.mk 2 0 (-1) (-1) (-1) 0 0 []) v (atT t 0) = false := nullF_neg _ _ _ _ _ _ _ _ _
  rw [e1, e3, e2] at hss
  have hss : ss = ((atT t 1).l.take most).map fun x => x.s.take most := by
    rw [hss]
    show List.map T.s _ = _
    rw [List.map_map]
    rfl
  rw [e0]
  have ef : flexB (-1) v = false := by simp [flexB]
  rw [ef]
  have h0 : hasF (.mk 2 0 (-1) (-1) (-1) 0 0 []) v = true := by simp [hasF, Fd.fr, Fd.to, hv]
  have h1 : hasF (.mk 11 0 (-1) (-1) (-1) 0 8 []) v = true := by simp [hasF, Fd.fr, Fd.to, hv]
  have f0 : fieldB 9 v false (.mk 2 0 (-1) (-1) (-1) 0 0 []) (atT t 0) = fixed (atT t 0).n 2 := by
    rw [fieldB_value _ _ _ _ _ (by decide) (by decide), e4]
    rfl
  have f1 : fieldB 9 v false (.mk 11 0 (-1) (-1) (-1) 0 8 []) (atT t 1) = countedB false (nullF (.mk 11 0 (-1) (-1) (-1) 0 8 []) v (atT t 1)) (if nullF (.mk 11 0 (-1) (-1) (-1) 0 8 []) v (atT t 1) = true then [] else (atT t 1).l.take most).length 4 ++
      (if nullF (.mk 11 0 (-1) (-1) (-1) 0 8 []) v (atT t 1) = true then [] else (atT t 1).l.take most).flatMap (valueW (fun sub t => partB 8 v false sub t) 8 [] false false) := rfl
  rw [e3] at f1
  have f2 : fieldB 9 v false (.mk 11 0 (-1) (-1) (-1) 0 8 []) (atT t 1) = fixed ((atT t 1).l.take most).length 4 ++ ((atT t 1).l.take most).flatMap fun x => fixed (x.s.take most).length 2 ++ x.s.take most := f1
  have f3 : partB 9 v false dSASLHandshakeResponse t = (if (Fd.mk 2 0 (-1) (-1) (-1) 0 0 []).tag < 0 ∧ hasF (.mk 2 0 (-1) (-1) (-1) 0 0 []) v = true then fieldB 9 v false (.mk 2 0 (-1) (-1) (-1) 0 0 []) (atT t 0) else []) ++
      ((if (Fd.mk 11 0 (-1) (-1) (-1) 0 8 []).tag < 0 ∧ hasF (.mk 11 0 (-1) (-1) (-1) 0 8 []) v = true then fieldB 9 v false (.mk 11 0 (-1) (-1) (-1) 0 8 []) (atT t 1) else []) ++ []) ++ [] := rfl
  rw [f3, if_pos ⟨by decide, h0⟩, if_pos ⟨by decide, h1⟩, f0, f2, List.append_nil, List.append_nil, hss, List.length_map, strsB, List.flatMap_map]
theorem maxSASLHandshakeResponse (w : World) : Does X.P 12 #[] w fun r w' => r = .int .i64 1 ∧ Ext nob w w' := by
  have hdef : ∀ (p : Nat) (w : World), Does X.P 38 #[.pointer (some ⟨p, 0, none⟩)] w fun r w' => w' = w := by
    intro p w
    refine Does.of (X := X) (l := [_]) Try.func38 rfl (by kernel_rfl) (by kernel_rfl) _ rfl ?_
    (repeat (first | (refine V.reg ?_; conv => whnf) | refine V.seqS ?_ | (refine V.regEnd ?_; conv => whnf) | refine V.seqB ?_ | refine V.block ?_ | (refine V.skip ?_; conv => whnf) | (refine V.exit ?_; conv => whnf) | (refine V.ret ?_; conv => whnf) | (refine mvT ?_; conv => whnf) | (refine mvF ?_; conv => whnf) | refine V.condT (by rfl) ?_ | refine V.condF (by rfl) ?_ | refine V.seqCT (by rfl) ?_ | refine V.seqCF (by rfl) ?_))
  have hnew : Does X.P 25 #[] w fun r w' => (∃ p, r = .pointer (some ⟨p, 0, none⟩)) ∧ Ext nob w w' := by
    refine Does.of (X := X) (l := []) Try.func25 rfl (by kernel_rfl) (by kernel_rfl) _ rfl ?_
    (repeat (first | (refine V.reg ?_; conv => whnf) | refine V.seqS ?_ | (refine V.regEnd ?_; conv => whnf) | refine V.seqB ?_ | refine V.block ?_ | (refine V.skip ?_; conv => whnf) | (refine V.exit ?_; conv => whnf) | (refine V.ret ?_; conv => whnf) | (refine mvT ?_; conv => whnf) | (refine mvF ?_; conv => whnf) | refine V.condT (by rfl) ?_ | refine V.condF (by rfl) ?_ | refine V.seqCT (by rfl) ?_ | refine V.seqCF (by rfl) ?_))
    intro p w1 hp ho hx
    (repeat (first | (refine V.reg ?_; conv => whnf) | refine V.seqS ?_ | (refine V.regEnd ?_; conv => whnf) | refine V.seqB ?_ | refine V.block ?_ | (refine V.skip ?_; conv => whnf) | (refine V.exit ?_; conv => whnf) | (refine V.ret ?_; conv => whnf) | (refine mvT ?_; conv => whnf) | (refine mvF ?_; conv => whnf) | refine V.condT (by rfl) ?_ | refine V.condF (by rfl) ?_ | refine V.seqCT (by rfl) ?_ | refine V.seqCF (by rfl) ?_))
    refine Does.mono (hdef p w1) ?_; rintro r2 w2 rfl; (conv => whnf); (repeat (first | (refine V.reg ?_; conv => whnf) | refine V.seqS ?_ | (refine V.regEnd ?_; conv => whnf) | refine V.seqB ?_ | refine V.block ?_ | (refine V.skip ?_; conv => whnf) | (refine V.exit ?_; conv => whnf) | (refine V.ret ?_; conv => whnf) | (refine mvT ?_; conv => whnf) | (refine mvF ?_; conv => whnf) | refine V.condT (by rfl) ?_ | refine V.condF (by rfl) ?_ | refine V.seqCT (by rfl) ?_ | refine V.seqCF (by rfl) ?_))
    exact ⟨⟨p, rfl⟩, hx⟩
  have hmax : ∀ (p : Nat) (w : World), Does X.P 26 #[.pointer (some ⟨p, 0, none⟩)] w fun r w' => r = .int .i16 1 ∧ w' = w := by
    intro p w
    refine Does.of (X := X) (l := [_]) Try.func26 rfl (by kernel_rfl) (by kernel_rfl) _ rfl ?_
    (repeat (first | (refine V.reg ?_; conv => whnf) | refine V.seqS ?_ | (refine V.regEnd ?_; conv => whnf) | refine V.seqB ?_ | refine V.block ?_ | (refine V.skip ?_; conv => whnf) | (refine V.exit ?_; conv => whnf) | (refine V.ret ?_; conv => whnf) | (refine mvT ?_; conv => whnf) | (refine mvF ?_; conv => whnf) | refine V.condT (by rfl) ?_ | refine V.condF (by rfl) ?_ | refine V.seqCT (by rfl) ?_ | refine V.seqCF (by rfl) ?_))
    exact ⟨rfl, rfl⟩
  refine Does.of (X := X) (l := []) Try.func12 rfl (by kernel_rfl) (by kernel_rfl) _ rfl ?_
  (repeat (first | (refine V.reg ?_; conv => whnf) | refine V.seqS ?_ | (refine V.regEnd ?_; conv => whnf) | refine V.seqB ?_ | refine V.block ?_ | (refine V.skip ?_; conv => whnf) | (refine V.exit ?_; conv => whnf) | (refine V.ret ?_; conv => whnf) | (refine mvT ?_; conv => whnf) | (refine mvF ?_; conv => whnf) | refine V.condT (by rfl) ?_ | refine V.condF (by rfl) ?_ | refine V.seqCT (by rfl) ?_ | refine V.seqCF (by rfl) ?_))
  refine Does.mono (hnew) ?_; rintro r1 w1 ⟨⟨p, rfl⟩, hx⟩; (conv => whnf); (repeat (first | (refine V.reg ?_; conv => whnf) | refine V.seqS ?_ | (refine V.regEnd ?_; conv => whnf) | refine V.seqB ?_ | refine V.block ?_ | (refine V.skip ?_; conv => whnf) | (refine V.exit ?_; conv => whnf) | (refine V.ret ?_; conv => whnf) | (refine mvT ?_; conv => whnf) | (refine mvF ?_; conv => whnf) | refine V.condT (by rfl) ?_ | refine V.condF (by rfl) ?_ | refine V.seqCT (by rfl) ?_ | refine V.seqCF (by rfl) ?_))
  refine Does.mono (hmax p w1) ?_; rintro r2 w2 ⟨rfl, rfl⟩; (conv => whnf); (repeat (first | (refine V.reg ?_; conv => whnf) | refine V.seqS ?_ | (refine V.regEnd ?_; conv => whnf) | refine V.seqB ?_ | refine V.block ?_ | (refine V.skip ?_; conv => whnf) | (refine V.exit ?_; conv => whnf) | (refine V.ret ?_; conv => whnf) | (refine mvT ?_; conv => whnf) | (refine mvF ?_; conv => whnf) | refine V.condT (by rfl) ?_ | refine V.condF (by rfl) ?_ | refine V.seqCT (by rfl) ?_ | refine V.seqCF (by rfl) ?_))
  exact ⟨rfl, hx⟩
theorem walkSASLHandshakeResponse {w : World} {n : Nat} (hn : n < 256) {x : Value} {t : T} (ht : Tr w anyB x t) : Does X.P 4 #[.int .u8 n, x] w fun r w' => r = .bool true ∧ Ext nob w w' := by
  obtain ⟨sv, lv, uv, ls, rfl, hn', hs, hl', hels, hu⟩ := ht.open
  refine Does.of (X := X) (l := [_, _]) Try.func4 rfl (by kernel_rfl) (by kernel_rfl) _ rfl ?_
  (repeat (first | (refine V.reg ?_; conv => whnf) | refine V.seqS ?_ | (refine V.regEnd ?_; conv => whnf) | refine V.seqB ?_ | refine V.block ?_ | (refine V.skip ?_; conv => whnf) | (refine V.exit ?_; conv => whnf) | (refine V.ret ?_; conv => whnf) | (refine mvT ?_; conv => whnf) | (refine mvF ?_; conv => whnf) | refine V.condT (by rfl) ?_ | refine V.condF (by rfl) ?_ | refine V.seqCT (by rfl) ?_ | refine V.seqCF (by rfl) ?_))
  intro b w1 hb ho hx
  (repeat (first | (refine V.reg ?_; conv => whnf) | refine V.seqS ?_ | (refine V.regEnd ?_; conv => whnf) | refine V.seqB ?_ | refine V.block ?_ | (refine V.skip ?_; conv => whnf) | (refine V.exit ?_; conv => whnf) | (refine V.ret ?_; conv => whnf) | (refine mvT ?_; conv => whnf) | (refine mvF ?_; conv => whnf) | refine V.condT (by rfl) ?_ | refine V.condF (by rfl) ?_ | refine V.seqCT (by rfl) ?_ | refine V.seqCF (by rfl) ?_))
  refine ⟨_, rfl, ho.cells, ?_⟩
  (conv => whnf); (repeat (first | (refine V.reg ?_; conv => whnf) | refine V.seqS ?_ | (refine V.regEnd ?_; conv => whnf) | refine V.seqB ?_ | refine V.block ?_ | (refine V.skip ?_; conv => whnf) | (refine V.exit ?_; conv => whnf) | (refine V.ret ?_; conv => whnf) | (refine mvT ?_; conv => whnf) | (refine mvF ?_; conv => whnf) | refine V.condT (by rfl) ?_ | refine V.condF (by rfl) ?_ | refine V.seqCT (by rfl) ?_ | refine V.seqCF (by rfl) ?_))
  refine Does.mono (zzFits1_does (ht.e0 hx)) ?_; rintro r2 w2 ⟨⟨b2, rfl⟩, hx2⟩; (conv => whnf); (repeat (first | (refine V.reg ?_; conv => whnf) | refine V.seqS ?_ | (refine V.regEnd ?_; conv => whnf) | refine V.seqB ?_ | refine V.block ?_ | (refine V.skip ?_; conv => whnf) | (refine V.exit ?_; conv => whnf) | (refine V.ret ?_; conv => whnf) | (refine mvT ?_; conv => whnf) | (refine mvF ?_; conv => whnf) | refine V.condT (by rfl) ?_ | refine V.condF (by rfl) ?_ | refine V.seqCT (by rfl) ?_ | refine V.seqCF (by rfl) ?_))
  have hx02 := hx.e0 hx2
  (first | refine V.cond (by rfl) (fun h1 => ?_) (fun h1 => ?_) | refine V.seqC (by rfl) (fun h1 => ?_) (fun h1 => ?_))
  · (repeat (first | (refine V.reg ?_; conv => whnf) | refine V.seqS ?_ | (refine V.regEnd ?_; conv => whnf) | refine V.seqB ?_ | refine V.block ?_ | (refine V.skip ?_; conv => whnf) | (refine V.exit ?_; conv => whnf) | (refine V.ret ?_; conv => whnf) | (refine mvT ?_; conv => whnf) | (refine mvF ?_; conv => whnf) | refine V.condT (by rfl) ?_ | refine V.condF (by rfl) ?_ | refine V.seqCT (by rfl) ?_ | refine V.seqCF (by rfl) ?_))
    exact ⟨rfl, hx02⟩
  · (repeat (first | (refine V.reg ?_; conv => whnf) | refine V.seqS ?_ | (refine V.regEnd ?_; conv => whnf) | refine V.seqB ?_ | refine V.block ?_ | (refine V.skip ?_; conv => whnf) | (refine V.exit ?_; conv => whnf) | (refine V.ret ?_; conv => whnf) | (refine mvT ?_; conv => whnf) | (refine mvF ?_; conv => whnf) | refine V.condT (by rfl) ?_ | refine V.condF (by rfl) ?_ | refine V.seqCT (by rfl) ?_ | refine V.seqCF (by rfl) ?_))
    refine Does.mono (maxSASLHandshakeResponse w2) ?_; rintro r3 w3 ⟨rfl, hx3⟩; (conv => whnf); (repeat (first | (refine V.reg ?_; conv => whnf) | refine V.seqS ?_ | (refine V.regEnd ?_; conv => whnf) | refine V.seqB ?_ | refine V.block ?_ | (refine V.skip ?_; conv => whnf) | (refine V.exit ?_; conv => whnf) | (refine V.ret ?_; conv => whnf) | (refine mvT ?_; conv => whnf) | (refine mvF ?_; conv => whnf) | refine V.condT (by rfl) ?_ | refine V.condF (by rfl) ?_ | refine V.seqCT (by rfl) ?_ | refine V.seqCF (by rfl) ?_))
    refine Does.mono (sSASLHandshakeResponse w3) ?_; rintro r4 w4 ⟨⟨fv, rfl, hfd⟩, hx4⟩; (conv => whnf); (repeat (first | (refine V.reg ?_; conv => whnf) | refine V.seqS ?_ | (refine V.regEnd ?_; conv => whnf) | refine V.seqB ?_ | refine V.block ?_ | (refine V.skip ?_; conv => whnf) | (refine V.exit ?_; conv => whnf) | (refine V.ret ?_; conv => whnf) | (refine mvT ?_; conv => whnf) | (refine mvF ?_; conv => whnf) | refine V.condT (by rfl) ?_ | refine V.condF (by rfl) ?_ | refine V.seqCT (by rfl) ?_ | refine V.seqCF (by rfl) ?_))
    have hone := hfd
    obtain ⟨ls3, hsl3, _⟩ := hone
    obtain ⟨a3, c3, rfl, _⟩ := hsl3.view
    refine Does.mono (version_does n 1 hn (by omega) w4) ?_; rintro r5 w5 ⟨rfl, rfl⟩; (conv => whnf); (repeat (first | (refine V.reg ?_; conv => whnf) | refine V.seqS ?_ | (refine V.regEnd ?_; conv => whnf) | refine V.seqB ?_ | refine V.block ?_ | (refine V.skip ?_; conv => whnf) | (refine V.exit ?_; conv => whnf) | (refine V.ret ?_; conv => whnf) | (refine mvT ?_; conv => whnf) | (refine mvF ?_; conv => whnf) | refine V.condT (by rfl) ?_ | refine V.condF (by rfl) ?_ | refine V.seqCT (by rfl) ?_ | refine V.seqCF (by rfl) ?_))
    intro b6 w6 hb6 ho6 hx6
    (conv => whnf); (repeat (first | (refine V.reg ?_; conv => whnf) | refine V.seqS ?_ | (refine V.regEnd ?_; conv => whnf) | refine V.seqB ?_ | refine V.block ?_ | (refine V.skip ?_; conv => whnf) | (refine V.exit ?_; conv => whnf) | (refine V.ret ?_; conv => whnf) | (refine mvT ?_; conv => whnf) | (refine mvF ?_; conv => whnf) | refine V.condT (by rfl) ?_ | refine V.condF (by rfl) ?_ | refine V.seqCT (by rfl) ?_ | refine V.seqCF (by rfl) ?_))
    refine ⟨_, _, ho6, rfl, rfl, rfl, ?_⟩
    intro w7 ho7 hx7
    have hx57 : Ext nob w5 w7 := hx6.st hx7 hb6
    (conv => whnf); (repeat (first | (refine V.reg ?_; conv => whnf) | refine V.seqS ?_ | (refine V.regEnd ?_; conv => whnf) | refine V.seqB ?_ | refine V.block ?_ | (refine V.skip ?_; conv => whnf) | (refine V.exit ?_; conv => whnf) | (refine V.ret ?_; conv => whnf) | (refine mvT ?_; conv => whnf) | (refine mvF ?_; conv => whnf) | refine V.condT (by rfl) ?_ | refine V.condF (by rfl) ?_ | refine V.seqCT (by rfl) ?_ | refine V.seqCF (by rfl) ?_))
    have hx07 : Ext nob w w7 := ((hx02.e0 hx3).e0 hx4).e0 hx57
    have hxd := hx07.e0 (ext_drew _)
    have hod := ((((ho.e0 hx2).e0 hx3).e0 hx4).e0 hx57).e0 (ext_drew _)
    have ho7d := ho7.e0 (ext_drew _)
    have hfdd := (hfd.e0 hx57).e0 (ext_drew _)
    generalize hvv : ((n % (1 + 1) : Nat) : Int) = v
    have hv0 : 0 ≤ v := by omega
    have hok : ∀ f, f ∈ dSASLHandshakeResponse → okF 9 f = true := by
      intro f hf
      simp only [List.mem_cons, List.not_mem_nil, or_false] at hf
      rcases hf with rfl | rfl <;> rfl
    (first | refine V.draw mixed (.q 0 (.q 1 (.q 2 (.q 3 (.q 4 (.q 8 (.q 9 (.q 10 (.eff 5 [8, 10] (.eff 6 [8, 10] (.eff 7 [8, 10] (.eff 11 [] (.eff 12 [] (.eff 13 [] (.done))))))))))))))) (by kernel_rfl) ?_ | refine V.drawEnd mixed (.q 0 (.q 1 (.q 2 (.q 3 (.q 4 (.q 8 (.q 9 (.q 10 (.eff 5 [8, 10] (.eff 6 [8, 10] (.eff 7 [8, 10] (.eff 11 [] (.eff 12 [] (.eff 13 [] (.done))))))))))))))) (by kernel_rfl) ?_); (conv => whnf); (repeat (first | (refine V.reg ?_; conv => whnf) | refine V.seqS ?_ | (refine V.regEnd ?_; conv => whnf) | refine V.seqB ?_ | refine V.block ?_ | (refine V.skip ?_; conv => whnf) | (refine V.exit ?_; conv => whnf) | (refine V.ret ?_; conv => whnf) | (refine mvT ?_; conv => whnf) | (refine mvF ?_; conv => whnf) | refine V.condT (by rfl) ?_ | refine V.condF (by rfl) ?_ | refine V.seqCT (by rfl) ?_ | refine V.seqCF (by rfl) ?_))
    refine ldS (ho7d.cell rfl) ?_; (conv => whnf); (repeat (first | (refine V.reg ?_; conv => whnf) | refine V.seqS ?_ | (refine V.regEnd ?_; conv => whnf) | refine V.seqB ?_ | refine V.block ?_ | (refine V.skip ?_; conv => whnf) | (refine V.exit ?_; conv => whnf) | (refine V.ret ?_; conv => whnf) | (refine mvT ?_; conv => whnf) | (refine mvF ?_; conv => whnf) | refine V.condT (by rfl) ?_ | refine V.condF (by rfl) ?_ | refine V.seqCT (by rfl) ?_ | refine V.seqCF (by rfl) ?_))
    refine ⟨_, rfl, hod.cells, ?_⟩
    (conv => whnf); (repeat (first | (refine V.reg ?_; conv => whnf) | refine V.seqS ?_ | (refine V.regEnd ?_; conv => whnf) | refine V.seqB ?_ | refine V.block ?_ | (refine V.skip ?_; conv => whnf) | (refine V.exit ?_; conv => whnf) | (refine V.ret ?_; conv => whnf) | (refine mvT ?_; conv => whnf) | (refine mvF ?_; conv => whnf) | refine V.condT (by rfl) ?_ | refine V.condF (by rfl) ?_ | refine V.seqCT (by rfl) ?_ | refine V.seqCF (by rfl) ?_))
    refine ⟨_, rfl, ho7d.cells, ?_⟩
    (conv => whnf); (repeat (first | (refine V.reg ?_; conv => whnf) | refine V.seqS ?_ | (refine V.regEnd ?_; conv => whnf) | refine V.seqB ?_ | refine V.block ?_ | (refine V.skip ?_; conv => whnf) | (refine V.exit ?_; conv => whnf) | (refine V.ret ?_; conv => whnf) | (refine mvT ?_; conv => whnf) | (refine mvF ?_; conv => whnf) | refine V.condT (by rfl) ?_ | refine V.condF (by rfl) ?_ | refine V.seqCT (by rfl) ?_ | refine V.seqCF (by rfl) ?_))
    refine ⟨_, rfl, hod.cells, ?_⟩
    (conv => whnf); (repeat (first | (refine V.reg ?_; conv => whnf) | refine V.seqS ?_ | (refine V.regEnd ?_; conv => whnf) | refine V.seqB ?_ | refine V.block ?_ | (refine V.skip ?_; conv => whnf) | (refine V.exit ?_; conv => whnf) | (refine V.ret ?_; conv => whnf) | (refine mvT ?_; conv => whnf) | (refine mvF ?_; conv => whnf) | refine V.condT (by rfl) ?_ | refine V.condF (by rfl) ?_ | refine V.seqCT (by rfl) ?_ | refine V.seqCF (by rfl) ?_))
    refine Does.mono (fit_does (fits_do 9) (v := v) hfdd (ht.e0 hxd) hok (by decide)) ?_
    rintro r8 w8 ⟨hr8, hx8⟩
    refine ⟨by (conv => whnf); exact ⟨⟨_, rfl, (ho7d.e0 hx8).cells, rfl, rfl⟩, ⟨_, rfl, (hod.e0 hx8).cells, rfl, rfl⟩, trivial⟩, ?_⟩
    (conv => whnf); (repeat (first | (refine V.reg ?_; conv => whnf) | refine V.seqS ?_ | (refine V.regEnd ?_; conv => whnf) | refine V.seqB ?_ | refine V.block ?_ | (refine V.skip ?_; conv => whnf) | (refine V.exit ?_; conv => whnf) | (refine V.ret ?_; conv => whnf) | (refine mvT ?_; conv => whnf) | (refine mvF ?_; conv => whnf) | refine V.condT (by rfl) ?_ | refine V.condF (by rfl) ?_ | refine V.seqCT (by rfl) ?_ | refine V.seqCF (by rfl) ?_))
    have hsmall := fit_small 9 _ (by decide) v hok t
    refine Does.mono (given_does hr8 hsmall) ?_
    rintro r9 w9 ⟨hr9, hx9⟩
    have hx89 := hx8.e0 hx9
    refine ⟨by (conv => whnf); exact ⟨⟨_, rfl, (ho7d.e0 hx89).cells, rfl, rfl⟩, ⟨_, rfl, (hod.e0 hx89).cells, rfl, rfl⟩, trivial⟩, ?_⟩
    (conv => whnf); (repeat (first | (refine V.reg ?_; conv => whnf) | refine V.seqS ?_ | (refine V.regEnd ?_; conv => whnf) | refine V.seqB ?_ | refine V.block ?_ | (refine V.skip ?_; conv => whnf) | (refine V.exit ?_; conv => whnf) | (refine V.ret ?_; conv => whnf) | (refine mvT ?_; conv => whnf) | (refine mvF ?_; conv => whnf) | refine V.condT (by rfl) ?_ | refine V.condF (by rfl) ?_ | refine V.seqCT (by rfl) ?_ | refine V.seqCF (by rfl) ?_))
    obtain ⟨ss, hss⟩ : ∃ ss, ss = if (atT (fitB 9 v dSASLHandshakeResponse t) 1).nl = true then [] else (atT (fitB 9 v dSASLHandshakeResponse t) 1).l.map T.s := ⟨_, rfl⟩
    have hlaw := lawSASLHandshakeResponse v hv0 t ss hss
    have hL : (atT (fitB 9 v dSASLHandshakeResponse t) 1).l.length ≤ 32767 := by
      show (List.map _ ((atT t 1).l.take most)).length ≤ _
      rw [List.length_map]
      exact take_most_length _
    have hS : ∀ x, x ∈ (atT (fitB 9 v dSASLHandshakeResponse t) 1).l → x.s.length ≤ 32767 := by
      intro x hx
      have hx : x ∈ List.map (fit1 (fun sub t => fitW (fittedB 8 v) sub t) 8 [] false) ((atT t 1).l.take most) := hx
      obtain ⟨y, _, rfl⟩ := List.mem_map.1 hx
      exact take_most_length y.s
    have hlen : (partB 9 v (flexB (-1) v) dSASLHandshakeResponse t).length ≤ 2 ^ 46 := by
      rw [← hlaw]
      have hssl : ss.length ≤ 32767 ∧ ∀ s, s ∈ ss → s.length ≤ 32767 := by
        rw [hss]
        split
        · exact ⟨by simp, by simp⟩
        · refine ⟨by rw [List.length_map]; exact hL, fun s hs => ?_⟩
          obtain ⟨y, hy, rfl⟩ := List.mem_map.1 hs
          exact hS y hy
      have hb : ∀ l : List (List UInt8), (∀ s, s ∈ l → s.length ≤ 32767) → (strsB l).length ≤ l.length * 32769 := by
        intro l
        induction l with
        | nil => simp [strsB]
        | cons s r ih =>
          intro h
          have h1 := h s (by simp)
          have h2 := ih fun s hs => h s (by simp [hs])
          have h3 : strsB (s :: r) = (fixed s.length 2 ++ s) ++ strsB r := rfl
          rw [h3]
          simp only [List.length_append, fixed_length, List.length_cons]
          omega
      have h1 := hb ss hssl.2
      have h2 : ss.length * 32769 ≤ 32767 * 32769 := Nat.mul_le_mul_right _ hssl.1
      simp only [List.length_append, fixed_length]
      omega
    refine Does.mono (makeSASLHandshakeResponse (v := v) hr9 (by omega) ss hss (by rw [hlaw]; omega)) ?_
    rintro r10 w10 ⟨hr10, hx10⟩
    have hx810 := hx89.e0 hx10
    refine ⟨by (conv => whnf); exact ⟨⟨_, rfl, (ho7d.e0 hx810).cells, rfl, rfl⟩, ⟨_, rfl, (hod.e0 hx810).cells, rfl, rfl⟩, trivial⟩, ?_⟩
    (conv => whnf); (repeat (first | (refine V.reg ?_; conv => whnf) | refine V.seqS ?_ | (refine V.regEnd ?_; conv => whnf) | refine V.seqB ?_ | refine V.block ?_ | (refine V.skip ?_; conv => whnf) | (refine V.exit ?_; conv => whnf) | (refine V.ret ?_; conv => whnf) | (refine mvT ?_; conv => whnf) | (refine mvF ?_; conv => whnf) | refine V.condT (by rfl) ?_ | refine V.condF (by rfl) ?_ | refine V.seqCT (by rfl) ?_ | refine V.seqCF (by rfl) ?_))
    rw [hlaw] at hr10
    refine Does.mono (write_does 9 (v := v) ⟨_, rfl, hfdd.e0 hx810⟩ (ht.e0 (hxd.e0 hx810)) hok (by decide) hlen) ?_
    rintro r11 w11 ⟨hr11, hx11⟩
    (conv => whnf); (repeat (first | (refine V.reg ?_; conv => whnf) | refine V.seqS ?_ | (refine V.regEnd ?_; conv => whnf) | refine V.seqB ?_ | refine V.block ?_ | (refine V.skip ?_; conv => whnf) | (refine V.exit ?_; conv => whnf) | (refine V.ret ?_; conv => whnf) | (refine mvT ?_; conv => whnf) | (refine mvF ?_; conv => whnf) | refine V.condT (by rfl) ?_ | refine V.condF (by rfl) ?_ | refine V.seqCT (by rfl) ?_ | refine V.seqCF (by rfl) ?_))
    refine Does.mono (Same_does (hr10.e0 hx11).bytesAny hr11.bytesAny) ?_
    rintro r12 w12 ⟨rfl, hx12⟩
    (conv => whnf); (repeat (first | (refine V.reg ?_; conv => whnf) | refine V.seqS ?_ | (refine V.regEnd ?_; conv => whnf) | refine V.seqB ?_ | refine V.block ?_ | (refine V.skip ?_; conv => whnf) | (refine V.exit ?_; conv => whnf) | (refine V.ret ?_; conv => whnf) | (refine mvT ?_; conv => whnf) | (refine mvF ?_; conv => whnf) | refine V.condT (by rfl) ?_ | refine V.condF (by rfl) ?_ | refine V.seqCT (by rfl) ?_ | refine V.seqCF (by rfl) ?_))
    exact ⟨by simp [oneOr], ((hxd.e0 hx810).e0 hx11).e0 hx12⟩
end Go.Proofs.Ytfgeppdklbianaa.K
