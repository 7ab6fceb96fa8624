/- BrokerHeartbeatRequest is read and written as a whole request. -/
import Derived.Test.YtabhhkdgfdjicaaGreatDoorH1
import Derived.Test.YtabhhkdgfdjicaaGreatDoorC4
import Derived.Test.YtabhhkdgfdjicaaGreatDoorQ4
import Derived.Test.YtabhhkdgfdjicaaGreatDoorV66
import Derived.Test.YtabhhkdgfdjicaaGreatDoorGversion
set_option linter.unusedVariables false
set_option linter.unusedSimpArgs false
namespace Go.Proofs.YtabhhkdgfdjicaaGreatDoor.K
open Go
set_option maxHeartbeats 1600000
set_option maxRecDepth 100000

def gBrokerHeartbeatRequest (v : Int) (fx : Bool) (t : T) : List Tg := (if ncB (.mk 11 0 (-1) (-1) 0 0 7 []) (atT t 5) = false then [(0, arA fx (lsT (atT t 5)).length ++ (lsT (atT t 5)).flatMap (fun x => uuidB x.s))] else []) ++ ((if ncB (.mk 11 0 (-1) (-2) 1 0 7 []) (atT t 6) = false then [(1, naA fx (atT t 6).nl (lsT (atT t 6)).length ++ (lsT (atT t 6)).flatMap (fun x => uuidB x.s))] else []) ++ ([]))
def bBrokerHeartbeatRequest (v : Int) (fx : Bool) (t : T) : List UInt8 := ((fixed (atT t 0).n 4) ++ ((fixed (atT t 1).n 8) ++ ((fixed (atT t 2).n 8) ++ ((boA (atT t 3).n) ++ ((boA (atT t 4).n) ++ ([])))))) ++ (if fx = true then uvar ((gBrokerHeartbeatRequest v fx t).length + (t).u.length) ++ ((gBrokerHeartbeatRequest v fx t).flatMap tagB ++ (t).u.flatMap tagB) else [])
theorem bBrokerHeartbeatRequest_eq {v : Int} {fx : Bool} {t : T} (hv : 0 ≤ v) (hok : partOK 9 v dBrokerHeartbeatRequest t) : partA 9 v fx dBrokerHeartbeatRequest t = bBrokerHeartbeatRequest v fx t := by
  unfold partA partAW bBrokerHeartbeatRequest
  have hg : tagL (fieldA 9 v fx) ncB t 0 dBrokerHeartbeatRequest = gBrokerHeartbeatRequest v fx t := by
    unfold gBrokerHeartbeatRequest
    rw [tagL_skip (by decide)]
    rw [tagL_skip (by decide)]
    rw [tagL_skip (by decide)]
    rw [tagL_skip (by decide)]
    rw [tagL_skip (by decide)]
    have hf := hok.1 5 _ rfl
    rw [tagL_one (k := 0) (pc := arA fx (lsT (atT t 5)).length ++ (lsT (atT t 5)).flatMap (fun x => uuidB x.s)) (by decide) fun hu => ?_]
    rotate_left
    · exact ar_eq (g := (fun x => uuidB x.s)) hf fun y hy => rfl
    have hf := hok.1 6 _ rfl
    rw [tagL_one (k := 1) (pc := naA fx (atT t 6).nl (lsT (atT t 6)).length ++ (lsT (atT t 6)).flatMap (fun x => uuidB x.s)) (by decide) fun hu => ?_]
    rotate_left
    · exact n2_eq_of (g := (fun x => uuidB x.s)) hu fun y hy => rfl
    rfl
  unfold tgA
  rw [if_neg (by decide), hg]
  have hf := hok.1 0 _ rfl
  rw [plainW_all hv]
  have hf := hok.1 1 _ rfl
  rw [plainW_all hv]
  have hf := hok.1 2 _ rfl
  rw [plainW_all hv]
  have hf := hok.1 3 _ rfl
  rw [plainW_all hv]
  have hf := hok.1 4 _ rfl
  rw [plainW_all hv]
  rw [plainW_tag (by decide)]
  rw [plainW_tag (by decide)]
  rfl
theorem appBrokerHeartbeatRequest {F : Nat → Prop} {w0 : World} {p B : Nat} {ty : TypeId} {v : Int} {x c5 c6 m : Value} {l : List UInt8} {t : T} (hp : Own w0 p ty [.int .i16 v, .int .i32 (IntKind.i32.wrap (atT t 0).n), .int .i64 (atT t 1).n, .int .i64 (atT t 2).n, .bool (decide ((atT t 3).n % 2 = 1)), .bool (decide ((atT t 4).n % 2 = 1)), c5, c6, m]) (hc5 : ListR true 16 (fun c x => c = (uuidB x.s).map bcell) w0 F c5 (atT t 5)) (hc6 : ListR true 16 (fun c x => c = (uuidB x.s).map bcell) w0 F c6 (atT t 6)) (hm : TagsR w0 F m t.u) (hok : partOK 9 v dBrokerHeartbeatRequest t)
    (hF : ∀ j, j < w0.heap.size → F j → x.ownBlock ≠ some j) (hxp : x.ownBlock ≠ some p) (hx : OB w0 B x l) (hB : B ≤ w0.heap.size) (hv : 0 ≤ v) (hl : l.length + (bBrokerHeartbeatRequest v (decide (v ≥ 0)) t).length ≤ 100000000000000) (hs32 : (bBrokerHeartbeatRequest v (decide (v ≥ 0)) t).length < 4294967296) :
    Does X.P 162 #[.pointer (some ⟨p, 0, none⟩), x] w0 fun r w' => Apd w0 B x l (bBrokerHeartbeatRequest v (decide (v ≥ 0)) t) r w' := by
  have hpl := hp.lt
  obtain ⟨fx, hfx⟩ : ∃ fx, fx = decide (v ≥ 0) := ⟨_, rfl⟩
  rw [← hfx] at hl hs32 ⊢
  unfold bBrokerHeartbeatRequest at hl hs32
  simp only [List.length_append, List.length_nil] at hl hs32
  obtain ⟨F0, hFR, hFx, hcs⟩ : ∃ F0 : Nat → Prop, (∀ j, F0 j → j < w0.heap.size ∧ x.ownBlock ≠ some j) ∧ (∀ j, j < w0.heap.size → F0 j → ¬ x.ownBlock = some j) ∧ (ListR true 16 (fun c x => c = (uuidB x.s).map bcell) w0 F0 c5 (atT t 5) ∧ ListR true 16 (fun c x => c = (uuidB x.s).map bcell) w0 F0 c6 (atT t 6) ∧ TagsR w0 F0 m t.u) :=
    ⟨fun j => F j ∧ j < w0.heap.size, fun j h => ⟨h.2, hF j h.2 h.1⟩, fun j _ h => hF j h.2 h.1, hc5.mono (fun k h1 h2 => ⟨h2, h1⟩) (fun _ _ h => h), hc6.mono (fun k h1 h2 => ⟨h2, h1⟩) (fun _ _ h => h), hm.mono fun k h1 h2 => ⟨h2, h1⟩⟩
  clear hm hc5 hc6 hF
  obtain ⟨hc5, hc6, hm⟩ := hcs
  have hA := Apd.start hx
  obtain ⟨m0, hm0⟩ : ∃ m0 : List UInt8, m0 = [] := ⟨_, rfl⟩
  rw [← hm0] at hA
  have hl0 : m0.length = 0 := by rw [hm0]; rfl
  refine Does.go (X := X) (l := [_, _]) Tryz.func162 rfl (by kernel_rfl) (by kernel_rfl) _ rfl ?_
  ((conv=>whnf);repeat(first|(refine mvT ?_;conv=>whnf)|(refine mvF ?_;conv=>whnf)|(refine cT (by rfl) ?_;conv=>whnf)|(refine cF (by rfl) ?_;conv=>whnf)))
  refine ldS (hp.cell rfl) ?_;((conv=>whnf);repeat(first|(refine mvT ?_;conv=>whnf)|(refine mvF ?_;conv=>whnf)|(refine cT (by rfl) ?_;conv=>whnf)|(refine cF (by rfl) ?_;conv=>whnf)))
  rw [← hfx]
  (refine mvB ?_;((conv=>whnf);repeat(first|(refine mvT ?_;conv=>whnf)|(refine mvF ?_;conv=>whnf)|(refine cT (by rfl) ?_;conv=>whnf)|(refine cF (by rfl) ?_;conv=>whnf))))
  refine ldS ((hp.ext hA.ext hxp).cell rfl) ?_;((conv=>whnf);repeat(first|(refine mvT ?_;conv=>whnf)|(refine mvF ?_;conv=>whnf)|(refine cT (by rfl) ?_;conv=>whnf)|(refine cF (by rfl) ?_;conv=>whnf)))
  refine Does.mono (AppendInt32_does hA.ob (Nat.le_trans hB hA.size) (by simp only [List.length_append]; omega) _) ?_;rintro r w h;((conv=>whnf);repeat(first|(refine mvT ?_;conv=>whnf)|(refine mvF ?_;conv=>whnf)|(refine cT (by rfl) ?_;conv=>whnf)|(refine cF (by rfl) ?_;conv=>whnf)))
  rw [fixed4_mod (wrap_i32m _)] at h
  replace hA := hA.tr h
  clear h
  generalize hm1 : m0 ++ (fixed (atT t 0).n 4) = m1 at hA
  have hl1 : m1.length = m0.length + (fixed (atT t 0).n 4).length := by rw [← hm1, List.length_append]
  refine ldS ((hp.ext hA.ext hxp).cell rfl) ?_;((conv=>whnf);repeat(first|(refine mvT ?_;conv=>whnf)|(refine mvF ?_;conv=>whnf)|(refine cT (by rfl) ?_;conv=>whnf)|(refine cF (by rfl) ?_;conv=>whnf)))
  refine Does.mono (AppendInt64_does hA.ob (Nat.le_trans hB hA.size) (by simp only [List.length_append]; omega) _) ?_;rintro r w h;((conv=>whnf);repeat(first|(refine mvT ?_;conv=>whnf)|(refine mvF ?_;conv=>whnf)|(refine cT (by rfl) ?_;conv=>whnf)|(refine cF (by rfl) ?_;conv=>whnf)))
  replace hA := hA.tr h
  clear h
  generalize hm2 : m1 ++ (fixed (atT t 1).n 8) = m2 at hA
  have hl2 : m2.length = m1.length + (fixed (atT t 1).n 8).length := by rw [← hm2, List.length_append]
  refine ldS ((hp.ext hA.ext hxp).cell rfl) ?_;((conv=>whnf);repeat(first|(refine mvT ?_;conv=>whnf)|(refine mvF ?_;conv=>whnf)|(refine cT (by rfl) ?_;conv=>whnf)|(refine cF (by rfl) ?_;conv=>whnf)))
  refine Does.mono (AppendInt64_does hA.ob (Nat.le_trans hB hA.size) (by simp only [List.length_append]; omega) _) ?_;rintro r w h;((conv=>whnf);repeat(first|(refine mvT ?_;conv=>whnf)|(refine mvF ?_;conv=>whnf)|(refine cT (by rfl) ?_;conv=>whnf)|(refine cF (by rfl) ?_;conv=>whnf)))
  replace hA := hA.tr h
  clear h
  generalize hm3 : m2 ++ (fixed (atT t 2).n 8) = m3 at hA
  have hl3 : m3.length = m2.length + (fixed (atT t 2).n 8).length := by rw [← hm3, List.length_append]
  refine ldS ((hp.ext hA.ext hxp).cell rfl) ?_;((conv=>whnf);repeat(first|(refine mvT ?_;conv=>whnf)|(refine mvF ?_;conv=>whnf)|(refine cT (by rfl) ?_;conv=>whnf)|(refine cF (by rfl) ?_;conv=>whnf)))
  (refine mvB ?_;((conv=>whnf);repeat(first|(refine mvT ?_;conv=>whnf)|(refine mvF ?_;conv=>whnf)|(refine cT (by rfl) ?_;conv=>whnf)|(refine cF (by rfl) ?_;conv=>whnf))))
  refine Does.mono (AppendBool_does hA.ob (Nat.le_trans hB hA.size) (by simp only [List.length_append]; omega) _) ?_;rintro r w h;((conv=>whnf);repeat(first|(refine mvT ?_;conv=>whnf)|(refine mvF ?_;conv=>whnf)|(refine cT (by rfl) ?_;conv=>whnf)|(refine cF (by rfl) ?_;conv=>whnf)))
  replace hA := hA.tr h
  clear h
  rw [bo_eq] at hA
  generalize hm4 : m3 ++ (boA (atT t 3).n) = m4 at hA
  have hl4 : m4.length = m3.length + (boA (atT t 3).n).length := by rw [← hm4, List.length_append]
  refine ldS ((hp.ext hA.ext hxp).cell rfl) ?_;((conv=>whnf);repeat(first|(refine mvT ?_;conv=>whnf)|(refine mvF ?_;conv=>whnf)|(refine cT (by rfl) ?_;conv=>whnf)|(refine cF (by rfl) ?_;conv=>whnf)))
  (refine mvB ?_;((conv=>whnf);repeat(first|(refine mvT ?_;conv=>whnf)|(refine mvF ?_;conv=>whnf)|(refine cT (by rfl) ?_;conv=>whnf)|(refine cF (by rfl) ?_;conv=>whnf))))
  refine Does.mono (AppendBool_does hA.ob (Nat.le_trans hB hA.size) (by simp only [List.length_append]; omega) _) ?_;rintro r w h;((conv=>whnf);repeat(first|(refine mvT ?_;conv=>whnf)|(refine mvF ?_;conv=>whnf)|(refine cT (by rfl) ?_;conv=>whnf)|(refine cF (by rfl) ?_;conv=>whnf)))
  replace hA := hA.tr h
  clear h
  rw [bo_eq] at hA
  generalize hm5 : m4 ++ (boA (atT t 4).n) = m5 at hA
  have hl5 : m5.length = m4.length + (boA (atT t 4).n).length := by rw [← hm5, List.length_append]
  (refine mvB ?_;((conv=>whnf);repeat(first|(refine mvT ?_;conv=>whnf)|(refine mvF ?_;conv=>whnf)|(refine cT (by rfl) ?_;conv=>whnf)|(refine cF (by rfl) ?_;conv=>whnf))))
  refine VC.cutE (fun r => [(1, r), (0, .pointer (some ⟨p, 0, none⟩)), (5, .int .i16 v), (6, .bool fx)]) (fun r w' => Apd w0 B x l (m5 ++ ((if fx = true then uvar ((gBrokerHeartbeatRequest v fx t).length + (t).u.length) ++ ((gBrokerHeartbeatRequest v fx t).flatMap tagB ++ (t).u.flatMap tagB) else []))) r w') ?_ ?_
  · refine cI (by rfl) (fun hc=>?_) (fun hc=>?_)
    · ((conv=>whnf);repeat(first|(refine mvT ?_;conv=>whnf)|(refine mvF ?_;conv=>whnf)|(refine cT (by rfl) ?_;conv=>whnf)|(refine cF (by rfl) ?_;conv=>whnf)))
      rw [if_pos hc] at hl hs32
      simp only [List.length_append] at hl hs32
      obtain ⟨wT, rfl⟩ : ∃ y, y = w := ⟨w, rfl⟩
      have hos := OSl.nil wT wT.heap.size 64 1
      have hex := Ext.refl nob wT
      obtain ⟨ev, hev⟩ : ∃ y : Value, y = .slice none 0 0 := ⟨_, rfl⟩
      obtain ⟨ks, hks⟩ : ∃ y : List Nat, y = [] := ⟨_, rfl⟩
      obtain ⟨ay5, ky5, ly5, rfl, hkmy5, hlly5, hnny5, _, _⟩ := hc5.view
      refine ldS ((hp.ext (hA.e0 hex).ext hxp).cell rfl) ?_;((conv=>whnf);repeat(first|(refine mvT ?_;conv=>whnf)|(refine mvF ?_;conv=>whnf)|(refine cT (by rfl) ?_;conv=>whnf)|(refine cF (by rfl) ?_;conv=>whnf)))
      refine VC.cutE (fun q : Value × List Nat => [(1, r), (12, q.1), (0, .pointer (some ⟨p, 0, none⟩)), (5, .int .i16 v), (6, .bool fx)]) (fun q w' => OSl w' wT.heap.size 64 1 q.1 (q.2.map fun (k : Nat) => [.int .u32 (k : Int)]) ∧ Ext nob wT w' ∧ q.2 = ([]) ++ (if ncB (.mk 11 0 (-1) (-1) 0 0 7 []) (atT t 5) = false then [0] else [])) ?_ ?_
      · refine cI (by rfl) (fun hcd=>?_) (fun hcd=>?_)
        · ((conv=>whnf);repeat(first|(refine mvT ?_;conv=>whnf)|(refine mvF ?_;conv=>whnf)|(refine cT (by rfl) ?_;conv=>whnf)|(refine cF (by rfl) ?_;conv=>whnf)))
          have hos : OSl wT wT.heap.size 64 1 (.slice none 0 0) ((([] : List Nat)).map fun (k : Nat) => [.int .u32 (k : Int)]) := hos
          have hnc : ncB (.mk 11 0 (-1) (-1) 0 0 7 []) (atT t 5) = false := by
            have hcd := of_decide_eq_true hcd
            show (atT t 5).l.isEmpty = false
            have he := lsT_eq (hok.1 5 _ rfl)
            rw [← he]
            cases hz : lsT (atT t 5) with
            | nil => rw [hz] at hlly5; simp only [List.length_nil] at hlly5; omega
            | cons y z => rfl
          intro be we hbe hoe hxe
          ((conv=>whnf);repeat(first|(refine mvT ?_;conv=>whnf)|(refine mvF ?_;conv=>whnf)|(refine cT (by rfl) ?_;conv=>whnf)|(refine cF (by rfl) ?_;conv=>whnf)))
          have hsx := hxe.size
          have hsT := hex.size
          refine app_struct (ms := [[.int .u32 (0 : Int)]]) rfl (hos.e0 hxe) (src_one hoe rfl rfl) (by simp) rfl rfl (by have hkl : ([] : List Nat).length ≤ 0 := (Nat.le_refl 0); constructor <;> (simp only [List.length_map, List.length_singleton]; omega)) (by omega) ?_
          intro v5 w5 hos5 hx5 hb5 hnn5
          ((conv=>whnf);repeat(first|(refine mvT ?_;conv=>whnf)|(refine mvF ?_;conv=>whnf)|(refine cT (by rfl) ?_;conv=>whnf)|(refine cF (by rfl) ?_;conv=>whnf)))
          exact ⟨(v5, [] ++ [0]), ⟨rfl, rfl, rfl, rfl, rfl, trivial⟩, by simpa using hos5, (hex.e0 hxe).trans hx5 fun k hk e => by have := hos.blk k e; omega, by rw [if_pos hnc]⟩
        · ((conv=>whnf);repeat(first|(refine mvT ?_;conv=>whnf)|(refine mvF ?_;conv=>whnf)|(refine cT (by rfl) ?_;conv=>whnf)|(refine cF (by rfl) ?_;conv=>whnf)))
          have hos : OSl wT wT.heap.size 64 1 (.slice none 0 0) ((([] : List Nat)).map fun (k : Nat) => [.int .u32 (k : Int)]) := hos
          have hnc : ¬ (ncB (.mk 11 0 (-1) (-1) 0 0 7 []) (atT t 5) = false) := by
            have hcd := of_decide_eq_false hcd
            show ¬ (atT t 5).l.isEmpty = false
            have he := lsT_eq (hok.1 5 _ rfl)
            rw [← he]
            cases hz : lsT (atT t 5) with
            | nil => simp
            | cons y z => rw [hz] at hlly5; simp only [List.length_cons] at hlly5; omega
          exact ⟨((.slice none 0 0), []), ⟨rfl, rfl, rfl, rfl, rfl, trivial⟩, hos, hex, by rw [if_neg hnc]; rfl⟩
      clear hos hex hks
      rintro ⟨ev, ks⟩ w ⟨hos, hex, hks⟩
      dsimp only at hos hex hks
      ((conv=>whnf);repeat(first|(refine mvT ?_;conv=>whnf)|(refine mvF ?_;conv=>whnf)|(refine cT (by rfl) ?_;conv=>whnf)|(refine cF (by rfl) ?_;conv=>whnf)))
      have hkl : ks.length ≤ 1 := by rw [hks]; (repeat' split) <;> simp
      obtain ⟨ay6, ky6, ly6, rfl, hkmy6, hlly6, hnny6, _, _⟩ := hc6.view
      intro cq hcq
      obtain rfl : cq = false := by rw [← hcq]; exact decide_eq_false (by omega)
      ((conv=>whnf);repeat(first|(refine mvT ?_;conv=>whnf)|(refine mvF ?_;conv=>whnf)|(refine cT (by rfl) ?_;conv=>whnf)|(refine cF (by rfl) ?_;conv=>whnf)))
      intro cq hcq
      obtain rfl : cq = true := by rw [← hcq]; exact decide_eq_true hv
      ((conv=>whnf);repeat(first|(refine mvT ?_;conv=>whnf)|(refine mvF ?_;conv=>whnf)|(refine cT (by rfl) ?_;conv=>whnf)|(refine cF (by rfl) ?_;conv=>whnf)))
      refine ldS ((hp.ext (hA.e0 hex).ext hxp).cell rfl) ?_;((conv=>whnf);repeat(first|(refine mvT ?_;conv=>whnf)|(refine mvF ?_;conv=>whnf)|(refine cT (by rfl) ?_;conv=>whnf)|(refine cF (by rfl) ?_;conv=>whnf)))
      refine VC.cutE (fun q : Value × List Nat => [(1, r), (12, q.1), (0, .pointer (some ⟨p, 0, none⟩)), (5, .int .i16 v), (6, .bool fx)]) (fun q w' => OSl w' wT.heap.size 64 1 q.1 (q.2.map fun (k : Nat) => [.int .u32 (k : Int)]) ∧ Ext nob wT w' ∧ q.2 = (([]) ++ (if ncB (.mk 11 0 (-1) (-1) 0 0 7 []) (atT t 5) = false then [0] else [])) ++ (if ncB (.mk 11 0 (-1) (-2) 1 0 7 []) (atT t 6) = false then [1] else [])) ?_ ?_
      · refine cI (by rfl) (fun hcd=>?_) (fun hcd=>?_)
        · ((conv=>whnf);repeat(first|(refine mvT ?_;conv=>whnf)|(refine mvF ?_;conv=>whnf)|(refine cT (by rfl) ?_;conv=>whnf)|(refine cF (by rfl) ?_;conv=>whnf)))
          have hnc : ncB (.mk 11 0 (-1) (-2) 1 0 7 []) (atT t 6) = false := by
            show (atT t 6).nl = false
            rw [← hnny6 rfl]
            simpa using hcd
          intro be we hbe hoe hxe
          ((conv=>whnf);repeat(first|(refine mvT ?_;conv=>whnf)|(refine mvF ?_;conv=>whnf)|(refine cT (by rfl) ?_;conv=>whnf)|(refine cF (by rfl) ?_;conv=>whnf)))
          have hsx := hxe.size
          have hsT := hex.size
          refine app_struct (ms := [[.int .u32 (1 : Int)]]) rfl (hos.e0 hxe) (src_one hoe rfl rfl) (by simp) rfl rfl (by have hkl : (ks : List Nat).length ≤ 1 := hkl; constructor <;> (simp only [List.length_map, List.length_singleton]; omega)) (by omega) ?_
          intro v5 w5 hos5 hx5 hb5 hnn5
          ((conv=>whnf);repeat(first|(refine mvT ?_;conv=>whnf)|(refine mvF ?_;conv=>whnf)|(refine cT (by rfl) ?_;conv=>whnf)|(refine cF (by rfl) ?_;conv=>whnf)))
          exact ⟨(v5, ks ++ [1]), ⟨rfl, rfl, rfl, rfl, rfl, trivial⟩, by simpa using hos5, (hex.e0 hxe).trans hx5 fun k hk e => by have := hos.blk k e; omega, by rw [if_pos hnc]; dsimp only; rw [hks]⟩
        · ((conv=>whnf);repeat(first|(refine mvT ?_;conv=>whnf)|(refine mvF ?_;conv=>whnf)|(refine cT (by rfl) ?_;conv=>whnf)|(refine cF (by rfl) ?_;conv=>whnf)))
          have hnc : ¬ (ncB (.mk 11 0 (-1) (-2) 1 0 7 []) (atT t 6) = false) := by
            show ¬ (atT t 6).nl = false
            rw [← hnny6 rfl]
            simpa using hcd
          exact ⟨(ev, ks), ⟨rfl, rfl, rfl, rfl, rfl, trivial⟩, hos, hex, by rw [if_neg hnc, List.append_nil]; exact hks⟩
      clear hos hex hks
      rintro ⟨ev, ks⟩ w ⟨hos, hex, hks⟩
      dsimp only at hos hex hks
      ((conv=>whnf);repeat(first|(refine mvT ?_;conv=>whnf)|(refine mvF ?_;conv=>whnf)|(refine cT (by rfl) ?_;conv=>whnf)|(refine cF (by rfl) ?_;conv=>whnf)))
      have hkl : ks.length ≤ 2 := by rw [hks]; (repeat' split) <;> simp
      have hrT : ∀ k, r.ownBlock = some k → k < wT.heap.size := hA.ob.lt
      have hA := hA.e0 hex
      obtain ⟨ae, ke, hev, _, hke⟩ := hos.shape
      rw [List.length_map] at hev
      subst hev
      have hkm : ∀ k ∈ ks, k = 0 ∨ k = 1 := by rw [hks]; intro k hk; (repeat' split at hk) <;> simp at hk <;> omega
      obtain ⟨tb, htb⟩ : ∃ y : Nat → List UInt8, y = fun k => tagB (k, if k = 0 then arA fx (lsT (atT t 5)).length ++ (lsT (atT t 5)).flatMap (fun x => uuidB x.s) else (if k = 1 then naA fx (atT t 6).nl (lsT (atT t 6)).length ++ (lsT (atT t 6)).flatMap (fun x => uuidB x.s) else ([]))) := ⟨_, rfl⟩
      have hgl : (gBrokerHeartbeatRequest v fx t).length = ks.length := by
        rw [hks]
        unfold gBrokerHeartbeatRequest
        (repeat' split) <;> simp
      have hgf : (gBrokerHeartbeatRequest v fx t).flatMap tagB = ks.flatMap tb := by
        rw [hks, htb]
        unfold gBrokerHeartbeatRequest
        (repeat' split) <;> simp
      rw [hgl, hgf] at hl hs32
      have hul := hok.2.len
      have hul2 := uvar10 (n := ks.length + (t).u.length) (by omega)
      refine Does.mono (Tags_Len_does ((hp.ext hA.ext hxp).cell rfl) (hm.ext hA.ext hFx)) ?_;rintro r2 w2 ⟨rfl, rfl⟩;((conv=>whnf);repeat(first|(refine mvT ?_;conv=>whnf)|(refine mvF ?_;conv=>whnf)|(refine cT (by rfl) ?_;conv=>whnf)|(refine cF (by rfl) ?_;conv=>whnf)))
      rw [u32_sum (by omega)]
      refine Does.mono (AppendUvarint_does hA.ob (Nat.le_trans hB hA.size) (ks.length + (t).u.length) (by omega) (by simp only [List.length_append]; omega)) ?_;rintro r w h;((conv=>whnf);repeat(first|(refine mvT ?_;conv=>whnf)|(refine mvF ?_;conv=>whnf)|(refine cT (by rfl) ?_;conv=>whnf)|(refine cF (by rfl) ?_;conv=>whnf)))
      have hsep : ∀ k, (Value.slice ae ks.length ke).ownBlock = some k → r.ownBlock ≠ some k := fun k hk => h.ne (fun e => by have := hrT k e; have := hos.blk k hk; omega) (hos.own.lt k hk)
      have hos := hos.ext h.ext fun k hk e => by have := hrT k e; have := hos.blk k hk; omega
      replace hA := hA.tr h
      clear h
      generalize hm6 : m5 ++ (uvar (ks.length + (t).u.length)) = m6 at hA
      have hl6 : m6.length = m5.length + (uvar (ks.length + (t).u.length)).length := by rw [← hm6, List.length_append]
      refine VL.loop (fun s : Nat × Value => [(1, s.2), (0, .pointer (some ⟨p, 0, none⟩)), (5, .int .i16 v), (6, .bool fx), (112, (.slice ae ks.length ke)), (113, .int .i64 ks.length), (114, .int .i64 s.1)])
        (fun s w' => s.1 ≤ ks.length ∧ Apd w0 B x l (m6 ++ (ks.take s.1).flatMap tb) s.2 w' ∧ OSl w' wT.heap.size 64 1 (.slice ae ks.length ke) (ks.map fun (k : Nat) => [.int .u32 (k : Int)]) ∧ ∀ k, (Value.slice ae ks.length ke).ownBlock = some k → s.2.ownBlock ≠ some k) (fun s => ks.length - s.1) (0, r) ⟨rfl, rfl, rfl, rfl, rfl, rfl, rfl, trivial⟩ ⟨Nat.zero_le _, by rw [List.take_zero, List.flatMap_nil, List.append_nil]; exact hA, hos, hsep⟩ ?_
      clear hA hos hsep
      rintro ⟨ii, r⟩ w ⟨hii, hA, hos, hsep⟩
      dsimp only at hii hA hos hsep
      ((conv=>whnf);repeat(first|(refine mvT ?_;conv=>whnf)|(refine mvF ?_;conv=>whnf)|(refine cT (by rfl) ?_;conv=>whnf)|(refine cF (by rfl) ?_;conv=>whnf)))
      refine cI (by rfl) (fun h9=>?_) (fun h9=>?_)
      · have hil : ii < ks.length := by have := of_decide_eq_true h9; simp only at this; omega
        obtain ⟨hft, hfl⟩ := flat_take tb ks ii hil
        obtain ⟨ge, rfl⟩ := hos.some (i := ii) (by simpa using hil)
        have hce := hos.elem (i := ii) (c := [.int .u32 ((ks[ii] : Nat) : Int)]) (by simp [hil])
        ((conv=>whnf);repeat(first|(refine mvT ?_;conv=>whnf)|(refine mvF ?_;conv=>whnf)|(refine cT (by rfl) ?_;conv=>whnf)|(refine cF (by rfl) ?_;conv=>whnf)))
        refine ⟨ge, 0, rfl, ⟨by omega, by omega⟩, ?_⟩
        ((conv=>whnf);repeat(first|(refine mvT ?_;conv=>whnf)|(refine mvF ?_;conv=>whnf)|(refine cT (by rfl) ?_;conv=>whnf)|(refine cF (by rfl) ?_;conv=>whnf)))
        refine ⟨_, ld (hce.cell (j := 0) rfl) (by simp), ?_⟩
        ((conv=>whnf);repeat(first|(refine mvT ?_;conv=>whnf)|(refine mvF ?_;conv=>whnf)|(refine cT (by rfl) ?_;conv=>whnf)|(refine cF (by rfl) ?_;conv=>whnf)))
        have hkx := hkm _ (List.getElem_mem hil)
        obtain ⟨kx, hkxe⟩ : ∃ y, y = ks[ii] := ⟨_, rfl⟩
        rw [← hkxe] at hkx hft hfl ⊢
        have hA0 := hA
        have hplO := hpl
        replace hp := hp.ext hA.ext hxp
        have hpl := Nat.lt_of_lt_of_le hpl hA.size
        have hxp := hA.ne hxp hplO
        replace hc5 := hc5.ext hA.ext hFx (fun _ _ h => h)
        replace hc6 := hc6.ext hA.ext hFx (fun _ _ h => h)
        have hFxO := hFx
        have hFx : ∀ j, j < w.heap.size → F0 j → ¬ r.ownBlock = some j := fun j _ hf => hA.ne (hFR j hf).2 (hFR j hf).1
        have hFR : ∀ j, F0 j → j < w.heap.size ∧ r.ownBlock ≠ some j := fun j hf => ⟨Nat.lt_of_lt_of_le (hFR j hf).1 hA.size, hA.ne (hFR j hf).2 (hFR j hf).1⟩
        have hB := Nat.le_trans hB hA.size
        have hob := hA.ob
        clear hA
        obtain ⟨lI, hlI⟩ : ∃ y : List UInt8, y = l ++ (m6 ++ (ks.take ii).flatMap tb) := ⟨_, rfl⟩
        rw [← hlI] at hob
        have hlIl := congrArg List.length hlI
        simp only [List.length_append] at hlIl
        obtain ⟨w0, hwI⟩ : ∃ y : World, y = w := ⟨_, rfl⟩
        subst hwI
        obtain ⟨x, hrI⟩ : ∃ y : Value, y = r := ⟨_, rfl⟩
        subst hrI
        obtain ⟨l, hlJ⟩ : ∃ y : List UInt8, y = lI := ⟨_, rfl⟩
        subst hlJ
        have hA := Apd.start hob
        obtain ⟨m7, hm7⟩ : ∃ m : List UInt8, m = [] := ⟨_, rfl⟩
        rw [← hm7] at hA
        have hl7 : m7.length = 0 := by rw [hm7]; rfl
        refine cI (by rfl) (fun hk0=>?_) (fun hk0=>?_)
        · have hkk : kx = 0 := by have := of_decide_eq_true hk0; omega
          obtain ⟨np, hnp⟩ : ∃ y, y = (arA fx (lsT (atT t 5)).length ++ (lsT (atT t 5)).flatMap (fun x => uuidB x.s)).length := ⟨_, rfl⟩
          have htb0 : tb kx = uvar 0 ++ (uvar np ++ (arA fx (lsT (atT t 5)).length ++ (lsT (atT t 5)).flatMap (fun x => uuidB x.s))) := by
            rw [hnp, hkk, htb]
            show tagB (0, if 0 = 0 then arA fx (lsT (atT t 5)).length ++ (lsT (atT t 5)).flatMap (fun x => uuidB x.s) else (if 0 = 1 then naA fx (atT t 6).nl (lsT (atT t 6)).length ++ (lsT (atT t 6)).flatMap (fun x => uuidB x.s) else ([]))) = _
            rw [if_pos rfl]
            unfold tagB
            rw [List.append_assoc]
          rw [htb0] at hft hfl
          have hnp0 := hnp
          simp only [List.length_append] at hfl hnp
          obtain ⟨a5, k5, l5, hcx5, hkm5, hll5, hnn5, hcl5, hrl5⟩ := hc5.view
          rw [hcx5] at hp
          obtain ⟨m8, hm8⟩ : ∃ y, m7 ++ (uvar 0) = y := ⟨_, rfl⟩
          have hl8 : m8.length = m7.length + (uvar 0).length := by rw [← hm8, List.length_append]
          ((conv=>whnf);repeat(first|(refine mvT ?_;conv=>whnf)|(refine mvF ?_;conv=>whnf)|(refine cT (by rfl) ?_;conv=>whnf)|(refine cF (by rfl) ?_;conv=>whnf)))
          refine VO.scope (l := 0) (fun q : Value => [(1, q), (0, .pointer (some ⟨p, 0, none⟩)), (5, .int .i16 v), (6, .bool fx), (112, (.slice (some ⟨ge, 0, none⟩) ks.length ke)), (113, .int .i64 ks.length), (114, .int .i64 ii), (15, .slice a5 l5.length k5), (16, .bool true), (17, .int .i64 ((l ++ m8).length : Nat))]) (fun q w' => Apd w0 B x l (m8 ++ uvar np) q w') rfl ?_ ?_
          · ((conv=>whnf);repeat(first|(refine mvT ?_;conv=>whnf)|(refine mvF ?_;conv=>whnf)|(refine cT (by rfl) ?_;conv=>whnf)|(refine cF (by rfl) ?_;conv=>whnf)))
            refine ldS ((hp.ext hA.ext hxp).cell rfl) ?_;((conv=>whnf);repeat(first|(refine mvT ?_;conv=>whnf)|(refine mvF ?_;conv=>whnf)|(refine cT (by rfl) ?_;conv=>whnf)|(refine cF (by rfl) ?_;conv=>whnf)))
            refine Does.mono (AppendUvarint_does hA.ob (Nat.le_trans hB hA.size) 0 (by omega) (by simp only [List.length_append]; omega)) ?_;rintro r w h;((conv=>whnf);repeat(first|(refine mvT ?_;conv=>whnf)|(refine mvF ?_;conv=>whnf)|(refine cT (by rfl) ?_;conv=>whnf)|(refine cF (by rfl) ?_;conv=>whnf)))
            replace hA := hA.tr h
            clear h
            rw [hm8] at hA
            obtain ⟨ar, cr, rfl, _, _⟩ := hA.ob.shape
            ((conv=>whnf);repeat(first|(refine mvT ?_;conv=>whnf)|(refine mvF ?_;conv=>whnf)|(refine cT (by rfl) ?_;conv=>whnf)|(refine cF (by rfl) ?_;conv=>whnf)))
            refine VO.label ?_
            ((conv=>whnf);repeat(first|(refine mvT ?_;conv=>whnf)|(refine mvF ?_;conv=>whnf)|(refine cT (by rfl) ?_;conv=>whnf)|(refine cF (by rfl) ?_;conv=>whnf)))
            have hml5 := lsT_len (hok.1 5 _ rfl)
            (refine mvB ?_;((conv=>whnf);repeat(first|(refine mvT ?_;conv=>whnf)|(refine mvF ?_;conv=>whnf)|(refine cT (by rfl) ?_;conv=>whnf)|(refine cF (by rfl) ?_;conv=>whnf))))
            refine VC.cutE (fun r => [(1, r), (0, .pointer (some ⟨p, 0, none⟩)), (5, .int .i16 v), (6, .bool fx), (112, (.slice (some ⟨ge, 0, none⟩) ks.length ke)), (113, .int .i64 ks.length), (114, .int .i64 ii), (16, .bool false), (17, .int .i64 ((l ++ m8).length : Nat)), (15, .slice a5 l5.length k5)]) (fun r w' => Apd w0 B x l (m8 ++ (arA fx (lsT (atT t 5)).length)) r w') ?_ ?_
            · refine cI (by rfl) (fun hc=>?_) (fun hc=>?_)
              · ((conv=>whnf);repeat(first|(refine mvT ?_;conv=>whnf)|(refine mvF ?_;conv=>whnf)|(refine cT (by rfl) ?_;conv=>whnf)|(refine cF (by rfl) ?_;conv=>whnf)))
                refine Does.mono (AppendCompactArrayLen_does hA.ob (Nat.le_trans hB hA.size) (by simp only [List.length_append]; omega) l5.length (by omega)) ?_;rintro r w h;((conv=>whnf);repeat(first|(refine mvT ?_;conv=>whnf)|(refine mvF ?_;conv=>whnf)|(refine cT (by rfl) ?_;conv=>whnf)|(refine cF (by rfl) ?_;conv=>whnf)))
                rw [hll5] at h
                replace hA := hA.tr h
                clear h
                refine ⟨_, ⟨rfl, rfl, rfl, rfl, rfl, rfl, rfl, rfl, rfl, rfl, trivial⟩, ?_⟩
                rw [hc]
                exact hA
              · ((conv=>whnf);repeat(first|(refine mvT ?_;conv=>whnf)|(refine mvF ?_;conv=>whnf)|(refine cT (by rfl) ?_;conv=>whnf)|(refine cF (by rfl) ?_;conv=>whnf)))
                refine Does.mono (AppendArrayLen_does hA.ob (Nat.le_trans hB hA.size) (by simp only [List.length_append]; omega) l5.length) ?_;rintro r w h;((conv=>whnf);repeat(first|(refine mvT ?_;conv=>whnf)|(refine mvF ?_;conv=>whnf)|(refine cT (by rfl) ?_;conv=>whnf)|(refine cF (by rfl) ?_;conv=>whnf)))
                rw [hll5] at h
                replace hA := hA.tr h
                clear h
                refine ⟨_, ⟨rfl, rfl, rfl, rfl, rfl, rfl, rfl, rfl, rfl, rfl, trivial⟩, ?_⟩
                rw [hc]
                exact hA
            clear hA
            rintro r w hA
            ((conv=>whnf);repeat(first|(refine mvT ?_;conv=>whnf)|(refine mvF ?_;conv=>whnf)|(refine cT (by rfl) ?_;conv=>whnf)|(refine cF (by rfl) ?_;conv=>whnf)))
            generalize hm9 : m8 ++ (arA fx (lsT (atT t 5)).length) = m9 at hA
            have hl9 : m9.length = m8.length + (arA fx (lsT (atT t 5)).length).length := by rw [← hm9, List.length_append]
            refine VL.loop (fun s : Nat × Value => [(1, s.2), (0, .pointer (some ⟨p, 0, none⟩)), (5, .int .i16 v), (6, .bool fx), (112, (.slice (some ⟨ge, 0, none⟩) ks.length ke)), (113, .int .i64 ks.length), (114, .int .i64 ii), (16, .bool false), (17, .int .i64 ((l ++ m8).length : Nat)), (15, .slice a5 l5.length k5), (138, .slice a5 l5.length k5), (139, .int .i64 l5.length), (140, .int .i64 s.1)])
              (fun s w' => s.1 ≤ l5.length ∧ Apd w0 B x l (m9 ++ ((lsT (atT t 5)).take s.1).flatMap (fun x => uuidB x.s)) s.2 w') (fun s => l5.length - s.1) (0, r) ⟨rfl, rfl, rfl, rfl, rfl, rfl, rfl, rfl, rfl, rfl, rfl, rfl, rfl, trivial⟩ ⟨Nat.zero_le _, by rw [List.take_zero, List.flatMap_nil, List.append_nil]; exact hA⟩ ?_
            clear hA
            rintro ⟨i1, r⟩ w ⟨hi1, hA⟩
            dsimp only at hi1 hA
            ((conv=>whnf);repeat(first|(refine mvT ?_;conv=>whnf)|(refine mvF ?_;conv=>whnf)|(refine cT (by rfl) ?_;conv=>whnf)|(refine cF (by rfl) ?_;conv=>whnf)))
            refine cI (by rfl) (fun h9=>?_) (fun h9=>?_)
            · have hil : i1 < l5.length := by have := of_decide_eq_true h9; simp only at this; omega
              have hiL1 : i1 < (lsT (atT t 5)).length := by omega
              obtain ⟨hft, hfl⟩ := flat_take (fun x => uuidB x.s) (lsT (atT t 5)) i1 hiL1
              obtain ⟨b5, o5, rfl, hF5, hb5, hce5⟩ := hcl5 i1 l5[i1] (by simp [hil])
              have hre5 := hrl5 i1 l5[i1] ((lsT (atT t 5))[i1]) (by simp [hil]) (by simp [hiL1])
              have hlo5 := lsT_ok (hok.1 5 _ rfl) ((lsT (atT t 5))[i1]) (List.getElem_mem hiL1)
              generalize hm10 : m9 ++ ((lsT (atT t 5)).take i1).flatMap (fun x => uuidB x.s) = m10 at hA
              have hl10 : m10.length = m9.length + (((lsT (atT t 5)).take i1).flatMap (fun x => uuidB x.s)).length := by rw [← hm10, List.length_append]
              obtain ⟨x1, hx1⟩ : ∃ y, y = (lsT (atT t 5))[i1] := ⟨_, rfl⟩
              rw [← hx1] at hft hfl hre5 hlo5
              rw [hre5] at hce5
              obtain ⟨uu0, uu1, uu2, uu3, uu4, uu5, uu6, uu7, uu8, uu9, uu10, uu11, uu12, uu13, uu14, uu15, hxu⟩ := uuid_lit (x1).s
              rw [hxu] at hce5
              simp only [List.map_cons, List.map_nil] at hce5
              ((conv=>whnf);repeat(first|(refine mvT ?_;conv=>whnf)|(refine mvF ?_;conv=>whnf)|(refine cT (by rfl) ?_;conv=>whnf)|(refine cF (by rfl) ?_;conv=>whnf)))
              refine ⟨b5, o5, rfl, ⟨by omega, by omega⟩, ?_⟩
              ((conv=>whnf);repeat(first|(refine mvT ?_;conv=>whnf)|(refine mvF ?_;conv=>whnf)|(refine cT (by rfl) ?_;conv=>whnf)|(refine cF (by rfl) ?_;conv=>whnf)))
              have hcx := hce5.ext hA.ext (hFx _ hb5 hF5)
              refine ⟨_, rfl, by first | exact hcx | (rw [Int.toNat_natCast]; exact hcx) | simpa using hcx, ?_⟩
              ((conv=>whnf);repeat(first|(refine mvT ?_;conv=>whnf)|(refine mvF ?_;conv=>whnf)|(refine cT (by rfl) ?_;conv=>whnf)|(refine cF (by rfl) ?_;conv=>whnf)))
              intro bu wu hbu hou hxu2
              ((conv=>whnf);repeat(first|(refine mvT ?_;conv=>whnf)|(refine mvF ?_;conv=>whnf)|(refine cT (by rfl) ?_;conv=>whnf)|(refine cF (by rfl) ?_;conv=>whnf)))
              refine st_all [bcell uu0, bcell uu1, bcell uu2, bcell uu3, bcell uu4, bcell uu5, bcell uu6, bcell uu7, bcell uu8, bcell uu9, bcell uu10, bcell uu11, bcell uu12, bcell uu13, bcell uu14, bcell uu15] hou rfl rfl rfl ?_
              intro wv hov hxv
              ((conv=>whnf);repeat(first|(refine mvT ?_;conv=>whnf)|(refine mvF ?_;conv=>whnf)|(refine cT (by rfl) ?_;conv=>whnf)|(refine cF (by rfl) ?_;conv=>whnf)))
              replace hA := hA.e0 ((Ext.refl nob _).trans (hxu2.trans hxv (M' := fun k => k = bu) fun k hk e => by omega) fun _ _ h => h)
              refine ⟨_, rfl, hov.cells, ?_⟩
              ((conv=>whnf);repeat(first|(refine mvT ?_;conv=>whnf)|(refine mvF ?_;conv=>whnf)|(refine cT (by rfl) ?_;conv=>whnf)|(refine cF (by rfl) ?_;conv=>whnf)))
              refine Does.mono (AppendUuid_does (s := [uu0, uu1, uu2, uu3, uu4, uu5, uu6, uu7, uu8, uu9, uu10, uu11, uu12, uu13, uu14, uu15]) hA.ob (Nat.le_trans hB hA.size) (by simp only [List.length_append, List.length_cons, List.length_nil]; omega)) ?_;rintro r w h;((conv=>whnf);repeat(first|(refine mvT ?_;conv=>whnf)|(refine mvF ?_;conv=>whnf)|(refine cT (by rfl) ?_;conv=>whnf)|(refine cF (by rfl) ?_;conv=>whnf)))
              replace hA := hA.tr h
              clear h
              rw [← hxu] at hA
              generalize hm11 : m10 ++ (uuidB x1.s) = m11 at hA
              have hl11 : m11.length = m10.length + (uuidB x1.s).length := by rw [← hm11, List.length_append]
              have hfin : m10 ++ (fun x => uuidB x.s) x1 = m11 := by simp only [← hm11, List.append_assoc, List.nil_append, List.append_nil]
              refine ⟨(i1 + 1, r), ⟨rfl, rfl, rfl, rfl, rfl, rfl, rfl, rfl, rfl, rfl, rfl, rfl, inc_eq (by rw [maxLen_eq] at hkm5; omega), trivial⟩, ⟨by simp only; omega, ?_⟩, by simp only; omega⟩
              rw [hft, ← List.append_assoc, hm10, hfin]
              exact hA
            have hil : i1 = l5.length := by have := of_decide_eq_false h9; simp only at this; omega
            ((conv=>whnf);repeat(first|(refine mvT ?_;conv=>whnf)|(refine mvF ?_;conv=>whnf)|(refine cT (by rfl) ?_;conv=>whnf)|(refine cF (by rfl) ?_;conv=>whnf)))
            rw [hil, hll5, List.take_length] at hA
            generalize hm10 : m9 ++ ((lsT (atT t 5)).flatMap (fun x => uuidB x.s)) = m10 at hA
            have hl10 : m10.length = m9.length + ((lsT (atT t 5)).flatMap (fun x => uuidB x.s)).length := by rw [← hm10, List.length_append]
            rw [show m10 = m8 ++ (arA fx (lsT (atT t 5)).length ++ (lsT (atT t 5)).flatMap (fun x => uuidB x.s)) by simp only [← hm10, ← hm9, List.append_assoc]] at hA
            obtain ⟨ar, cr, rfl, _, _⟩ := hA.ob.shape
            refine VD.draw mixed (.q 0 (.q 1 (.q 2 (.q 3 (.q 4 (.q 5 (.q 6 (.q 7 (.eff 8 [] (.eff 9 [] (.done))))))))))) (by kernel_rfl) ?_;((conv=>whnf);repeat(first|(refine mvT ?_;conv=>whnf)|(refine mvF ?_;conv=>whnf)|(refine cT (by rfl) ?_;conv=>whnf)|(refine cF (by rfl) ?_;conv=>whnf)))
            replace hA := hA.e0 (ext_drew _)
            refine cut_back hA rfl ?_
            refine cut_rest hA rfl ?_
            intro ax kx
            ((conv=>whnf);repeat(first|(refine mvT ?_;conv=>whnf)|(refine mvF ?_;conv=>whnf)|(refine cT (by rfl) ?_;conv=>whnf)|(refine cF (by rfl) ?_;conv=>whnf)))
            rw [u32_nat (by rw [← hnp0]; omega)]
            refine Does.mono (AppendUvarint_does hA.cut.ob (Nat.le_trans hB hA.size) (arA fx (lsT (atT t 5)).length ++ (lsT (atT t 5)).flatMap (fun x => uuidB x.s)).length (by omega) (by simp only [List.length_append]; omega)) ?_;rintro r w h;((conv=>whnf);repeat(first|(refine mvT ?_;conv=>whnf)|(refine mvF ?_;conv=>whnf)|(refine cT (by rfl) ?_;conv=>whnf)|(refine cF (by rfl) ?_;conv=>whnf)))
            replace hA := hA.cut.tr h
            clear h
            ((conv=>whnf);repeat(first|(refine mvT ?_;conv=>whnf)|(refine mvF ?_;conv=>whnf)|(refine cT (by rfl) ?_;conv=>whnf)|(refine cF (by rfl) ?_;conv=>whnf)))
            refine VO.goto ?_
            refine ⟨r, ⟨rfl, rfl, rfl, rfl, rfl, rfl, rfl, rfl, rfl, rfl, trivial⟩, ?_⟩
            rw [hnp0]
            exact hA
          · clear hA
            rintro r w hA
            ((conv=>whnf);repeat(first|(refine mvT ?_;conv=>whnf)|(refine mvF ?_;conv=>whnf)|(refine cT (by rfl) ?_;conv=>whnf)|(refine cF (by rfl) ?_;conv=>whnf)))
            generalize hm9 : m8 ++ (uvar np) = m9 at hA
            have hl9 : m9.length = m8.length + (uvar np).length := by rw [← hm9, List.length_append]
            have hml5 := lsT_len (hok.1 5 _ rfl)
            (refine mvB ?_;((conv=>whnf);repeat(first|(refine mvT ?_;conv=>whnf)|(refine mvF ?_;conv=>whnf)|(refine cT (by rfl) ?_;conv=>whnf)|(refine cF (by rfl) ?_;conv=>whnf))))
            refine VC.cutE (fun r => [(1, r), (0, .pointer (some ⟨p, 0, none⟩)), (5, .int .i16 v), (6, .bool fx), (112, (.slice (some ⟨ge, 0, none⟩) ks.length ke)), (113, .int .i64 ks.length), (114, .int .i64 ii), (16, .bool true), (17, .int .i64 ((l ++ m8).length : Nat)), (15, .slice a5 l5.length k5)]) (fun r w' => Apd w0 B x l (m9 ++ (arA fx (lsT (atT t 5)).length)) r w') ?_ ?_
            · refine cI (by rfl) (fun hc=>?_) (fun hc=>?_)
              · ((conv=>whnf);repeat(first|(refine mvT ?_;conv=>whnf)|(refine mvF ?_;conv=>whnf)|(refine cT (by rfl) ?_;conv=>whnf)|(refine cF (by rfl) ?_;conv=>whnf)))
                refine Does.mono (AppendCompactArrayLen_does hA.ob (Nat.le_trans hB hA.size) (by simp only [List.length_append]; omega) l5.length (by omega)) ?_;rintro r w h;((conv=>whnf);repeat(first|(refine mvT ?_;conv=>whnf)|(refine mvF ?_;conv=>whnf)|(refine cT (by rfl) ?_;conv=>whnf)|(refine cF (by rfl) ?_;conv=>whnf)))
                rw [hll5] at h
                replace hA := hA.tr h
                clear h
                refine ⟨_, ⟨rfl, rfl, rfl, rfl, rfl, rfl, rfl, rfl, rfl, rfl, trivial⟩, ?_⟩
                rw [hc]
                exact hA
              · ((conv=>whnf);repeat(first|(refine mvT ?_;conv=>whnf)|(refine mvF ?_;conv=>whnf)|(refine cT (by rfl) ?_;conv=>whnf)|(refine cF (by rfl) ?_;conv=>whnf)))
                refine Does.mono (AppendArrayLen_does hA.ob (Nat.le_trans hB hA.size) (by simp only [List.length_append]; omega) l5.length) ?_;rintro r w h;((conv=>whnf);repeat(first|(refine mvT ?_;conv=>whnf)|(refine mvF ?_;conv=>whnf)|(refine cT (by rfl) ?_;conv=>whnf)|(refine cF (by rfl) ?_;conv=>whnf)))
                rw [hll5] at h
                replace hA := hA.tr h
                clear h
                refine ⟨_, ⟨rfl, rfl, rfl, rfl, rfl, rfl, rfl, rfl, rfl, rfl, trivial⟩, ?_⟩
                rw [hc]
                exact hA
            clear hA
            rintro r w hA
            ((conv=>whnf);repeat(first|(refine mvT ?_;conv=>whnf)|(refine mvF ?_;conv=>whnf)|(refine cT (by rfl) ?_;conv=>whnf)|(refine cF (by rfl) ?_;conv=>whnf)))
            generalize hm10 : m9 ++ (arA fx (lsT (atT t 5)).length) = m10 at hA
            have hl10 : m10.length = m9.length + (arA fx (lsT (atT t 5)).length).length := by rw [← hm10, List.length_append]
            refine VL.loop (fun s : Nat × Value => [(1, s.2), (0, .pointer (some ⟨p, 0, none⟩)), (5, .int .i16 v), (6, .bool fx), (112, (.slice (some ⟨ge, 0, none⟩) ks.length ke)), (113, .int .i64 ks.length), (114, .int .i64 ii), (16, .bool true), (17, .int .i64 ((l ++ m8).length : Nat)), (15, .slice a5 l5.length k5), (138, .slice a5 l5.length k5), (139, .int .i64 l5.length), (140, .int .i64 s.1)])
              (fun s w' => s.1 ≤ l5.length ∧ Apd w0 B x l (m10 ++ ((lsT (atT t 5)).take s.1).flatMap (fun x => uuidB x.s)) s.2 w') (fun s => l5.length - s.1) (0, r) ⟨rfl, rfl, rfl, rfl, rfl, rfl, rfl, rfl, rfl, rfl, rfl, rfl, rfl, trivial⟩ ⟨Nat.zero_le _, by rw [List.take_zero, List.flatMap_nil, List.append_nil]; exact hA⟩ ?_
            clear hA
            rintro ⟨i1, r⟩ w ⟨hi1, hA⟩
            dsimp only at hi1 hA
            ((conv=>whnf);repeat(first|(refine mvT ?_;conv=>whnf)|(refine mvF ?_;conv=>whnf)|(refine cT (by rfl) ?_;conv=>whnf)|(refine cF (by rfl) ?_;conv=>whnf)))
            refine cI (by rfl) (fun h9=>?_) (fun h9=>?_)
            · have hil : i1 < l5.length := by have := of_decide_eq_true h9; simp only at this; omega
              have hiL1 : i1 < (lsT (atT t 5)).length := by omega
              obtain ⟨hft, hfl⟩ := flat_take (fun x => uuidB x.s) (lsT (atT t 5)) i1 hiL1
              obtain ⟨b5, o5, rfl, hF5, hb5, hce5⟩ := hcl5 i1 l5[i1] (by simp [hil])
              have hre5 := hrl5 i1 l5[i1] ((lsT (atT t 5))[i1]) (by simp [hil]) (by simp [hiL1])
              have hlo5 := lsT_ok (hok.1 5 _ rfl) ((lsT (atT t 5))[i1]) (List.getElem_mem hiL1)
              generalize hm11 : m10 ++ ((lsT (atT t 5)).take i1).flatMap (fun x => uuidB x.s) = m11 at hA
              have hl11 : m11.length = m10.length + (((lsT (atT t 5)).take i1).flatMap (fun x => uuidB x.s)).length := by rw [← hm11, List.length_append]
              obtain ⟨x1, hx1⟩ : ∃ y, y = (lsT (atT t 5))[i1] := ⟨_, rfl⟩
              rw [← hx1] at hft hfl hre5 hlo5
              rw [hre5] at hce5
              obtain ⟨uu0, uu1, uu2, uu3, uu4, uu5, uu6, uu7, uu8, uu9, uu10, uu11, uu12, uu13, uu14, uu15, hxu⟩ := uuid_lit (x1).s
              rw [hxu] at hce5
              simp only [List.map_cons, List.map_nil] at hce5
              ((conv=>whnf);repeat(first|(refine mvT ?_;conv=>whnf)|(refine mvF ?_;conv=>whnf)|(refine cT (by rfl) ?_;conv=>whnf)|(refine cF (by rfl) ?_;conv=>whnf)))
              refine ⟨b5, o5, rfl, ⟨by omega, by omega⟩, ?_⟩
              ((conv=>whnf);repeat(first|(refine mvT ?_;conv=>whnf)|(refine mvF ?_;conv=>whnf)|(refine cT (by rfl) ?_;conv=>whnf)|(refine cF (by rfl) ?_;conv=>whnf)))
              have hcx := hce5.ext hA.ext (hFx _ hb5 hF5)
              refine ⟨_, rfl, by first | exact hcx | (rw [Int.toNat_natCast]; exact hcx) | simpa using hcx, ?_⟩
              ((conv=>whnf);repeat(first|(refine mvT ?_;conv=>whnf)|(refine mvF ?_;conv=>whnf)|(refine cT (by rfl) ?_;conv=>whnf)|(refine cF (by rfl) ?_;conv=>whnf)))
              intro bu wu hbu hou hxu2
              ((conv=>whnf);repeat(first|(refine mvT ?_;conv=>whnf)|(refine mvF ?_;conv=>whnf)|(refine cT (by rfl) ?_;conv=>whnf)|(refine cF (by rfl) ?_;conv=>whnf)))
              refine st_all [bcell uu0, bcell uu1, bcell uu2, bcell uu3, bcell uu4, bcell uu5, bcell uu6, bcell uu7, bcell uu8, bcell uu9, bcell uu10, bcell uu11, bcell uu12, bcell uu13, bcell uu14, bcell uu15] hou rfl rfl rfl ?_
              intro wv hov hxv
              ((conv=>whnf);repeat(first|(refine mvT ?_;conv=>whnf)|(refine mvF ?_;conv=>whnf)|(refine cT (by rfl) ?_;conv=>whnf)|(refine cF (by rfl) ?_;conv=>whnf)))
              replace hA := hA.e0 ((Ext.refl nob _).trans (hxu2.trans hxv (M' := fun k => k = bu) fun k hk e => by omega) fun _ _ h => h)
              refine ⟨_, rfl, hov.cells, ?_⟩
              ((conv=>whnf);repeat(first|(refine mvT ?_;conv=>whnf)|(refine mvF ?_;conv=>whnf)|(refine cT (by rfl) ?_;conv=>whnf)|(refine cF (by rfl) ?_;conv=>whnf)))
              refine Does.mono (AppendUuid_does (s := [uu0, uu1, uu2, uu3, uu4, uu5, uu6, uu7, uu8, uu9, uu10, uu11, uu12, uu13, uu14, uu15]) hA.ob (Nat.le_trans hB hA.size) (by simp only [List.length_append, List.length_cons, List.length_nil]; omega)) ?_;rintro r w h;((conv=>whnf);repeat(first|(refine mvT ?_;conv=>whnf)|(refine mvF ?_;conv=>whnf)|(refine cT (by rfl) ?_;conv=>whnf)|(refine cF (by rfl) ?_;conv=>whnf)))
              replace hA := hA.tr h
              clear h
              rw [← hxu] at hA
              generalize hm12 : m11 ++ (uuidB x1.s) = m12 at hA
              have hl12 : m12.length = m11.length + (uuidB x1.s).length := by rw [← hm12, List.length_append]
              have hfin : m11 ++ (fun x => uuidB x.s) x1 = m12 := by simp only [← hm12, List.append_assoc, List.nil_append, List.append_nil]
              refine ⟨(i1 + 1, r), ⟨rfl, rfl, rfl, rfl, rfl, rfl, rfl, rfl, rfl, rfl, rfl, rfl, inc_eq (by rw [maxLen_eq] at hkm5; omega), trivial⟩, ⟨by simp only; omega, ?_⟩, by simp only; omega⟩
              rw [hft, ← List.append_assoc, hm11, hfin]
              exact hA
            have hil : i1 = l5.length := by have := of_decide_eq_false h9; simp only at this; omega
            ((conv=>whnf);repeat(first|(refine mvT ?_;conv=>whnf)|(refine mvF ?_;conv=>whnf)|(refine cT (by rfl) ?_;conv=>whnf)|(refine cF (by rfl) ?_;conv=>whnf)))
            rw [hil, hll5, List.take_length] at hA
            generalize hm11 : m10 ++ ((lsT (atT t 5)).flatMap (fun x => uuidB x.s)) = m11 at hA
            have hl11 : m11.length = m10.length + ((lsT (atT t 5)).flatMap (fun x => uuidB x.s)).length := by rw [← hm11, List.length_append]
            have hfin : m11 = uvar 0 ++ (uvar np ++ (arA fx (lsT (atT t 5)).length ++ (lsT (atT t 5)).flatMap (fun x => uuidB x.s))) := by simp only [← hm11, ← hm10, ← hm9, ← hm8, hm7, List.append_assoc, List.nil_append, List.append_nil]
            refine ⟨(ii + 1, r), ⟨rfl, rfl, rfl, rfl, rfl, rfl, inc_eq (by omega), trivial⟩, ⟨by simp only; omega, ?_, ?_, ?_⟩, by simp only; omega⟩
            · have hA1 := hA
              rw [hfin, hlI] at hA1
              have h := hA0.tr hA1
              rw [hft, ← List.append_assoc]
              exact h
            · exact hos.ext hA.ext fun k hk e => hsep k hk e
            · exact fun k hk => hA.ne (hsep k hk) (hos.own.lt k hk)
        · ((conv=>whnf);repeat(first|(refine mvT ?_;conv=>whnf)|(refine mvF ?_;conv=>whnf)|(refine cT (by rfl) ?_;conv=>whnf)|(refine cF (by rfl) ?_;conv=>whnf)))
          have hkk0 : kx ≠ 0 := by have := of_decide_eq_false hk0; omega
          refine cI (by rfl) (fun hk1=>?_) (fun hk1=>?_)
          · have hkk : kx = 1 := by have := of_decide_eq_true hk1; omega
            obtain ⟨np, hnp⟩ : ∃ y, y = (naA fx (atT t 6).nl (lsT (atT t 6)).length ++ (lsT (atT t 6)).flatMap (fun x => uuidB x.s)).length := ⟨_, rfl⟩
            have htb1 : tb kx = uvar 1 ++ (uvar np ++ (naA fx (atT t 6).nl (lsT (atT t 6)).length ++ (lsT (atT t 6)).flatMap (fun x => uuidB x.s))) := by
              rw [hnp, hkk, htb]
              show tagB (1, if 1 = 0 then arA fx (lsT (atT t 5)).length ++ (lsT (atT t 5)).flatMap (fun x => uuidB x.s) else (if 1 = 1 then naA fx (atT t 6).nl (lsT (atT t 6)).length ++ (lsT (atT t 6)).flatMap (fun x => uuidB x.s) else ([]))) = _
              rw [if_neg (by decide), if_pos rfl]
              unfold tagB
              rw [List.append_assoc]
            rw [htb1] at hft hfl
            have hnp0 := hnp
            simp only [List.length_append] at hfl hnp
            obtain ⟨a6, k6, l6, hcx6, hkm6, hll6, hnn6, hcl6, hrl6⟩ := hc6.view
            rw [hcx6] at hp
            obtain ⟨m8, hm8⟩ : ∃ y, m7 ++ (uvar 1) = y := ⟨_, rfl⟩
            have hl8 : m8.length = m7.length + (uvar 1).length := by rw [← hm8, List.length_append]
            ((conv=>whnf);repeat(first|(refine mvT ?_;conv=>whnf)|(refine mvF ?_;conv=>whnf)|(refine cT (by rfl) ?_;conv=>whnf)|(refine cF (by rfl) ?_;conv=>whnf)))
            refine VO.scope (l := 1) (fun q : Value => [(1, q), (0, .pointer (some ⟨p, 0, none⟩)), (5, .int .i16 v), (6, .bool fx), (112, (.slice (some ⟨ge, 0, none⟩) ks.length ke)), (113, .int .i64 ks.length), (114, .int .i64 ii), (20, .slice a6 l6.length k6), (21, .bool true), (22, .int .i64 ((l ++ m8).length : Nat))]) (fun q w' => Apd w0 B x l (m8 ++ uvar np) q w') rfl ?_ ?_
            · ((conv=>whnf);repeat(first|(refine mvT ?_;conv=>whnf)|(refine mvF ?_;conv=>whnf)|(refine cT (by rfl) ?_;conv=>whnf)|(refine cF (by rfl) ?_;conv=>whnf)))
              refine ldS ((hp.ext hA.ext hxp).cell rfl) ?_;((conv=>whnf);repeat(first|(refine mvT ?_;conv=>whnf)|(refine mvF ?_;conv=>whnf)|(refine cT (by rfl) ?_;conv=>whnf)|(refine cF (by rfl) ?_;conv=>whnf)))
              refine Does.mono (AppendUvarint_does hA.ob (Nat.le_trans hB hA.size) 1 (by omega) (by simp only [List.length_append]; omega)) ?_;rintro r w h;((conv=>whnf);repeat(first|(refine mvT ?_;conv=>whnf)|(refine mvF ?_;conv=>whnf)|(refine cT (by rfl) ?_;conv=>whnf)|(refine cF (by rfl) ?_;conv=>whnf)))
              replace hA := hA.tr h
              clear h
              rw [hm8] at hA
              obtain ⟨ar, cr, rfl, _, _⟩ := hA.ob.shape
              ((conv=>whnf);repeat(first|(refine mvT ?_;conv=>whnf)|(refine mvF ?_;conv=>whnf)|(refine cT (by rfl) ?_;conv=>whnf)|(refine cF (by rfl) ?_;conv=>whnf)))
              refine VO.label ?_
              ((conv=>whnf);repeat(first|(refine mvT ?_;conv=>whnf)|(refine mvF ?_;conv=>whnf)|(refine cT (by rfl) ?_;conv=>whnf)|(refine cF (by rfl) ?_;conv=>whnf)))
              have hml6 := lsT_len (hok.1 6 _ rfl)
              (refine mvB ?_;((conv=>whnf);repeat(first|(refine mvT ?_;conv=>whnf)|(refine mvF ?_;conv=>whnf)|(refine cT (by rfl) ?_;conv=>whnf)|(refine cF (by rfl) ?_;conv=>whnf))))
              refine VC.cutE (fun r => [(1, r), (0, .pointer (some ⟨p, 0, none⟩)), (5, .int .i16 v), (6, .bool fx), (112, (.slice (some ⟨ge, 0, none⟩) ks.length ke)), (113, .int .i64 ks.length), (114, .int .i64 ii), (21, .bool false), (22, .int .i64 ((l ++ m8).length : Nat)), (20, .slice a6 l6.length k6)]) (fun r w' => Apd w0 B x l (m8 ++ (naA fx (atT t 6).nl (lsT (atT t 6)).length)) r w') ?_ ?_
              · refine cI (by rfl) (fun hc=>?_) (fun hc=>?_)
                · ((conv=>whnf);repeat(first|(refine mvT ?_;conv=>whnf)|(refine mvF ?_;conv=>whnf)|(refine cT (by rfl) ?_;conv=>whnf)|(refine cF (by rfl) ?_;conv=>whnf)))
                  refine Does.mono (AppendCompactNullableArrayLen_does hA.ob (Nat.le_trans hB hA.size) (by simp only [List.length_append]; omega) l6.length (by omega) _) ?_;rintro r w h;((conv=>whnf);repeat(first|(refine mvT ?_;conv=>whnf)|(refine mvF ?_;conv=>whnf)|(refine cT (by rfl) ?_;conv=>whnf)|(refine cF (by rfl) ?_;conv=>whnf)))
                  rw [hll6, hnn6 rfl] at h
                  replace hA := hA.tr h
                  clear h
                  refine ⟨_, ⟨rfl, rfl, rfl, rfl, rfl, rfl, rfl, rfl, rfl, rfl, trivial⟩, ?_⟩
                  rw [hc]
                  exact hA
                · ((conv=>whnf);repeat(first|(refine mvT ?_;conv=>whnf)|(refine mvF ?_;conv=>whnf)|(refine cT (by rfl) ?_;conv=>whnf)|(refine cF (by rfl) ?_;conv=>whnf)))
                  refine Does.mono (AppendNullableArrayLen_does hA.ob (Nat.le_trans hB hA.size) (by simp only [List.length_append]; omega) l6.length _) ?_;rintro r w h;((conv=>whnf);repeat(first|(refine mvT ?_;conv=>whnf)|(refine mvF ?_;conv=>whnf)|(refine cT (by rfl) ?_;conv=>whnf)|(refine cF (by rfl) ?_;conv=>whnf)))
                  rw [hll6, hnn6 rfl] at h
                  replace hA := hA.tr h
                  clear h
                  refine ⟨_, ⟨rfl, rfl, rfl, rfl, rfl, rfl, rfl, rfl, rfl, rfl, trivial⟩, ?_⟩
                  rw [hc]
                  exact hA
              clear hA
              rintro r w hA
              ((conv=>whnf);repeat(first|(refine mvT ?_;conv=>whnf)|(refine mvF ?_;conv=>whnf)|(refine cT (by rfl) ?_;conv=>whnf)|(refine cF (by rfl) ?_;conv=>whnf)))
              generalize hm9 : m8 ++ (naA fx (atT t 6).nl (lsT (atT t 6)).length) = m9 at hA
              have hl9 : m9.length = m8.length + (naA fx (atT t 6).nl (lsT (atT t 6)).length).length := by rw [← hm9, List.length_append]
              refine VL.loop (fun s : Nat × Value => [(1, s.2), (0, .pointer (some ⟨p, 0, none⟩)), (5, .int .i16 v), (6, .bool fx), (112, (.slice (some ⟨ge, 0, none⟩) ks.length ke)), (113, .int .i64 ks.length), (114, .int .i64 ii), (21, .bool false), (22, .int .i64 ((l ++ m8).length : Nat)), (20, .slice a6 l6.length k6), (185, .slice a6 l6.length k6), (186, .int .i64 l6.length), (187, .int .i64 s.1)])
                (fun s w' => s.1 ≤ l6.length ∧ Apd w0 B x l (m9 ++ ((lsT (atT t 6)).take s.1).flatMap (fun x => uuidB x.s)) s.2 w') (fun s => l6.length - s.1) (0, r) ⟨rfl, rfl, rfl, rfl, rfl, rfl, rfl, rfl, rfl, rfl, rfl, rfl, rfl, trivial⟩ ⟨Nat.zero_le _, by rw [List.take_zero, List.flatMap_nil, List.append_nil]; exact hA⟩ ?_
              clear hA
              rintro ⟨i1, r⟩ w ⟨hi1, hA⟩
              dsimp only at hi1 hA
              ((conv=>whnf);repeat(first|(refine mvT ?_;conv=>whnf)|(refine mvF ?_;conv=>whnf)|(refine cT (by rfl) ?_;conv=>whnf)|(refine cF (by rfl) ?_;conv=>whnf)))
              refine cI (by rfl) (fun h9=>?_) (fun h9=>?_)
              · have hil : i1 < l6.length := by have := of_decide_eq_true h9; simp only at this; omega
                have hiL1 : i1 < (lsT (atT t 6)).length := by omega
                obtain ⟨hft, hfl⟩ := flat_take (fun x => uuidB x.s) (lsT (atT t 6)) i1 hiL1
                obtain ⟨b6, o6, rfl, hF6, hb6, hce6⟩ := hcl6 i1 l6[i1] (by simp [hil])
                have hre6 := hrl6 i1 l6[i1] ((lsT (atT t 6))[i1]) (by simp [hil]) (by simp [hiL1])
                have hlo6 := lsT_ok (hok.1 6 _ rfl) ((lsT (atT t 6))[i1]) (List.getElem_mem hiL1)
                generalize hm10 : m9 ++ ((lsT (atT t 6)).take i1).flatMap (fun x => uuidB x.s) = m10 at hA
                have hl10 : m10.length = m9.length + (((lsT (atT t 6)).take i1).flatMap (fun x => uuidB x.s)).length := by rw [← hm10, List.length_append]
                obtain ⟨x1, hx1⟩ : ∃ y, y = (lsT (atT t 6))[i1] := ⟨_, rfl⟩
                rw [← hx1] at hft hfl hre6 hlo6
                rw [hre6] at hce6
                obtain ⟨uu0, uu1, uu2, uu3, uu4, uu5, uu6, uu7, uu8, uu9, uu10, uu11, uu12, uu13, uu14, uu15, hxu⟩ := uuid_lit (x1).s
                rw [hxu] at hce6
                simp only [List.map_cons, List.map_nil] at hce6
                ((conv=>whnf);repeat(first|(refine mvT ?_;conv=>whnf)|(refine mvF ?_;conv=>whnf)|(refine cT (by rfl) ?_;conv=>whnf)|(refine cF (by rfl) ?_;conv=>whnf)))
                refine ⟨b6, o6, rfl, ⟨by omega, by omega⟩, ?_⟩
                ((conv=>whnf);repeat(first|(refine mvT ?_;conv=>whnf)|(refine mvF ?_;conv=>whnf)|(refine cT (by rfl) ?_;conv=>whnf)|(refine cF (by rfl) ?_;conv=>whnf)))
                have hcx := hce6.ext hA.ext (hFx _ hb6 hF6)
                refine ⟨_, rfl, by first | exact hcx | (rw [Int.toNat_natCast]; exact hcx) | simpa using hcx, ?_⟩
                ((conv=>whnf);repeat(first|(refine mvT ?_;conv=>whnf)|(refine mvF ?_;conv=>whnf)|(refine cT (by rfl) ?_;conv=>whnf)|(refine cF (by rfl) ?_;conv=>whnf)))
                intro bu wu hbu hou hxu2
                ((conv=>whnf);repeat(first|(refine mvT ?_;conv=>whnf)|(refine mvF ?_;conv=>whnf)|(refine cT (by rfl) ?_;conv=>whnf)|(refine cF (by rfl) ?_;conv=>whnf)))
                refine st_all [bcell uu0, bcell uu1, bcell uu2, bcell uu3, bcell uu4, bcell uu5, bcell uu6, bcell uu7, bcell uu8, bcell uu9, bcell uu10, bcell uu11, bcell uu12, bcell uu13, bcell uu14, bcell uu15] hou rfl rfl rfl ?_
                intro wv hov hxv
                ((conv=>whnf);repeat(first|(refine mvT ?_;conv=>whnf)|(refine mvF ?_;conv=>whnf)|(refine cT (by rfl) ?_;conv=>whnf)|(refine cF (by rfl) ?_;conv=>whnf)))
                replace hA := hA.e0 ((Ext.refl nob _).trans (hxu2.trans hxv (M' := fun k => k = bu) fun k hk e => by omega) fun _ _ h => h)
                refine ⟨_, rfl, hov.cells, ?_⟩
                ((conv=>whnf);repeat(first|(refine mvT ?_;conv=>whnf)|(refine mvF ?_;conv=>whnf)|(refine cT (by rfl) ?_;conv=>whnf)|(refine cF (by rfl) ?_;conv=>whnf)))
                refine Does.mono (AppendUuid_does (s := [uu0, uu1, uu2, uu3, uu4, uu5, uu6, uu7, uu8, uu9, uu10, uu11, uu12, uu13, uu14, uu15]) hA.ob (Nat.le_trans hB hA.size) (by simp only [List.length_append, List.length_cons, List.length_nil]; omega)) ?_;rintro r w h;((conv=>whnf);repeat(first|(refine mvT ?_;conv=>whnf)|(refine mvF ?_;conv=>whnf)|(refine cT (by rfl) ?_;conv=>whnf)|(refine cF (by rfl) ?_;conv=>whnf)))
                replace hA := hA.tr h
                clear h
                rw [← hxu] at hA
                generalize hm11 : m10 ++ (uuidB x1.s) = m11 at hA
                have hl11 : m11.length = m10.length + (uuidB x1.s).length := by rw [← hm11, List.length_append]
                have hfin : m10 ++ (fun x => uuidB x.s) x1 = m11 := by simp only [← hm11, List.append_assoc, List.nil_append, List.append_nil]
                refine ⟨(i1 + 1, r), ⟨rfl, rfl, rfl, rfl, rfl, rfl, rfl, rfl, rfl, rfl, rfl, rfl, inc_eq (by rw [maxLen_eq] at hkm6; omega), trivial⟩, ⟨by simp only; omega, ?_⟩, by simp only; omega⟩
                rw [hft, ← List.append_assoc, hm10, hfin]
                exact hA
              have hil : i1 = l6.length := by have := of_decide_eq_false h9; simp only at this; omega
              ((conv=>whnf);repeat(first|(refine mvT ?_;conv=>whnf)|(refine mvF ?_;conv=>whnf)|(refine cT (by rfl) ?_;conv=>whnf)|(refine cF (by rfl) ?_;conv=>whnf)))
              rw [hil, hll6, List.take_length] at hA
              generalize hm10 : m9 ++ ((lsT (atT t 6)).flatMap (fun x => uuidB x.s)) = m10 at hA
              have hl10 : m10.length = m9.length + ((lsT (atT t 6)).flatMap (fun x => uuidB x.s)).length := by rw [← hm10, List.length_append]
              rw [show m10 = m8 ++ (naA fx (atT t 6).nl (lsT (atT t 6)).length ++ (lsT (atT t 6)).flatMap (fun x => uuidB x.s)) by simp only [← hm10, ← hm9, List.append_assoc]] at hA
              obtain ⟨ar, cr, rfl, _, _⟩ := hA.ob.shape
              refine VD.draw mixed (.q 0 (.q 1 (.q 2 (.q 3 (.q 4 (.q 5 (.q 6 (.q 7 (.eff 8 [] (.eff 9 [] (.done))))))))))) (by kernel_rfl) ?_;((conv=>whnf);repeat(first|(refine mvT ?_;conv=>whnf)|(refine mvF ?_;conv=>whnf)|(refine cT (by rfl) ?_;conv=>whnf)|(refine cF (by rfl) ?_;conv=>whnf)))
              replace hA := hA.e0 (ext_drew _)
              refine cut_back hA rfl ?_
              refine cut_rest hA rfl ?_
              intro ax kx
              ((conv=>whnf);repeat(first|(refine mvT ?_;conv=>whnf)|(refine mvF ?_;conv=>whnf)|(refine cT (by rfl) ?_;conv=>whnf)|(refine cF (by rfl) ?_;conv=>whnf)))
              rw [u32_nat (by rw [← hnp0]; omega)]
              refine Does.mono (AppendUvarint_does hA.cut.ob (Nat.le_trans hB hA.size) (naA fx (atT t 6).nl (lsT (atT t 6)).length ++ (lsT (atT t 6)).flatMap (fun x => uuidB x.s)).length (by omega) (by simp only [List.length_append]; omega)) ?_;rintro r w h;((conv=>whnf);repeat(first|(refine mvT ?_;conv=>whnf)|(refine mvF ?_;conv=>whnf)|(refine cT (by rfl) ?_;conv=>whnf)|(refine cF (by rfl) ?_;conv=>whnf)))
              replace hA := hA.cut.tr h
              clear h
              ((conv=>whnf);repeat(first|(refine mvT ?_;conv=>whnf)|(refine mvF ?_;conv=>whnf)|(refine cT (by rfl) ?_;conv=>whnf)|(refine cF (by rfl) ?_;conv=>whnf)))
              refine VO.goto ?_
              refine ⟨r, ⟨rfl, rfl, rfl, rfl, rfl, rfl, rfl, rfl, rfl, rfl, trivial⟩, ?_⟩
              rw [hnp0]
              exact hA
            · clear hA
              rintro r w hA
              ((conv=>whnf);repeat(first|(refine mvT ?_;conv=>whnf)|(refine mvF ?_;conv=>whnf)|(refine cT (by rfl) ?_;conv=>whnf)|(refine cF (by rfl) ?_;conv=>whnf)))
              generalize hm9 : m8 ++ (uvar np) = m9 at hA
              have hl9 : m9.length = m8.length + (uvar np).length := by rw [← hm9, List.length_append]
              have hml6 := lsT_len (hok.1 6 _ rfl)
              (refine mvB ?_;((conv=>whnf);repeat(first|(refine mvT ?_;conv=>whnf)|(refine mvF ?_;conv=>whnf)|(refine cT (by rfl) ?_;conv=>whnf)|(refine cF (by rfl) ?_;conv=>whnf))))
              refine VC.cutE (fun r => [(1, r), (0, .pointer (some ⟨p, 0, none⟩)), (5, .int .i16 v), (6, .bool fx), (112, (.slice (some ⟨ge, 0, none⟩) ks.length ke)), (113, .int .i64 ks.length), (114, .int .i64 ii), (21, .bool true), (22, .int .i64 ((l ++ m8).length : Nat)), (20, .slice a6 l6.length k6)]) (fun r w' => Apd w0 B x l (m9 ++ (naA fx (atT t 6).nl (lsT (atT t 6)).length)) r w') ?_ ?_
              · refine cI (by rfl) (fun hc=>?_) (fun hc=>?_)
                · ((conv=>whnf);repeat(first|(refine mvT ?_;conv=>whnf)|(refine mvF ?_;conv=>whnf)|(refine cT (by rfl) ?_;conv=>whnf)|(refine cF (by rfl) ?_;conv=>whnf)))
                  refine Does.mono (AppendCompactNullableArrayLen_does hA.ob (Nat.le_trans hB hA.size) (by simp only [List.length_append]; omega) l6.length (by omega) _) ?_;rintro r w h;((conv=>whnf);repeat(first|(refine mvT ?_;conv=>whnf)|(refine mvF ?_;conv=>whnf)|(refine cT (by rfl) ?_;conv=>whnf)|(refine cF (by rfl) ?_;conv=>whnf)))
                  rw [hll6, hnn6 rfl] at h
                  replace hA := hA.tr h
                  clear h
                  refine ⟨_, ⟨rfl, rfl, rfl, rfl, rfl, rfl, rfl, rfl, rfl, rfl, trivial⟩, ?_⟩
                  rw [hc]
                  exact hA
                · ((conv=>whnf);repeat(first|(refine mvT ?_;conv=>whnf)|(refine mvF ?_;conv=>whnf)|(refine cT (by rfl) ?_;conv=>whnf)|(refine cF (by rfl) ?_;conv=>whnf)))
                  refine Does.mono (AppendNullableArrayLen_does hA.ob (Nat.le_trans hB hA.size) (by simp only [List.length_append]; omega) l6.length _) ?_;rintro r w h;((conv=>whnf);repeat(first|(refine mvT ?_;conv=>whnf)|(refine mvF ?_;conv=>whnf)|(refine cT (by rfl) ?_;conv=>whnf)|(refine cF (by rfl) ?_;conv=>whnf)))
                  rw [hll6, hnn6 rfl] at h
                  replace hA := hA.tr h
                  clear h
                  refine ⟨_, ⟨rfl, rfl, rfl, rfl, rfl, rfl, rfl, rfl, rfl, rfl, trivial⟩, ?_⟩
                  rw [hc]
                  exact hA
              clear hA
              rintro r w hA
              ((conv=>whnf);repeat(first|(refine mvT ?_;conv=>whnf)|(refine mvF ?_;conv=>whnf)|(refine cT (by rfl) ?_;conv=>whnf)|(refine cF (by rfl) ?_;conv=>whnf)))
              generalize hm10 : m9 ++ (naA fx (atT t 6).nl (lsT (atT t 6)).length) = m10 at hA
              have hl10 : m10.length = m9.length + (naA fx (atT t 6).nl (lsT (atT t 6)).length).length := by rw [← hm10, List.length_append]
              refine VL.loop (fun s : Nat × Value => [(1, s.2), (0, .pointer (some ⟨p, 0, none⟩)), (5, .int .i16 v), (6, .bool fx), (112, (.slice (some ⟨ge, 0, none⟩) ks.length ke)), (113, .int .i64 ks.length), (114, .int .i64 ii), (21, .bool true), (22, .int .i64 ((l ++ m8).length : Nat)), (20, .slice a6 l6.length k6), (185, .slice a6 l6.length k6), (186, .int .i64 l6.length), (187, .int .i64 s.1)])
                (fun s w' => s.1 ≤ l6.length ∧ Apd w0 B x l (m10 ++ ((lsT (atT t 6)).take s.1).flatMap (fun x => uuidB x.s)) s.2 w') (fun s => l6.length - s.1) (0, r) ⟨rfl, rfl, rfl, rfl, rfl, rfl, rfl, rfl, rfl, rfl, rfl, rfl, rfl, trivial⟩ ⟨Nat.zero_le _, by rw [List.take_zero, List.flatMap_nil, List.append_nil]; exact hA⟩ ?_
              clear hA
              rintro ⟨i1, r⟩ w ⟨hi1, hA⟩
              dsimp only at hi1 hA
              ((conv=>whnf);repeat(first|(refine mvT ?_;conv=>whnf)|(refine mvF ?_;conv=>whnf)|(refine cT (by rfl) ?_;conv=>whnf)|(refine cF (by rfl) ?_;conv=>whnf)))
              refine cI (by rfl) (fun h9=>?_) (fun h9=>?_)
              · have hil : i1 < l6.length := by have := of_decide_eq_true h9; simp only at this; omega
                have hiL1 : i1 < (lsT (atT t 6)).length := by omega
                obtain ⟨hft, hfl⟩ := flat_take (fun x => uuidB x.s) (lsT (atT t 6)) i1 hiL1
                obtain ⟨b6, o6, rfl, hF6, hb6, hce6⟩ := hcl6 i1 l6[i1] (by simp [hil])
                have hre6 := hrl6 i1 l6[i1] ((lsT (atT t 6))[i1]) (by simp [hil]) (by simp [hiL1])
                have hlo6 := lsT_ok (hok.1 6 _ rfl) ((lsT (atT t 6))[i1]) (List.getElem_mem hiL1)
                generalize hm11 : m10 ++ ((lsT (atT t 6)).take i1).flatMap (fun x => uuidB x.s) = m11 at hA
                have hl11 : m11.length = m10.length + (((lsT (atT t 6)).take i1).flatMap (fun x => uuidB x.s)).length := by rw [← hm11, List.length_append]
                obtain ⟨x1, hx1⟩ : ∃ y, y = (lsT (atT t 6))[i1] := ⟨_, rfl⟩
                rw [← hx1] at hft hfl hre6 hlo6
                rw [hre6] at hce6
                obtain ⟨uu0, uu1, uu2, uu3, uu4, uu5, uu6, uu7, uu8, uu9, uu10, uu11, uu12, uu13, uu14, uu15, hxu⟩ := uuid_lit (x1).s
                rw [hxu] at hce6
                simp only [List.map_cons, List.map_nil] at hce6
                ((conv=>whnf);repeat(first|(refine mvT ?_;conv=>whnf)|(refine mvF ?_;conv=>whnf)|(refine cT (by rfl) ?_;conv=>whnf)|(refine cF (by rfl) ?_;conv=>whnf)))
                refine ⟨b6, o6, rfl, ⟨by omega, by omega⟩, ?_⟩
                ((conv=>whnf);repeat(first|(refine mvT ?_;conv=>whnf)|(refine mvF ?_;conv=>whnf)|(refine cT (by rfl) ?_;conv=>whnf)|(refine cF (by rfl) ?_;conv=>whnf)))
                have hcx := hce6.ext hA.ext (hFx _ hb6 hF6)
                refine ⟨_, rfl, by first | exact hcx | (rw [Int.toNat_natCast]; exact hcx) | simpa using hcx, ?_⟩
                ((conv=>whnf);repeat(first|(refine mvT ?_;conv=>whnf)|(refine mvF ?_;conv=>whnf)|(refine cT (by rfl) ?_;conv=>whnf)|(refine cF (by rfl) ?_;conv=>whnf)))
                intro bu wu hbu hou hxu2
                ((conv=>whnf);repeat(first|(refine mvT ?_;conv=>whnf)|(refine mvF ?_;conv=>whnf)|(refine cT (by rfl) ?_;conv=>whnf)|(refine cF (by rfl) ?_;conv=>whnf)))
                refine st_all [bcell uu0, bcell uu1, bcell uu2, bcell uu3, bcell uu4, bcell uu5, bcell uu6, bcell uu7, bcell uu8, bcell uu9, bcell uu10, bcell uu11, bcell uu12, bcell uu13, bcell uu14, bcell uu15] hou rfl rfl rfl ?_
                intro wv hov hxv
                ((conv=>whnf);repeat(first|(refine mvT ?_;conv=>whnf)|(refine mvF ?_;conv=>whnf)|(refine cT (by rfl) ?_;conv=>whnf)|(refine cF (by rfl) ?_;conv=>whnf)))
                replace hA := hA.e0 ((Ext.refl nob _).trans (hxu2.trans hxv (M' := fun k => k = bu) fun k hk e => by omega) fun _ _ h => h)
                refine ⟨_, rfl, hov.cells, ?_⟩
                ((conv=>whnf);repeat(first|(refine mvT ?_;conv=>whnf)|(refine mvF ?_;conv=>whnf)|(refine cT (by rfl) ?_;conv=>whnf)|(refine cF (by rfl) ?_;conv=>whnf)))
                refine Does.mono (AppendUuid_does (s := [uu0, uu1, uu2, uu3, uu4, uu5, uu6, uu7, uu8, uu9, uu10, uu11, uu12, uu13, uu14, uu15]) hA.ob (Nat.le_trans hB hA.size) (by simp only [List.length_append, List.length_cons, List.length_nil]; omega)) ?_;rintro r w h;((conv=>whnf);repeat(first|(refine mvT ?_;conv=>whnf)|(refine mvF ?_;conv=>whnf)|(refine cT (by rfl) ?_;conv=>whnf)|(refine cF (by rfl) ?_;conv=>whnf)))
                replace hA := hA.tr h
                clear h
                rw [← hxu] at hA
                generalize hm12 : m11 ++ (uuidB x1.s) = m12 at hA
                have hl12 : m12.length = m11.length + (uuidB x1.s).length := by rw [← hm12, List.length_append]
                have hfin : m11 ++ (fun x => uuidB x.s) x1 = m12 := by simp only [← hm12, List.append_assoc, List.nil_append, List.append_nil]
                refine ⟨(i1 + 1, r), ⟨rfl, rfl, rfl, rfl, rfl, rfl, rfl, rfl, rfl, rfl, rfl, rfl, inc_eq (by rw [maxLen_eq] at hkm6; omega), trivial⟩, ⟨by simp only; omega, ?_⟩, by simp only; omega⟩
                rw [hft, ← List.append_assoc, hm11, hfin]
                exact hA
              have hil : i1 = l6.length := by have := of_decide_eq_false h9; simp only at this; omega
              ((conv=>whnf);repeat(first|(refine mvT ?_;conv=>whnf)|(refine mvF ?_;conv=>whnf)|(refine cT (by rfl) ?_;conv=>whnf)|(refine cF (by rfl) ?_;conv=>whnf)))
              rw [hil, hll6, List.take_length] at hA
              generalize hm11 : m10 ++ ((lsT (atT t 6)).flatMap (fun x => uuidB x.s)) = m11 at hA
              have hl11 : m11.length = m10.length + ((lsT (atT t 6)).flatMap (fun x => uuidB x.s)).length := by rw [← hm11, List.length_append]
              have hfin : m11 = uvar 1 ++ (uvar np ++ (naA fx (atT t 6).nl (lsT (atT t 6)).length ++ (lsT (atT t 6)).flatMap (fun x => uuidB x.s))) := by simp only [← hm11, ← hm10, ← hm9, ← hm8, hm7, List.append_assoc, List.nil_append, List.append_nil]
              refine ⟨(ii + 1, r), ⟨rfl, rfl, rfl, rfl, rfl, rfl, inc_eq (by omega), trivial⟩, ⟨by simp only; omega, ?_, ?_, ?_⟩, by simp only; omega⟩
              · have hA1 := hA
                rw [hfin, hlI] at hA1
                have h := hA0.tr hA1
                rw [hft, ← List.append_assoc]
                exact h
              · exact hos.ext hA.ext fun k hk e => hsep k hk e
              · exact fun k hk => hA.ne (hsep k hk) (hos.own.lt k hk)
          · have := of_decide_eq_false hk1
            omega
      have hil : ii = ks.length := by have := of_decide_eq_false h9; simp only at this; omega
      ((conv=>whnf);repeat(first|(refine mvT ?_;conv=>whnf)|(refine mvF ?_;conv=>whnf)|(refine cT (by rfl) ?_;conv=>whnf)|(refine cF (by rfl) ?_;conv=>whnf)))
      rw [hil, List.take_length] at hA
      generalize hm7 : m6 ++ (ks.flatMap tb) = m7 at hA
      have hl7 : m7.length = m6.length + (ks.flatMap tb).length := by rw [← hm7, List.length_append]
      refine Does.mono (AppendEach_does ((hp.ext hA.ext hxp).cell rfl) (hm.ext hA.ext hFx) hok.2 hA.ob (Nat.le_trans hB hA.size) (hA.ne hxp hpl) (fun j _ hf => hA.ne (hFR j hf).2 (hFR j hf).1) (by simp only [List.length_append]; omega)) ?_;rintro r w h;((conv=>whnf);repeat(first|(refine mvT ?_;conv=>whnf)|(refine mvF ?_;conv=>whnf)|(refine cT (by rfl) ?_;conv=>whnf)|(refine cF (by rfl) ?_;conv=>whnf)))
      replace hA := hA.tr h
      clear h
      generalize hm8 : m7 ++ ((t).u.flatMap tagB) = m8 at hA
      have hl8 : m8.length = m7.length + ((t).u.flatMap tagB).length := by rw [← hm8, List.length_append]
      refine ⟨_, ⟨rfl, rfl, rfl, rfl, trivial⟩, ?_⟩
      rw [if_pos hc, hgl, hgf, show m5 ++ (uvar (ks.length + (t).u.length) ++ (ks.flatMap tb ++ (t).u.flatMap tagB)) = m8 by simp only [← hm8, ← hm7, ← hm6, List.append_assoc]]
      exact hA
    · ((conv=>whnf);repeat(first|(refine mvT ?_;conv=>whnf)|(refine mvF ?_;conv=>whnf)|(refine cT (by rfl) ?_;conv=>whnf)|(refine cF (by rfl) ?_;conv=>whnf)))
      refine ⟨_, ⟨rfl, rfl, rfl, rfl, trivial⟩, ?_⟩
      rw [if_neg (by rw [hc]; decide), List.append_nil]
      exact hA
  clear hA
  rintro r w hA
  ((conv=>whnf);repeat(first|(refine mvT ?_;conv=>whnf)|(refine mvF ?_;conv=>whnf)|(refine cT (by rfl) ?_;conv=>whnf)|(refine cF (by rfl) ?_;conv=>whnf)))
  generalize hm6 : m5 ++ ((if fx = true then uvar ((gBrokerHeartbeatRequest v fx t).length + (t).u.length) ++ ((gBrokerHeartbeatRequest v fx t).flatMap tagB ++ (t).u.flatMap tagB) else [])) = m6 at hA
  have hl6 : m6.length = m5.length + ((if fx = true then uvar ((gBrokerHeartbeatRequest v fx t).length + (t).u.length) ++ ((gBrokerHeartbeatRequest v fx t).flatMap tagB ++ (t).u.flatMap tagB) else [])).length := by rw [← hm6, List.length_append]
  show Apd w0 B x l _ r w
  rw [show bBrokerHeartbeatRequest v fx t = m6 by unfold bBrokerHeartbeatRequest; simp only [← hm6, ← hm5, ← hm4, ← hm3, ← hm2, ← hm1, hm0, List.append_assoc, List.nil_append, List.append_nil]]
  exact hA
theorem qBrokerHeartbeatRequest {w : World} {F : Nat → Prop} {cs : List Value} {t : T} (h : QPart true 9 dBrokerHeartbeatRequest ⟨w, F⟩ cs t) : ∃ c5 c6 m, cs = [.int .i32 (IntKind.i32.wrap (atT t 0).n), .int .i64 (atT t 1).n, .int .i64 (atT t 2).n, .bool (decide ((atT t 3).n % 2 = 1)), .bool (decide ((atT t 4).n % 2 = 1)), c5, c6, m] ∧ ListR true 16 (fun c x => c = (uuidB x.s).map bcell) w F c5 (atT t 5) ∧ ListR true 16 (fun c x => c = (uuidB x.s).map bcell) w F c6 (atT t 6) ∧ TagsR w F m t.u := by
  obtain ⟨_, _, u_, m, rfl, rfl, hA0, hm⟩ := iP h
  clear h
  obtain ⟨cc0, _, x0, _, rfl, rfl, h0, hA1⟩ := iA hA0
  obtain ⟨n0, rfl, rfl⟩ := iF3 h0
  obtain ⟨cc1, _, x1, _, rfl, rfl, h1, hA2⟩ := iA hA1
  obtain ⟨n1, rfl, rfl⟩ := iF4 h1
  obtain ⟨cc2, _, x2, _, rfl, rfl, h2, hA3⟩ := iA hA2
  obtain ⟨n2, rfl, rfl⟩ := iF4 h2
  obtain ⟨cc3, _, x3, _, rfl, rfl, h3, hA4⟩ := iA hA3
  obtain ⟨n3, rfl, rfl⟩ := iF0 h3
  obtain ⟨cc4, _, x4, _, rfl, rfl, h4, hA5⟩ := iA hA4
  obtain ⟨n4, rfl, rfl⟩ := iF0 h4
  obtain ⟨cc5, _, x5, _, rfl, rfl, h5, hA6⟩ := iA hA5
  obtain ⟨c5, rfl, hh5⟩ := iF11 (tg := true) (d := 8) (wf := ⟨w, F⟩) (of := 7) (sub := []) (sz := 16) (R := (fun c x => c = (uuidB x.s).map bcell)) rfl iE7 h5
  obtain ⟨cc6, _, x6, _, rfl, rfl, h6, hA7⟩ := iA hA6
  obtain ⟨c6, rfl, hh6⟩ := iF11 (tg := true) (d := 8) (wf := ⟨w, F⟩) (of := 7) (sub := []) (sz := 16) (R := (fun c x => c = (uuidB x.s).map bcell)) rfl iE7 h6
  obtain ⟨rfl, rfl⟩ := hA7
  exact ⟨c5, c6, m, rfl, hh5, hh6, hm⟩
theorem newBrokerHeartbeatRequest (w : World) : Does X.P 27 #[] w fun r w' => ∃ p, r = .pointer (some ⟨p, 0, none⟩) ∧ w.heap.size ≤ p ∧ Own w' p 112 [.int .i16 0, .int .i32 0, .int .i64 (-1), .int .i64 0, .bool false, .bool false, .slice none 0 0, .slice none 0 0, .map none] ∧ Ext nob w w' := by
  refine Does.go (X := X) (l := []) Tryz.func27 rfl (by kernel_rfl) (by kernel_rfl) _ rfl ?_
  ((conv=>whnf);repeat(first|(refine mvT ?_;conv=>whnf)|(refine mvF ?_;conv=>whnf)|(refine cT (by rfl) ?_;conv=>whnf)|(refine cF (by rfl) ?_;conv=>whnf)))
  intro p w1 hp ho hx
  ((conv=>whnf);repeat(first|(refine mvT ?_;conv=>whnf)|(refine mvF ?_;conv=>whnf)|(refine cT (by rfl) ?_;conv=>whnf)|(refine cF (by rfl) ?_;conv=>whnf)))
  refine Does.mono (dfBrokerHeartbeatRequest (pre := []) (cur := [.int .i16 0, .int .i32 0, .int .i64 0, .int .i64 0, .bool false, .bool false, .slice none 0 0, .slice none 0 0, .map none]) (post := []) (by simpa using ho) rfl rfl) ?_;rintro r2 w2 ⟨hd, hx2⟩;((conv=>whnf);repeat(first|(refine mvT ?_;conv=>whnf)|(refine mvF ?_;conv=>whnf)|(refine cT (by rfl) ?_;conv=>whnf)|(refine cF (by rfl) ?_;conv=>whnf)))
  exact ⟨p, rfl, hp, by simpa using hd, hx.st hx2 hp⟩
theorem maxBrokerHeartbeatRequest (w : World) : Does X.P 13 #[] w fun r w' => r = .int .i64 2 ∧ Ext nob w w' := by
  have hmax : ∀ (p : Nat) (w : World), Does X.P 28 #[.pointer (some ⟨p, 0, none⟩)] w fun r w' => r = .int .i16 2 ∧ w' = w := by
    intro p w
    refine Does.go (X := X) (l := [_]) Tryz.func28 rfl (by kernel_rfl) (by kernel_rfl) _ rfl ?_
    ((conv=>whnf);repeat(first|(refine mvT ?_;conv=>whnf)|(refine mvF ?_;conv=>whnf)|(refine cT (by rfl) ?_;conv=>whnf)|(refine cF (by rfl) ?_;conv=>whnf)))
    exact ⟨rfl, rfl⟩
  refine Does.go (X := X) (l := []) Tryz.func13 rfl (by kernel_rfl) (by kernel_rfl) _ rfl ?_
  ((conv=>whnf);repeat(first|(refine mvT ?_;conv=>whnf)|(refine mvF ?_;conv=>whnf)|(refine cT (by rfl) ?_;conv=>whnf)|(refine cF (by rfl) ?_;conv=>whnf)))
  refine Does.mono (newBrokerHeartbeatRequest w) ?_;rintro r1 w1 ⟨p, rfl, _, _, hx⟩;((conv=>whnf);repeat(first|(refine mvT ?_;conv=>whnf)|(refine mvF ?_;conv=>whnf)|(refine cT (by rfl) ?_;conv=>whnf)|(refine cF (by rfl) ?_;conv=>whnf)))
  refine Does.mono (hmax p w1) ?_;rintro r2 w2 ⟨rfl, rfl⟩;((conv=>whnf);repeat(first|(refine mvT ?_;conv=>whnf)|(refine mvF ?_;conv=>whnf)|(refine cT (by rfl) ?_;conv=>whnf)|(refine cF (by rfl) ?_;conv=>whnf)))
  exact ⟨rfl, hx⟩
theorem frameBrokerHeartbeatRequest {G : Nat → Prop} {w : World} {v num : Int} {has : Bool} {x ev : Value} {s id : List UInt8} {t : T} (hL : Laid w ev) (hx : Bytes w G x s) (hv : 0 ≤ v) (hv2 : v < 32768) (hid : id.length ≤ 32767)
    (hrd : rdPart 9 v (decide (v ≥ 0)) dBrokerHeartbeatRequest (s, false) = (t, ([], false))) (hok : partOK 9 v dBrokerHeartbeatRequest t) (hs : s.length ≤ 100000000000000) (hl : (bBrokerHeartbeatRequest v (decide (v ≥ 0)) t).length ≤ 90000000000000) (hs32 : (bBrokerHeartbeatRequest v (decide (v ≥ 0)) t).length < 4294967296) :
    Does X.P 15 #[.agg #[.bool has, str id], .int .i32 num, .int .i64 v, x] w fun r w' => ∃ o, r = .tuple #[o, .bool true] ∧ OB w' w.heap.size o (fixed (headB 63 v num (decide (v ≥ 0)) (.mk 0 id (!has) [] []) ++ bBrokerHeartbeatRequest v (decide (v ≥ 0)) t).length 4 ++ (headB 63 v num (decide (v ≥ 0)) (.mk 0 id (!has) [] []) ++ bBrokerHeartbeatRequest v (decide (v ≥ 0)) t)) ∧ Ext nob w w' := by
  have hv16 : IntKind.i16.wrap v = v := by
    simp only [IntKind.wrap, IntKind.bits, IntKind.signed]
    simp
    omega
  obtain ⟨ax, cx, rfl, _⟩ := hx.view
  have hL1 := hL.lt
  refine Does.go (X := X) (l := [_, _, _, _]) Tryz.func15 rfl (by kernel_rfl) (by kernel_rfl) _ rfl ?_
  ((conv=>whnf);repeat(first|(refine mvT ?_;conv=>whnf)|(refine mvF ?_;conv=>whnf)|(refine cT (by rfl) ?_;conv=>whnf)|(refine cF (by rfl) ?_;conv=>whnf)))
  intro b w0 hb ho hx0
  have ho : Own w0 b 40 [.bool has, str id] := ho
  ((conv=>whnf);repeat(first|(refine mvT ?_;conv=>whnf)|(refine mvF ?_;conv=>whnf)|(refine cT (by rfl) ?_;conv=>whnf)|(refine cF (by rfl) ?_;conv=>whnf)))
  refine Does.mono (newBrokerHeartbeatRequest w0) ?_;rintro r1 w1 ⟨p, rfl, hwp, hop, hx1⟩;((conv=>whnf);repeat(first|(refine mvT ?_;conv=>whnf)|(refine mvF ?_;conv=>whnf)|(refine cT (by rfl) ?_;conv=>whnf)|(refine cF (by rfl) ?_;conv=>whnf)))
  have hwp : w.heap.size ≤ p := Nat.le_trans hx0.size hwp
  have hpb : p ≠ b := by have := ho.lt; omega
  have hx01 := hx0.e0 hx1
  have hset : Does X.P 29 #[.pointer (some ⟨p, 0, none⟩), .int .i16 (IntKind.i16.wrap v)] w1 fun r w' => Own w' p 112 [.int .i16 v, .int .i32 0, .int .i64 (-1), .int .i64 0, .bool false, .bool false, .slice none 0 0, .slice none 0 0, .map none] ∧ Ext (fun k => k = p) w1 w' := by
    rw [hv16]
    refine Does.go (X := X) (l := [_, _]) Tryz.func29 rfl (by kernel_rfl) (by kernel_rfl) _ rfl ?_
    ((conv=>whnf);repeat(first|(refine mvT ?_;conv=>whnf)|(refine mvF ?_;conv=>whnf)|(refine cT (by rfl) ?_;conv=>whnf)|(refine cF (by rfl) ?_;conv=>whnf)))
    refine ⟨_, _, hop, rfl, rfl, rfl, ?_⟩
    intro w3 ho3 hx3
    ((conv=>whnf);repeat(first|(refine mvT ?_;conv=>whnf)|(refine mvF ?_;conv=>whnf)|(refine cT (by rfl) ?_;conv=>whnf)|(refine cF (by rfl) ?_;conv=>whnf)))
    exact ⟨ho3, hx3⟩
  refine Does.mono (hset) ?_;rintro r2 w2 ⟨hop2, hx2⟩;((conv=>whnf);repeat(first|(refine mvT ?_;conv=>whnf)|(refine mvF ?_;conv=>whnf)|(refine cT (by rfl) ?_;conv=>whnf)|(refine cF (by rfl) ?_;conv=>whnf)))
  have hx02 := hx01.st hx2 hwp
  have ho2 := (ho.e0 hx1).ext hx2 (fun e => hpb e.symm)
  refine app_bytes rfl rfl (OB.nil w2 w2.heap.size) (hx.e0 hx02).src rfl (by simp only [List.length_nil]; omega) (Nat.le_refl _) ?_
  intro x3 w3 h3 hx3 _ _
  ((conv=>whnf);repeat(first|(refine mvT ?_;conv=>whnf)|(refine mvF ?_;conv=>whnf)|(refine cT (by rfl) ?_;conv=>whnf)|(refine cF (by rfl) ?_;conv=>whnf)))
  rw [List.nil_append] at h3
  have hx3 : Ext nob w2 w3 := hx3.mono fun k _ h => by simp [Value.ownBlock] at h
  have hx03 := hx02.e0 hx3
  have hpl := hop2.lt
  have hread : Does X.P 30 #[.pointer (some ⟨p, 0, none⟩), x3] w3 fun r w' => RdPost w3 p 112 v (decide (v ≥ 0)) true dBrokerHeartbeatRequest ev s r w' := by
    obtain ⟨a3, c3, rfl, _⟩ := h3.shape
    refine Does.go (X := X) (l := [_, _]) Tryz.func30 rfl (by kernel_rfl) (by kernel_rfl) _ rfl ?_
    ((conv=>whnf);repeat(first|(refine mvT ?_;conv=>whnf)|(refine mvF ?_;conv=>whnf)|(refine cT (by rfl) ?_;conv=>whnf)|(refine cF (by rfl) ?_;conv=>whnf)))
    refine Does.mono (readBrokerHeartbeatRequest (hL.ext hx03 fun f => f) (hop2.e0 hx3) (h3.bytes (F := fun k => k ≠ p) fun k hk => by omega) (fun k h => h) hv (by omega)) ?_;rintro r w' h;((conv=>whnf);repeat(first|(refine mvT ?_;conv=>whnf)|(refine mvF ?_;conv=>whnf)|(refine cT (by rfl) ?_;conv=>whnf)|(refine cF (by rfl) ?_;conv=>whnf)))
    exact h
  refine Does.mono hread ?_
  rintro r4 w4 ⟨hr4, hx4, hpost⟩
  rw [hrd] at hr4 hpost
  obtain rfl : r4 = .nilIface := hr4.trans (if_neg Bool.false_ne_true)
  obtain ⟨cs, hop4, hq⟩ := hpost rfl
  obtain ⟨c5, c6, m, rfl, hc5, hc6, hm⟩ := qBrokerHeartbeatRequest hq
  ((conv=>whnf);repeat(first|(refine mvT ?_;conv=>whnf)|(refine mvF ?_;conv=>whnf)|(refine cT (by rfl) ?_;conv=>whnf)|(refine cF (by rfl) ?_;conv=>whnf)))
  have hx04 := hx03.st hx4 hwp
  have ho4 := (ho2.e0 hx3).ext hx4 (fun e => hpb e.symm)
  refine ⟨_, rfl, ho4.cells, ?_⟩
  ((conv=>whnf);repeat(first|(refine mvT ?_;conv=>whnf)|(refine mvF ?_;conv=>whnf)|(refine cT (by rfl) ?_;conv=>whnf)|(refine cF (by rfl) ?_;conv=>whnf)))
  have hpl4 := hop4.lt
  have hM : ReqM w4 60 p 63 v (decide (v ≥ 0)) (bBrokerHeartbeatRequest v (decide (v ≥ 0)) t) 165 163 164 162 := by
    refine ⟨fun _ => by kernel_rfl, fun _ => by kernel_rfl, fun _ => by kernel_rfl, fun _ => by kernel_rfl, fun w => ?_, fun w5 hx5 => ?_, fun w5 hx5 => ?_, fun w5 y l hx5 hoy hly => ?_⟩
    · refine Does.go (X := X) (l := [_]) Tryz.func165 rfl (by kernel_rfl) (by kernel_rfl) _ rfl ?_
      ((conv=>whnf);repeat(first|(refine mvT ?_;conv=>whnf)|(refine mvF ?_;conv=>whnf)|(refine cT (by rfl) ?_;conv=>whnf)|(refine cF (by rfl) ?_;conv=>whnf)))
      exact ⟨rfl, rfl⟩
    · refine Does.go (X := X) (l := [_]) Tryz.func163 rfl (by kernel_rfl) (by kernel_rfl) _ rfl ?_
      ((conv=>whnf);repeat(first|(refine mvT ?_;conv=>whnf)|(refine mvF ?_;conv=>whnf)|(refine cT (by rfl) ?_;conv=>whnf)|(refine cF (by rfl) ?_;conv=>whnf)))
      refine ldS ((hop4.e0 hx5).cell rfl) ?_;((conv=>whnf);repeat(first|(refine mvT ?_;conv=>whnf)|(refine mvF ?_;conv=>whnf)|(refine cT (by rfl) ?_;conv=>whnf)|(refine cF (by rfl) ?_;conv=>whnf)))
      exact ⟨rfl, rfl⟩
    · refine Does.go (X := X) (l := [_]) Tryz.func164 rfl (by kernel_rfl) (by kernel_rfl) _ rfl ?_
      ((conv=>whnf);repeat(first|(refine mvT ?_;conv=>whnf)|(refine mvF ?_;conv=>whnf)|(refine cT (by rfl) ?_;conv=>whnf)|(refine cF (by rfl) ?_;conv=>whnf)))
      refine ldS ((hop4.e0 hx5).cell rfl) ?_;((conv=>whnf);repeat(first|(refine mvT ?_;conv=>whnf)|(refine mvF ?_;conv=>whnf)|(refine cT (by rfl) ?_;conv=>whnf)|(refine cF (by rfl) ?_;conv=>whnf)))
      exact ⟨rfl, rfl⟩
    · obtain ⟨F4, hF4⟩ : ∃ F4 : Nat → Prop, F4 = fun k => k ≠ p ∧ k < w4.heap.size := ⟨_, rfl⟩
      exact appBrokerHeartbeatRequest (F := fun k => k ≠ p ∧ k < w4.heap.size) (hop4.e0 hx5) (by have := (hc5.mono (F' := F4) (fun k h1 h2 => by rw [hF4]; exact ⟨h2, h1⟩) (fun _ _ h => h)).ext hx5 (fun _ _ _ f => f) (fun _ _ h => h); rw [hF4] at this; exact this) (by have := (hc6.mono (F' := F4) (fun k h1 h2 => by rw [hF4]; exact ⟨h2, h1⟩) (fun _ _ h => h)).ext hx5 (fun _ _ _ f => f) (fun _ _ h => h); rw [hF4] at this; exact this) (by have := (hm.mono (F' := F4) fun k h1 h2 => by rw [hF4]; exact ⟨h2, h1⟩).ext hx5 fun _ _ _ f => f; rw [hF4] at this; exact this) hok (fun j _ hj e => by have := hoy.blk j e; have := hj.2; omega) (fun e => by have := hoy.blk p e; omega) hoy hx5.size hv (by omega) hs32
  refine Does.mono (framed_does (w := w4) (num := num) hM (by decide) hid (by omega)) ?_
  rintro r6 w6 ⟨h6, hx6⟩
  ((conv=>whnf);repeat(first|(refine mvT ?_;conv=>whnf)|(refine mvF ?_;conv=>whnf)|(refine cT (by rfl) ?_;conv=>whnf)|(refine cF (by rfl) ?_;conv=>whnf)))
  exact ⟨r6, rfl, h6.mono hx04.size, hx04.e0 hx6⟩
theorem walkBrokerHeartbeatRequest {w : World} {n : Nat} (hn : n < 256) {has : Bool} {id : List UInt8} {num : Int} {x ev : Value} {t : T} (hL : Laid w ev) (ht : Tr w anyB x t) : Does X.P 4 #[.int .u8 n, .agg #[.bool has, str id], .int .i32 num, x] w fun r w' => r = .bool true ∧ Ext nob w w' := by
  have hkeys := ht.keys
  obtain ⟨sv, lv, uv, ls, rfl, _⟩ := ht.open
  refine Does.go (X := X) (l := [_, _, _, _]) Tryz.func4 rfl (by kernel_rfl) (by kernel_rfl) _ rfl ?_
  ((conv=>whnf);repeat(first|(refine mvT ?_;conv=>whnf)|(refine mvF ?_;conv=>whnf)|(refine cT (by rfl) ?_;conv=>whnf)|(refine cF (by rfl) ?_;conv=>whnf)))
  intro bi wi hbi hoi hxi
  have hoi : Own wi bi 40 [.bool has, str id] := hoi
  ((conv=>whnf);repeat(first|(refine mvT ?_;conv=>whnf)|(refine mvF ?_;conv=>whnf)|(refine cT (by rfl) ?_;conv=>whnf)|(refine cF (by rfl) ?_;conv=>whnf)))
  intro b w1 hb ho hx1
  have hx := hxi.e0 hx1
  have hoi := hoi.e0 hx1
  ((conv=>whnf);repeat(first|(refine mvT ?_;conv=>whnf)|(refine mvF ?_;conv=>whnf)|(refine cT (by rfl) ?_;conv=>whnf)|(refine cF (by rfl) ?_;conv=>whnf)))
  refine ⟨_, rfl, hoi.cells, ?_⟩
  ((conv=>whnf);repeat(first|(refine mvT ?_;conv=>whnf)|(refine mvF ?_;conv=>whnf)|(refine cT (by rfl) ?_;conv=>whnf)|(refine cF (by rfl) ?_;conv=>whnf)))
  refine Does.mono (zzFits4_does (w := w1)) ?_;rintro ra wa ⟨⟨ba, rfl⟩, hxa⟩;((conv=>whnf);repeat(first|(refine mvT ?_;conv=>whnf)|(refine mvF ?_;conv=>whnf)|(refine cT (by rfl) ?_;conv=>whnf)|(refine cF (by rfl) ?_;conv=>whnf)))
  have hx := hx.e0 hxa
  have hoi := hoi.e0 hxa
  have ho := ho.e0 hxa
  cases ba with
  | false =>
    ((conv=>whnf);repeat(first|(refine mvT ?_;conv=>whnf)|(refine mvF ?_;conv=>whnf)|(refine cT (by rfl) ?_;conv=>whnf)|(refine cF (by rfl) ?_;conv=>whnf)))
    exact ⟨rfl, hx⟩
  | true =>
  ((conv=>whnf);repeat(first|(refine mvT ?_;conv=>whnf)|(refine mvF ?_;conv=>whnf)|(refine cT (by rfl) ?_;conv=>whnf)|(refine cF (by rfl) ?_;conv=>whnf)))
  refine ⟨_, rfl, ho.cells, ?_⟩
  ((conv=>whnf);repeat(first|(refine mvT ?_;conv=>whnf)|(refine mvF ?_;conv=>whnf)|(refine cT (by rfl) ?_;conv=>whnf)|(refine cF (by rfl) ?_;conv=>whnf)))
  refine Does.mono (zzFits1_does (ht.e0 hx)) ?_;rintro r2 w2 ⟨⟨b2, rfl⟩, hx2⟩;((conv=>whnf);repeat(first|(refine mvT ?_;conv=>whnf)|(refine mvF ?_;conv=>whnf)|(refine cT (by rfl) ?_;conv=>whnf)|(refine cF (by rfl) ?_;conv=>whnf)))
  have hx02 := hx.e0 hx2
  refine cI (by rfl) (fun h1=>?_) (fun h1=>?_)
  · ((conv=>whnf);repeat(first|(refine mvT ?_;conv=>whnf)|(refine mvF ?_;conv=>whnf)|(refine cT (by rfl) ?_;conv=>whnf)|(refine cF (by rfl) ?_;conv=>whnf)))
    exact ⟨rfl, hx02⟩
  · ((conv=>whnf);repeat(first|(refine mvT ?_;conv=>whnf)|(refine mvF ?_;conv=>whnf)|(refine cT (by rfl) ?_;conv=>whnf)|(refine cF (by rfl) ?_;conv=>whnf)))
    refine Does.mono (maxBrokerHeartbeatRequest w2) ?_;rintro r3 w3 ⟨rfl, hx3⟩;((conv=>whnf);repeat(first|(refine mvT ?_;conv=>whnf)|(refine mvF ?_;conv=>whnf)|(refine cT (by rfl) ?_;conv=>whnf)|(refine cF (by rfl) ?_;conv=>whnf)))
    refine Does.mono (sBrokerHeartbeatRequest w3) ?_;rintro r4 w4 ⟨⟨fv, rfl, hfd⟩, hx4⟩;((conv=>whnf);repeat(first|(refine mvT ?_;conv=>whnf)|(refine mvF ?_;conv=>whnf)|(refine cT (by rfl) ?_;conv=>whnf)|(refine cF (by rfl) ?_;conv=>whnf)))
    have hone := hfd
    obtain ⟨ls3, hsl3, _⟩ := hone
    obtain ⟨a3, c3, rfl, _⟩ := hsl3.view
    refine Does.mono (version_does n 2 hn (by omega) w4) ?_;rintro r5 w5 ⟨rfl, rfl⟩;((conv=>whnf);repeat(first|(refine mvT ?_;conv=>whnf)|(refine mvF ?_;conv=>whnf)|(refine cT (by rfl) ?_;conv=>whnf)|(refine cF (by rfl) ?_;conv=>whnf)))
    intro b6 w6 hb6 ho6 hx6
    ((conv=>whnf);repeat(first|(refine mvT ?_;conv=>whnf)|(refine mvF ?_;conv=>whnf)|(refine cT (by rfl) ?_;conv=>whnf)|(refine cF (by rfl) ?_;conv=>whnf)))
    refine ⟨_, _, ho6, rfl, rfl, rfl, ?_⟩
    intro w7 ho7 hx7
    have hx57 : Ext nob w5 w7 := hx6.st hx7 hb6
    ((conv=>whnf);repeat(first|(refine mvT ?_;conv=>whnf)|(refine mvF ?_;conv=>whnf)|(refine cT (by rfl) ?_;conv=>whnf)|(refine cF (by rfl) ?_;conv=>whnf)))
    have hx27 : Ext nob w2 w7 := (hx3.e0 hx4).e0 hx57
    have hx07 : Ext nob w w7 := hx02.e0 hx27
    have ho1 := (ho.e0 hx2).e0 hx27
    have hoi1 := (hoi.e0 hx2).e0 hx27
    generalize hvv : ((n % (2 + 1) : Nat) : Int) = v
    have hv0 : 0 ≤ v := by omega
    have hv1 : v < 32768 := by omega
    have hok : ∀ f, f ∈ dBrokerHeartbeatRequest → okF 9 f = true := List.all_eq_true.1 (show (dBrokerHeartbeatRequest).all (okF 9) = true by decide)
    have hnt : ∀ f, f ∈ dBrokerHeartbeatRequest → tgF 0 9 f = true := List.all_eq_true.1 (show (dBrokerHeartbeatRequest).all (tgF 0 9) = true by decide)
    have hrise : riseF 0 dBrokerHeartbeatRequest = true := by decide
    have hsmw : ∀ f, f ∈ dBrokerHeartbeatRequest → smF 9 f = true := List.all_eq_true.1 (show (dBrokerHeartbeatRequest).all (smF 9) = true by decide +kernel)
    have hsz32 : (partB 9 v (flexB 0 v) dBrokerHeartbeatRequest t).length < 4294967296 := Nat.lt_of_le_of_lt (partB_lenT 0 9 v _ dBrokerHeartbeatRequest t hrise (by decide) hnt hsmw hkeys) (by decide +kernel)
    have hrr : ∀ f, f ∈ dBrokerHeartbeatRequest → okR 0 9 f = true := List.all_eq_true.1 (show (dBrokerHeartbeatRequest).all (okR 0 9) = true by decide)
    have hww : ∀ f, f ∈ dBrokerHeartbeatRequest → okW 9 f = true := List.all_eq_true.1 (show (dBrokerHeartbeatRequest).all (okW 9) = true by decide)
    refine ldS (hoi1.cell rfl) ?_;((conv=>whnf);repeat(first|(refine mvT ?_;conv=>whnf)|(refine mvF ?_;conv=>whnf)|(refine cT (by rfl) ?_;conv=>whnf)|(refine cF (by rfl) ?_;conv=>whnf)))
    refine cI (by rfl) (fun hd=>?_) (fun hd=>?_)
    · ((conv=>whnf);repeat(first|(refine mvT ?_;conv=>whnf)|(refine mvF ?_;conv=>whnf)|(refine cT (by rfl) ?_;conv=>whnf)|(refine cF (by rfl) ?_;conv=>whnf)))
      exact ⟨rfl, hx07⟩
    · have hl1 : id.length ≤ 32767 := by have := of_decide_eq_false hd; simp only [ByteArray.size, List.size_toArray] at this; omega
      ((conv=>whnf);repeat(first|(refine mvT ?_;conv=>whnf)|(refine mvF ?_;conv=>whnf)|(refine cT (by rfl) ?_;conv=>whnf)|(refine cF (by rfl) ?_;conv=>whnf)))
      refine ⟨_, rfl, ho7.cells, ?_⟩
      ((conv=>whnf);repeat(first|(refine mvT ?_;conv=>whnf)|(refine mvF ?_;conv=>whnf)|(refine cT (by rfl) ?_;conv=>whnf)|(refine cF (by rfl) ?_;conv=>whnf)))
      refine ⟨_, rfl, ho1.cells, ?_⟩
      ((conv=>whnf);repeat(first|(refine mvT ?_;conv=>whnf)|(refine mvF ?_;conv=>whnf)|(refine cT (by rfl) ?_;conv=>whnf)|(refine cF (by rfl) ?_;conv=>whnf)))
      have hfx : decide (v ≥ 0) = flexB 0 v := by simp [flexB]
      have hlen : (partB 9 v (flexB 0 v) dBrokerHeartbeatRequest t).length ≤ 90000000000000 := Nat.le_trans (partB_lenT 0 9 v _ dBrokerHeartbeatRequest t hrise (by decide) hnt hsmw hkeys) (Nat.le_of_ble_eq_true rfl)
      have hoe : partB 9 v (flexB 0 v) oBrokerHeartbeatRequest t = partB 9 v (flexB 0 v) dBrokerHeartbeatRequest t := partB_nn 9 9 v _ dBrokerHeartbeatRequest t
      refine Does.mono (write_does 9 (v := v) ⟨_, rfl, hfd.e0 hx57⟩ (ht.e0 hx07) (List.all_eq_true.1 (show (oBrokerHeartbeatRequest).all (okF 9) = true by decide)) (by decide) (Nat.le_trans (by rw [hoe]; exact hlen) (by decide))) ?_
      rintro r8 w8 ⟨hr8, hx8⟩
      rw [hoe] at hr8
      obtain ⟨a8, c8, rfl, _⟩ := hr8.shape
      ((conv=>whnf);repeat(first|(refine mvT ?_;conv=>whnf)|(refine mvF ?_;conv=>whnf)|(refine cT (by rfl) ?_;conv=>whnf)|(refine cF (by rfl) ?_;conv=>whnf)))
      have hx08 := hx07.e0 hx8
      have hoi8 := hoi1.e0 hx8
      have ho78 := ho7.e0 hx8
      have hrd : rdPart 9 v (decide (v ≥ 0)) dBrokerHeartbeatRequest (partB 9 v (flexB 0 v) dBrokerHeartbeatRequest t, false) = (toPartT 9 v (decide (v ≥ 0)) dBrokerHeartbeatRequest t, ([], false)) := by
        have := part_readT 9 0 v dBrokerHeartbeatRequest t hrise (by decide) hnt hrr hkeys hv0 hsz32 []
        rw [List.append_nil] at this
        rw [hfx]
        exact this
      have hokT := part_okTT 0 9 v (decide (v ≥ 0)) dBrokerHeartbeatRequest t hfx hnt hww hkeys hv0
      have hlaw : bBrokerHeartbeatRequest v (decide (v ≥ 0)) (toPartT 9 v (decide (v ≥ 0)) dBrokerHeartbeatRequest t) = partB 9 v (flexB 0 v) dBrokerHeartbeatRequest t := by
        rw [← bBrokerHeartbeatRequest_eq hv0 hokT, hfx]
        exact partT_lawT 0 9 v _ dBrokerHeartbeatRequest t hrise hnt hww hv0
      refine ⟨_, rfl, hoi8.cells, ?_⟩
      ((conv=>whnf);repeat(first|(refine mvT ?_;conv=>whnf)|(refine mvF ?_;conv=>whnf)|(refine cT (by rfl) ?_;conv=>whnf)|(refine cF (by rfl) ?_;conv=>whnf)))
      refine Does.mono (frameBrokerHeartbeatRequest (v := v) (num := num) (hL.ext hx08 fun f => f) hr8.bytesAny hv0 hv1 hl1 hrd hokT (by omega) (by rw [hlaw]; omega) (by rw [hlaw]; exact hsz32)) ?_
      rintro r9 w9 ⟨o9, rfl, ho9, hx9⟩
      rw [hlaw] at ho9
      obtain ⟨a9, c9, rfl, _⟩ := ho9.shape
      ((conv=>whnf);repeat(first|(refine mvT ?_;conv=>whnf)|(refine mvF ?_;conv=>whnf)|(refine cT (by rfl) ?_;conv=>whnf)|(refine cF (by rfl) ?_;conv=>whnf)))
      have hx09 := hx08.e0 hx9
      have hoi9 := hoi8.e0 hx9
      have ho79 := ho78.e0 hx9
      have hr89 := hr8.e0 hx9
      refine VD.draw mixed (.q 0 (.q 1 (.q 2 (.q 3 (.q 4 (.q 5 (.q 6 (.q 7 (.q 8 (.q 10 (.q 11 (.q 13 (.alt (.eff 9 [6, 10] (.eff 12 [6, 8] (.eff 14 [] (.eff 15 [] (.q 16 (.eff 17 [] (.done))))))) (.eff 12 [6, 8] (.eff 9 [6, 10] (.eff 14 [] (.eff 15 [] (.q 16 (.eff 17 [] (.done)))))))))))))))))))) (by kernel_rfl) ?_;((conv=>whnf);repeat(first|(refine mvT ?_;conv=>whnf)|(refine mvF ?_;conv=>whnf)|(refine cT (by rfl) ?_;conv=>whnf)|(refine cF (by rfl) ?_;conv=>whnf)))
      have hxd : Ext nob w9 w9.drew := ext_drew _
      have hoid := hoi9.e0 hxd
      have ho7d := ho79.e0 hxd
      refine ldS (hoid.cell rfl) ?_;((conv=>whnf);repeat(first|(refine mvT ?_;conv=>whnf)|(refine mvF ?_;conv=>whnf)|(refine cT (by rfl) ?_;conv=>whnf)|(refine cF (by rfl) ?_;conv=>whnf)))
      refine ldS (hoid.cell rfl) ?_;((conv=>whnf);repeat(first|(refine mvT ?_;conv=>whnf)|(refine mvF ?_;conv=>whnf)|(refine cT (by rfl) ?_;conv=>whnf)|(refine cF (by rfl) ?_;conv=>whnf)))
      refine ⟨_, rfl, ho7d.cells, ?_⟩
      ((conv=>whnf);repeat(first|(refine mvT ?_;conv=>whnf)|(refine mvF ?_;conv=>whnf)|(refine cT (by rfl) ?_;conv=>whnf)|(refine cF (by rfl) ?_;conv=>whnf)))
      have ag6 : ∀ {w' : World}, Ext nob w9 w' → w'.cell? ⟨bi, 0 + 0, none⟩ = some (.bool has) := fun h => (hoi9.e0 h).cell rfl
      have ag8 : ∀ {w' : World}, Ext nob w9 w' → w'.cell? ⟨bi, 0 + 1, none⟩ = some (str id) := fun h => (hoi9.e0 h).cell rfl
      have hB : ∀ {w' : World} {b c : Nat}, Cells w' b 0 (id.map bcell) → b < w'.heap.size → id.length ≤ c ∧ c ≤ maxLen → Bytes w' anyB (.slice (some ⟨b, 0, none⟩) id.length c) id := fun h1 h2 h3 => ⟨_, _, rfl, h3, by simp, .inr ⟨_, _, rfl, trivial, h2, h1⟩⟩
      constructor
      · conv => whnf
        refine ⟨by rw [maxLen_eq]; simp only [ByteArray.size, List.size_toArray]; omega, ?_⟩
        intro b10 c10 w10 hb10 hbl10 hC10 hc10 hx10
        simp only [ByteArray.size, List.size_toArray] at hC10 hc10
        have hx9 : Ext nob w9 w10 := hxd.e0 hx10
        refine ⟨by (conv => whnf); exact ⟨⟨_, ag6 hx9, rfl, rfl⟩, ⟨_, rfl, (ho79.e0 hx9).cells, rfl, rfl⟩, trivial⟩, ?_⟩
        conv => whnf
        refine Does.mono (Flexible_does (w := w10)) ?_
        rintro r12 w12 ⟨rfl, hx12⟩
        have hx9 := hx9.e0 hx12
        refine ⟨by (conv => whnf); exact ⟨⟨_, ag6 hx9, rfl, rfl⟩, ⟨_, ag8 hx9, rfl, rfl⟩, trivial⟩, ?_⟩
        conv => whnf
        refine Does.mono (Frame_does (has := has) (num := num) ((hB hC10 hbl10 hc10).e0 hx12) (hr89.e0 hx9).bytesAny hl1 (by omega)) ?_
        rintro r14 w14 ⟨h14, hx14⟩
        obtain ⟨a14, c14, rfl, _⟩ := h14.shape
        have hx9 := hx9.e0 hx14
        ((conv=>whnf);repeat(first|(refine mvT ?_;conv=>whnf)|(refine mvF ?_;conv=>whnf)|(refine cT (by rfl) ?_;conv=>whnf)|(refine cF (by rfl) ?_;conv=>whnf)))
        refine Does.mono (Same_does (ho9.e0 hx9).bytesAny h14.bytesAny) ?_
        rintro r15 w15 ⟨rfl, hx15⟩
        ((conv=>whnf);repeat(first|(refine mvT ?_;conv=>whnf)|(refine mvF ?_;conv=>whnf)|(refine cT (by rfl) ?_;conv=>whnf)|(refine cF (by rfl) ?_;conv=>whnf)))
        exact ⟨by simp [oneOr, hfx], (hx09.e0 hx9).e0 hx15⟩
      · conv => whnf
        refine Does.mono (Flexible_does (w := w9.drew)) ?_
        rintro r12 w12 ⟨rfl, hx12⟩
        have hx9 := hxd.e0 hx12
        refine ⟨by (conv => whnf); exact ⟨⟨_, ag6 hx9, rfl, rfl⟩, ⟨_, ag8 hx9, rfl, rfl⟩, trivial⟩, ?_⟩
        conv => whnf
        refine ⟨by rw [maxLen_eq]; simp only [ByteArray.size, List.size_toArray]; omega, ?_⟩
        intro b10 c10 w10 hb10 hbl10 hC10 hc10 hx10
        simp only [ByteArray.size, List.size_toArray] at hC10 hc10
        have hx9 := hx9.e0 hx10
        refine ⟨by (conv => whnf); exact ⟨⟨_, ag6 hx9, rfl, rfl⟩, ⟨_, rfl, (ho79.e0 hx9).cells, rfl, rfl⟩, trivial⟩, ?_⟩
        conv => whnf
        refine Does.mono (Frame_does (has := has) (num := num) (hB hC10 hbl10 hc10) (hr89.e0 hx9).bytesAny hl1 (by omega)) ?_
        rintro r14 w14 ⟨h14, hx14⟩
        obtain ⟨a14, c14, rfl, _⟩ := h14.shape
        have hx9 := hx9.e0 hx14
        ((conv=>whnf);repeat(first|(refine mvT ?_;conv=>whnf)|(refine mvF ?_;conv=>whnf)|(refine cT (by rfl) ?_;conv=>whnf)|(refine cF (by rfl) ?_;conv=>whnf)))
        refine Does.mono (Same_does (ho9.e0 hx9).bytesAny h14.bytesAny) ?_
        rintro r15 w15 ⟨rfl, hx15⟩
        ((conv=>whnf);repeat(first|(refine mvT ?_;conv=>whnf)|(refine mvF ?_;conv=>whnf)|(refine cT (by rfl) ?_;conv=>whnf)|(refine cF (by rfl) ?_;conv=>whnf)))
        exact ⟨by simp [oneOr, hfx], (hx09.e0 hx9).e0 hx15⟩
end Go.Proofs.YtabhhkdgfdjicaaGreatDoor.K
