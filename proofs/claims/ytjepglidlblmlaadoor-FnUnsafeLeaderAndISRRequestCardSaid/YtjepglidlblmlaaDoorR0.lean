/- What is read of the arguments lies in memory as the contracts ask. -/
import Derived.Test.YtjepglidlblmlaaDoorM0
import Derived.Test.YtjepglidlblmlaaDoorRows
import Derived.WalkKit
import Derived.ProofKit
import Derived.OpenShut
import Derived.Deep.Slices
set_option linter.unusedVariables false
set_option linter.unusedSimpArgs false
namespace Go.Proofs.YtjepglidlblmlaaDoor.K
open Go Go.ChangeShapes Go.WideShapes Go.ChangeAt Go.RowKit
set_option maxHeartbeats 800000
set_option maxRecDepth 100000

theorem addr_lit {w : World} {a : Addr} {v : Value} (h : w.cell? a = some v) : ∃ b o, a = ⟨b, o, none⟩ ∧ b < w.heap.size := by
  obtain ⟨b, o, s⟩ := a
  have hb := World.block_lt_of_cell? w _ h
  unfold World.cell? at h
  split at h
  · split at h
    · simp at h
    · rename_i hs
      cases s with
      | none => exact ⟨b, o, rfl, hb⟩
      | some k => simp at hs
  · simp at h
theorem flatten_get {α : Type} (sz : Nat) : ∀ (ls : List (List α)) (j : Nat) (u : α), (∀ c, c ∈ ls → c.length = sz) → ls.flatten[j]? = some u → ∃ i k c, j = i * sz + k ∧ ls[i]? = some c ∧ c[k]? = some u
  | [], j, u, _, h => by simp at h
  | c :: r, j, u, hu, h => by
    have hc := hu c (by simp)
    rw [List.flatten_cons] at h
    rcases Nat.lt_or_ge j c.length with hj | hj
    · rw [List.getElem?_append_left hj] at h
      exact ⟨0, j, c, by omega, by simp, h⟩
    · rw [List.getElem?_append_right hj] at h
      obtain ⟨i, k, d, h1, h2, h3⟩ := flatten_get sz r _ u (fun c hc => hu c (by simp [hc])) h
      exact ⟨i + 1, k, d, by rw [Nat.add_mul]; omega, by simpa using h2, h3⟩
theorem slE_of {w : World} {a : Addr} {len cap sz : Nat} {C : Nat → List Value} (hsz : 0 < sz) (hlc : len ≤ cap) (hm : cap ≤ maxLen) (h : ∀ i, i < cap → w.cells? 0 (a.add (i * sz)) sz = some (C i)) :
    SlE w anyB sz (.slice (some a) len cap) ((List.range len).map C) := by
  have hC : ∀ i, i < cap → (C i).length = sz ∧ ∀ k, k < sz → w.cell? ((a.add (i * sz)).add k) = (C i)[k]? := fun i hi => by
    obtain ⟨_, h2, h3⟩ := World.cells?_some (h i hi)
    exact ⟨h2, h3⟩
  have hlen : ∀ c, c ∈ (List.range len).map C → c.length = sz := by
    intro c hc
    obtain ⟨i, hi, rfl⟩ := List.mem_map.1 hc
    exact (hC i (by simp at hi; omega)).1
  have hfl : ∀ (ls : List (List Value)), (∀ c, c ∈ ls → c.length = sz) → ls.flatten.length = ls.length * sz := by
    intro ls
    induction ls with
    | nil => simp
    | cons c r ih =>
      intro hu
      rw [List.flatten_cons, List.length_append, hu c (by simp), ih fun c hc => hu c (by simp [hc]), List.length_cons, Nat.add_mul]
      omega
  refine ⟨⟨some a, cap, by simp, ⟨by simpa using hlc, hm⟩, hfl _ hlen, ?_⟩, hlen⟩
  rcases Nat.eq_zero_or_pos cap with h0 | h0
  · left
    exact ⟨by simp; omega, .inr h0⟩
  · right
    obtain ⟨h1, h2⟩ := hC 0 h0
    have hex := h2 0 hsz
    rw [List.getElem?_eq_getElem (by omega)] at hex
    have ha0 : (a.add (0 * sz)).add 0 = a := by simp [Addr.add]
    rw [ha0] at hex
    obtain ⟨b, o, rfl, hb⟩ := addr_lit hex
    refine ⟨b, o, rfl, trivial, hb, fun j u hj => ?_⟩
    obtain ⟨i, k, c, rfl, hi, hk⟩ := flatten_get sz _ j u hlen hj
    rw [List.getElem?_map] at hi
    cases hr : (List.range len)[i]? with
    | none => rw [hr] at hi; simp at hi
    | some i' =>
      rw [hr] at hi
      simp only [Option.map_some, Option.some.injEq] at hi
      have hil := (List.getElem?_eq_some_iff.1 hr).1
      have hi' : i' = i := by
        rw [List.getElem?_range (by simpa using hil)] at hr
        exact (Option.some.inj hr).symm
      subst hi'
      subst hi
      simp only [List.length_range] at hil
      obtain ⟨hl1, hl2⟩ := hC i' (by omega)
      have hks := (List.getElem?_eq_some_iff.1 hk).1
      rw [hl1] at hks
      have hc := hl2 k hks
      rw [add_lit, add_lit, hk, Nat.add_assoc] at hc
      exact hc
section
variable {H : Type} {enc : TypeId × Value → H} {w : World} {held : Bool}
theorem u8_of {n : Int} (h : (Lit.int .u8 n).wf = true) : ∃ b : UInt8, n = (b.toNat : Int) := by
  have hn : 0 ≤ n ∧ n ≤ 255 := by simpa [Lit.wf, IntKind.min, IntKind.max, IntKind.signed, IntKind.bits] using h
  refine ⟨UInt8.ofNat n.toNat, ?_⟩
  rw [UInt8.toNat_ofNat']
  omega
theorem read_bytes {fuel : Nat} {cs : List Value} {x : DataW H × List MemPlace} (h : DataW.trod enc Tryd.prog w 0 (fun _ => true) held fuel 22 cs = some x) : ∃ v l, cs = [v] ∧ Bytes w anyB v l := by
  rcases Go.Deep.open_slice (e := U8) Tryd.underlying22 h with ⟨rfl, _⟩ | ⟨a, len, cap, m, n, D, Pl, rfl, _, hl, hm, hmm, _, hV⟩
  · exact ⟨_, [], rfl, Bytes.nil _ _⟩
  · simp only [if_true] at hmm
    subst hmm
    obtain ⟨f, hf⟩ := Go.Deep.choose_lt (α := UInt8) (p := fun i b => w.cells? 0 (a.add (i * 1)) 1 = some [bcell b]) (fun i hi => by
      obtain ⟨cs', h1, h2⟩ := hV i hi
      obtain ⟨k, rfl, _, hk⟩ := DataW.trod_int Tryd.underlying5 h2
      obtain ⟨b, rfl⟩ := u8_of hk
      exact ⟨b, h1⟩)
    refine ⟨_, (List.range len).map f, rfl, ?_⟩
    have := (slE_of (C := fun i => [bcell (f i)]) (by omega) hl hm hf).1
    have e : ((List.range len).map fun i => [bcell (f i)]).flatten = ((List.range len).map f).map bcell := by
      induction (List.range len) with
      | nil => rfl
      | cons i r ih => simp [ih]
    rw [e] at this
    simp only [List.length_map, List.length_range] at this
    simpa [Bytes] using this
theorem u32_of' {n : Int} (h : (Lit.int .u32 n).wf = true) : ∃ k : Nat, n = (k : Int) ∧ k < 4294967296 := by
  have hn : 0 ≤ n ∧ n ≤ 4294967295 := by simpa [Lit.wf, IntKind.min, IntKind.max, IntKind.signed, IntKind.bits] using h
  exact ⟨n.toNat, by omega, by omega⟩
theorem i64_of' {n : Int} (h : (Lit.int .i64 n).wf = true) : IntKind.i64.wrap n = n := by
  have hn : -9223372036854775808 ≤ n ∧ n ≤ 9223372036854775807 := by simpa [Lit.wf, IntKind.min, IntKind.max, IntKind.signed, IntKind.bits] using h
  exact i64_of hn.1 hn.2
theorem read_tag {fuel : Nat} {cs : List Value} {x : DataW H × List MemPlace} (h : DataW.trod enc Tryd.prog w 0 (fun _ => true) held fuel 50 cs = some x) : ∃ t : Tg, TgC w anyB cs t := by
  obtain ⟨xs, n, rfl, rfl, hlen, hxl, hf⟩ := DataW.trod_struct Tryd.underlying50 h
  have hlen : cs.length = 2 := hlen
  obtain ⟨c0, c1, rfl⟩ : ∃ c0 c1, cs = [c0, c1] := by
    match cs, hlen with
    | [c0, c1], _ => exact ⟨c0, c1, rfl⟩
  have h0 := hf 0 _ rfl
  have h1 := hf 1 _ rfl
  obtain ⟨y0, hy0⟩ : ∃ y, xs[0]? = some y := ⟨xs[0]'(by rw [hxl]; decide), by simp⟩
  obtain ⟨y1, hy1⟩ : ∃ y, xs[1]? = some y := ⟨xs[1]'(by rw [hxl]; decide), by simp⟩
  rw [hy0] at h0
  rw [hy1] at h1
  obtain ⟨k, hk, _, hkw⟩ := DataW.trod_int Tryd.underlying48 h0
  obtain ⟨v, l, hv, hb⟩ := read_bytes h1
  obtain rfl : c0 = Value.int .u32 k := by
    have h : [c0] = [Value.int .u32 k] := hk
    injection h
  obtain rfl : c1 = v := by
    have h : [c1] = [v] := hv
    injection h
  obtain ⟨k', rfl, hlt⟩ := u32_of' hkw
  exact ⟨(k', l), hlt, c1, rfl, hb⟩
theorem read_tags {fuel : Nat} {cs : List Value} {x : DataW H × List MemPlace} (h : DataW.trod enc Tryd.prog w 0 (fun _ => true) held fuel 33 cs = some x) : ∃ v u, cs = [v] ∧ TgsR w anyB v u := by
  rcases Go.Deep.open_slice (e := 50) Tryd.underlying33 h with ⟨rfl, _⟩ | ⟨a, len, cap, m, n, D, Pl, rfl, _, hl, hm, hmm, _, hV⟩
  · exact ⟨_, [], rfl, TgsR.nil _ _⟩
  · simp only [if_true] at hmm
    subst hmm
    obtain ⟨f, hf⟩ := Go.Deep.choose_lt (α := List Value × Tg) (p := fun i b => w.cells? 0 (a.add (i * 2)) 2 = some b.1 ∧ TgC w anyB b.1 b.2) (fun i hi => by
      obtain ⟨cs', h1, h2⟩ := hV i hi
      obtain ⟨t, ht⟩ := read_tag h2
      exact ⟨(cs', t), h1, ht⟩)
    refine ⟨_, (List.range len).map fun i => (f i).2, rfl, (List.range len).map fun i => (f i).1, slE_of (by omega) hl hm fun i hi => (hf i hi).1, by simp, fun i c x hc hx => ?_⟩
    rw [List.getElem?_map] at hc hx
    cases hr : (List.range len)[i]? with
    | none => rw [hr] at hc; simp at hc
    | some j =>
      rw [hr] at hc hx
      simp only [Option.map_some, Option.some.injEq] at hc hx
      have hj : j < len := by have := List.mem_of_getElem? hr; simpa using this
      rw [← hc, ← hx]
      exact (hf j (by omega)).2
theorem read_tree : ∀ {fuel : Nat} {cs : List Value} {x : DataW H × List MemPlace}, DataW.trod enc Tryd.prog w 0 (fun _ => true) held fuel 35 cs = some x → ∃ t : T, TrC w anyB cs t := by
  intro fuel
  induction fuel using Nat.strongRecOn with
  | _ fuel ih =>
  intro cs x h
  obtain ⟨xs, n, rfl, rfl, hlen, hxl, hf⟩ := DataW.trod_struct Tryd.underlying35 h
  have hlen : cs.length = 5 := hlen
  obtain ⟨c0, c1, c2, c3, c4, rfl⟩ : ∃ c0 c1 c2 c3 c4, cs = [c0, c1, c2, c3, c4] := by
    match cs, hlen with
    | [c0, c1, c2, c3, c4], _ => exact ⟨c0, c1, c2, c3, c4, rfl⟩
  have hy : ∀ i, i < 5 → ∃ y, xs[i]? = some y := fun i hi => by
    have : i < xs.length := by rw [hxl]; exact hi
    exact ⟨xs[i], by simp [this]⟩
  have h0 := hf 0 _ rfl
  have h1 := hf 1 _ rfl
  have h2 := hf 2 _ rfl
  have h3 := hf 3 _ rfl
  have h4 := hf 4 _ rfl
  obtain ⟨y0, hy0⟩ := hy 0 (by omega)
  obtain ⟨y1, hy1⟩ := hy 1 (by omega)
  obtain ⟨y2, hy2⟩ := hy 2 (by omega)
  obtain ⟨y3, hy3⟩ := hy 3 (by omega)
  obtain ⟨y4, hy4⟩ := hy 4 (by omega)
  rw [hy0] at h0
  rw [hy1] at h1
  rw [hy2] at h2
  rw [hy3] at h3
  rw [hy4] at h4
  obtain ⟨k, hk, _, hkw⟩ := DataW.trod_int Tryd.underlying2 h0
  obtain ⟨sv, s, hsv, hs⟩ := read_bytes h1
  obtain ⟨nl, hnl, _⟩ := DataW.trod_bool Tryd.underlying4 h2
  obtain ⟨uv, u, huv, hu⟩ := read_tags h4
  obtain rfl : c0 = Value.int .i64 k := by
    have h : [c0] = [Value.int .i64 k] := hk
    injection h
  obtain rfl : c1 = sv := by
    have h : [c1] = [sv] := hsv
    injection h
  obtain rfl : c2 = Value.bool nl := by
    have h : [c2] = [Value.bool nl] := hnl
    injection h
  obtain rfl : c4 = uv := by
    have h : [c4] = [uv] := huv
    injection h
  have hkk := i64_of' hkw
  have h3 : DataW.trod enc Tryd.prog w 0 (fun _ => true) held n 32 [c3] = some y3 := h3
  rcases DataW.trod_slice Tryd.underlying32 h3 with ⟨hc3, _⟩ | ⟨a, len, cap, elems, rest, n', hn', hc3, _, _, hl, hm, hel, hV1, hV2, _⟩
  · injection hc3 with hc3
    subst hc3
    exact ⟨.mk k s nl [] u, .mk k s nl [] u _ _ _ [] hkk hs (SlE.nil _ _ _) rfl (by simp) hu⟩
  · injection hc3 with hc3
    subst hc3
    obtain ⟨hrl, hV2⟩ := hV2 rfl
    have hV : ∀ i, i < cap → ∃ cs' y, w.cells? 0 (a.add (i * 5)) 5 = some cs' ∧ DataW.trod enc Tryd.prog w 0 (fun _ => true) held n' 35 cs' = some y := by
      intro i hi
      rcases Nat.lt_or_ge i len with hil | hil
      · have h := hV1 i hil
        rw [List.getElem?_eq_getElem (by omega)] at h
        obtain ⟨cs', g1, g2⟩ := Option.bind_eq_some_iff.1 h
        exact ⟨cs', _, g1, g2⟩
      · have h := hV2 (i - len) (by omega)
        rw [List.getElem?_eq_getElem (by omega), show len + (i - len) = i by omega] at h
        obtain ⟨cs', g1, g2⟩ := Option.bind_eq_some_iff.1 h
        exact ⟨cs', _, g1, g2⟩
    haveI : Inhabited T := ⟨T.zero⟩
    obtain ⟨f, hff⟩ := Go.Deep.choose_lt (α := List Value × T) (p := fun i b => w.cells? 0 (a.add (i * 5)) 5 = some b.1 ∧ TrC w anyB b.1 b.2) (fun i hi => by
      obtain ⟨cs', y, g1, g2⟩ := hV i hi
      obtain ⟨t, ht⟩ := ih n' (by omega) g2
      exact ⟨(cs', t), g1, ht⟩)
    refine ⟨.mk k s nl ((List.range len).map fun i => (f i).2) u, .mk k s nl _ u _ _ _ ((List.range len).map fun i => (f i).1) hkk hs (slE_of (by omega) hl hm fun i hi => (hff i hi).1) (by simp) (fun i c x hc hx => ?_) hu⟩
    rw [List.getElem?_map] at hc hx
    cases hr : (List.range len)[i]? with
    | none => rw [hr] at hc; simp at hc
    | some j =>
      rw [hr] at hc hx
      simp only [Option.map_some, Option.some.injEq] at hc hx
      have hj : j < len := by have := List.mem_of_getElem? hr; simpa using this
      rw [← hc, ← hx]
      exact (hff j (by omega)).2
end
end Go.Proofs.YtjepglidlblmlaaDoor.K
