
/- What is read of the arguments lies in memory as the contracts ask. -/
import Derived.Test.YtepamajphjgigaaGreatDoorM0
import Derived.Test.YtepamajphjgigaaGreatDoorRows
import Derived.WalkKit
import Derived.ProofKit
import Derived.OpenShut
import Derived.Deep.Slices
set_option linter.unusedVariables false
set_option linter.unusedSimpArgs false
namespace Go.Proofs.YtepamajphjgigaaGreatDoor.K
open Go Go.ChangeShapes Go.WideShapes Go.ChangeAt Go.RowKit
set_option maxHeartbeats 800000
set_option maxRecDepth 100000

theorem addr_lit {w : World} {a : Addr} {v : Value} (h : w.cell? a = some v) : ∃ b o, a = ⟨b, o, none⟩ ∧ b < w.heap.size := by
  obtain ⟨b, o, s⟩ := a
  have hb := World.block_lt_of_cell? w _ h
  unfold World.cell? at h
  split at h
  · split at h
    · simp at h
    · rename_i hs
      cases s with
      | none => exact ⟨b, o, rfl, hb⟩
      | some k => simp at hs
  · simp at h
theorem flatten_get {α : Type} (sz : Nat) : ∀ (ls : List (List α)) (j : Nat) (u : α), (∀ c, c ∈ ls → c.length = sz) → ls.flatten[j]? = some u → ∃ i k c, j = i * sz + k ∧ ls[i]? = some c ∧ c[k]? = some u
  | [], j, u, _, h => by simp at h
  | c :: r, j, u, hu, h => by
    have hc := hu c (by simp)
    rw [List.flatten_cons] at h
    rcases Nat.lt_or_ge j c.length with hj | hj
    · rw [List.getElem?_append_left hj] at h
      exact ⟨0, j, c, by omega, by simp, h⟩
    · rw [List.getElem?_append_right hj] at h
      obtain ⟨i, k, d, h1, h2, h3⟩ := flatten_get sz r _ u (fun c hc => hu c (by simp [hc])) h
      exact ⟨i + 1, k, d, by rw [Nat.add_mul]; omega, by simpa using h2, h3⟩
theorem slE_of {w : World} {a : Addr} {len cap sz : Nat} {C : Nat → List Value} (hsz : 0 < sz) (hlc : len ≤ cap) (hm : cap ≤ maxLen) (h : ∀ i, i < cap → w.cells? 0 (a.add (i * sz)) sz = some (C i)) :
    SlE w anyB sz (.slice (some a) len cap) ((List.range len).map C) := by
  have hC : ∀ i, i < cap → (C i).length = sz ∧ ∀ k, k < sz → w.cell? ((a.add (i * sz)).add k) = (C i)[k]? := fun i hi => by
    obtain ⟨_, h2, h3⟩ := World.cells?_some (h i hi)
    exact ⟨h2, h3⟩
  have hlen : ∀ c, c ∈ (List.range len).map C → c.length = sz := by
    intro c hc
    obtain ⟨i, hi, rfl⟩ := List.mem_map.1 hc
    exact (hC i (by simp at hi; omega)).1
  have hfl : ∀ (ls : List (List Value)), (∀ c, c ∈ ls → c.length = sz) → ls.flatten.length = ls.length * sz := by
    intro ls
    induction ls with
    | nil => simp
    | cons c r ih =>
      intro hu
      rw [List.flatten_cons, List.length_append, hu c (by simp), ih fun c hc => hu c (by simp [hc]), List.length_cons, Nat.add_mul]
      omega
  refine ⟨⟨some a, cap, by simp, ⟨by simpa using hlc, hm⟩, hfl _ hlen, ?_⟩, hlen⟩
  rcases Nat.eq_zero_or_pos cap with h0 | h0
  · left
    exact ⟨by simp; omega, .inr h0⟩
  · right
    obtain ⟨h1, h2⟩ := hC 0 h0
    have hex := h2 0 hsz
    rw [List.getElem?_eq_getElem (by omega)] at hex
    have ha0 : (a.add (0 * sz)).add 0 = a := by simp [Addr.add]
    rw [ha0] at hex
    obtain ⟨b, o, rfl, hb⟩ := addr_lit hex
    refine ⟨b, o, rfl, trivial, hb, fun j u hj => ?_⟩
    obtain ⟨i, k, c, rfl, hi, hk⟩ := flatten_get sz _ j u hlen hj
    rw [List.getElem?_map] at hi
    cases hr : (List.range len)[i]? with
    | none => rw [hr] at hi; simp at hi
    | some i' =>
      rw [hr] at hi
      simp only [Option.map_some, Option.some.injEq] at hi
      have hil := (List.getElem?_eq_some_iff.1 hr).1
      have hi' : i' = i := by
        rw [List.getElem?_range (by simpa using hil)] at hr
        exact (Option.some.inj hr).symm
      subst hi'
      subst hi
      simp only [List.length_range] at hil
      obtain ⟨hl1, hl2⟩ := hC i' (by omega)
      have hks := (List.getElem?_eq_some_iff.1 hk).1
      rw [hl1] at hks
      have hc := hl2 k hks
      rw [add_lit, add_lit, hk, Nat.add_assoc] at hc
      exact hc
section
variable {H : Type} {enc : TypeId × Value → H} {w : World} {held : Bool}
theorem u8_of {n : Int} (h : (Lit.int .u8 n).wf = true) : ∃ b : UInt8, n = (b.toNat : Int) := by
  have hn : 0 ≤ n ∧ n ≤ 255 := by simpa [Lit.wf, IntKind.min, IntKind.max, IntKind.signed, IntKind.bits] using h
  refine ⟨UInt8.ofNat n.toNat, ?_⟩
  rw [UInt8.toNat_ofNat']
  omega
theorem u32_of' {n : Int} (h : (Lit.int .u32 n).wf = true) : ∃ k : Nat, n = (k : Int) ∧ k < 4294967296 := by
  have hn : 0 ≤ n ∧ n ≤ 4294967295 := by simpa [Lit.wf, IntKind.min, IntKind.max, IntKind.signed, IntKind.bits] using h
  exact ⟨n.toNat, by omega, by omega⟩
theorem i64_of' {n : Int} (h : (Lit.int .i64 n).wf = true) : IntKind.i64.wrap n = n := by
  have hn : -9223372036854775808 ≤ n ∧ n ≤ 9223372036854775807 := by simpa [Lit.wf, IntKind.min, IntKind.max, IntKind.signed, IntKind.bits] using h
  exact i64_of hn.1 hn.2
end
end Go.Proofs.YtepamajphjgigaaGreatDoor.K
