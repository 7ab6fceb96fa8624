/- Descriptions built by literals; trees opened. -/
import Derived.Test.YtepamajphjgigaaGreatDoorG15
import Derived.Test.YtepamajphjgigaaGreatDoorGiat
import Derived.Test.YtepamajphjgigaaGreatDoorB1
set_option linter.unusedVariables false
set_option linter.unusedSimpArgs false
namespace Go.Proofs.YtepamajphjgigaaGreatDoor.K
open Go
set_option maxHeartbeats 1600000

def FdL (w : World) (F : Nat → Prop) : List (List Value) → List Fd → Prop
  | [], [] => True
  | c :: r, f :: s => FdC w F c f ∧ FdL w F r s
  | _, _ => False
theorem FdL.len {w : World} {F : Nat → Prop} : ∀ {cs : List (List Value)} {fs : List Fd}, FdL w F cs fs → cs.length = fs.length
  | [], [], _ => rfl
  | c :: r, f :: s, ⟨_, h⟩ => by simp [FdL.len h]
  | [], _ :: _, h => h.elim
  | _ :: _, [], h => h.elim
theorem FdL.at' {w : World} {F : Nat → Prop} : ∀ {cs : List (List Value)} {fs : List Fd}, FdL w F cs fs → ∀ (i : Nat) (c : List Value) (f : Fd), cs[i]? = some c → fs[i]? = some f → FdC w F c f
  | c :: r, f :: s, ⟨h, hr⟩, 0, c', f', h1, h2 => by
    simp only [List.getElem?_cons_zero, Option.some.injEq] at h1 h2
    rw [← h1, ← h2]
    exact h
  | c :: r, f :: s, ⟨h, hr⟩, i + 1, c', f', h1, h2 => FdL.at' hr i c' f' (by simpa using h1) (by simpa using h2)
  | [], [], _, i, c', f', h1, h2 => by simp at h1
  | [], _ :: _, h, _, _, _, _, _ => h.elim
  | _ :: _, [], h, _, _, _, _, _ => h.elim
theorem FdL.fds {w : World} {F : Nat → Prop} {b n : Nat} {Ty : TypeId} {cs : List (List Value)} {fs : List Fd} (h : FdL w F cs fs) (ho : Own w b Ty cs.flatten) (hn : n = fs.length) (hm : n ≤ 1000) (hF : F b) : FdsR w F (.slice (some ⟨b, 0, none⟩) n n) fs := by
  have hl := h.len
  have hlen : ∀ c, c ∈ cs → c.length = 8 := by
    intro c hc
    obtain ⟨i, hi⟩ := List.mem_iff_getElem?.1 hc
    have hi' := (List.getElem?_eq_some_iff.1 hi).1
    exact (h.at' i c fs[i] hi (by simp)).len
  have hfl : cs.flatten.length = cs.length * 8 := by
    clear ho h hl
    induction cs with
    | nil => rfl
    | cons c r ih => rw [List.flatten_cons, List.length_append, hlen c (by simp), ih fun c hc => hlen c (by simp [hc]), List.length_cons]; omega
  refine ⟨cs, ⟨⟨_, n, ?_, ⟨by omega, by rw [maxLen_eq]; omega⟩, hfl, .inr ⟨b, 0, rfl, hF, ho.lt, ho.cells⟩⟩, hlen⟩, hl, h.at'⟩
  rw [hn, hl]
theorem FdC.of {w : World} {F : Nat → Prop} {sv : Value} {sub : List Fd} (h : FdsR w F sv sub) (kind fr to nul tag df of : Int) :
    FdC w F [.int .i64 kind, .int .i64 fr, .int .i64 to, .int .i64 nul, .int .i64 tag, .int .i64 df, .int .i64 of, sv] (.mk kind fr to nul tag df of sub) := by
  obtain ⟨ls, h1, h2, h3⟩ := h
  exact .mk kind fr to nul tag df of sub sv ls h1 h2 h3
theorem FdsR.nil (w : World) (F : Nat → Prop) : FdsR w F (.slice none 0 0) [] := ⟨[], SlE.nil w F 8, rfl, by simp⟩
theorem fdLeaf (w : World) (F : Nat → Prop) (kind fr to nul tag df of : Int) : FdC w F [.int .i64 kind, .int .i64 fr, .int .i64 to, .int .i64 nul, .int .i64 tag, .int .i64 df, .int .i64 of, .slice none 0 0] (.mk kind fr to nul tag df of []) := FdC.of (FdsR.nil w F) kind fr to nul tag df of
/-- A tree's cells, opened. -/
theorem Tr.open {w : World} {F : Nat → Prop} {x : Value} {t : T} (h : Tr w F x t) : ∃ sv lv uv ls, x = .agg #[.int .i64 t.n, sv, .bool t.nl, lv, uv] ∧ IntKind.i64.wrap t.n = t.n ∧ Bytes w F sv t.s ∧ SlE w F 5 lv ls ∧ Els w F ls t.l ∧ TgsR w F uv t.u := by
  obtain ⟨c, rfl, hc⟩ := h
  cases hc with
  | mk n s nl l u sv lv uv ls hn hs hl hlen hr hu => exact ⟨sv, lv, uv, ls, rfl, hn, hs, hl, ⟨hlen, hr⟩, hu⟩
end Go.Proofs.YtepamajphjgigaaGreatDoor.K
