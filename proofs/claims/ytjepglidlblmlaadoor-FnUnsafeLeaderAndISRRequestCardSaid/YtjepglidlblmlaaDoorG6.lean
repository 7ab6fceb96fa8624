
/- Counts; whether a field is as by default. -/
import Derived.Test.YtjepglidlblmlaaDoorG5
import Derived.Test.YtjepglidlblmlaaDoorT1
set_option linter.unusedVariables false
set_option linter.unusedSimpArgs false
namespace Go.Proofs.YtjepglidlblmlaaDoor.K
open Go
set_option maxHeartbeats 800000

theorem and1 (n : Int) : IntKind.i64.wrap ((BitVec.ofInt IntKind.i64.bits n &&& BitVec.ofInt IntKind.i64.bits 1).toNat : Int) = n % 2 := by
  rw [show IntKind.i64.bits = 64 from rfl, BitVec.toNat_and, BitVec.toNat_ofInt, show (1 : Int) = ((1 : Nat) : Int) from rfl, bv_ofInt_nat]
  rw [show (1 : Nat) % 2 ^ 64 = 2 ^ 1 - 1 from rfl, Nat.and_two_pow_sub_one_eq_mod]
  rw [i64_of (by omega) (by omega)]
  omega
theorem okF_parts {d : Nat} {kind fr to nul tag df of : Int} {sub : List Fd} (h : okF (d + 1) (.mk kind fr to nul tag df of sub) = true) : (-1 ≤ tag ∧ tag ≤ 1000000) ∧ (0 ≤ kind ∧ kind ≤ 11) ∧ (0 ≤ of ∧ of ≤ 10) ∧ sub.length ≤ 1000 ∧ ∀ f, f ∈ sub → okF d f = true := by
  simp only [okF, Bool.and_eq_true, decide_eq_true_eq, Fd.tag, Fd.kind, Fd.of, Fd.sub, List.all_eq_true] at h
  obtain ⟨⟨⟨⟨h1, h2⟩, h3⟩, h4⟩, h5⟩ := h
  exact ⟨⟨of_decide_eq_true h1.1, of_decide_eq_true h1.2⟩, ⟨of_decide_eq_true h2.1, of_decide_eq_true h2.2⟩, ⟨of_decide_eq_true h3.1, of_decide_eq_true h3.2⟩, of_decide_eq_true h4, h5⟩
theorem okF_tag : ∀ {d : Nat} {f : Fd}, okF d f = true → f.tag ≤ 1000000
  | 0, f, h => by simp [okF] at h
  | d + 1, .mk kind fr to nul tag df of sub, h => (okF_parts h).1.2
theorem widthK_le (k : Int) : widthK k ≤ 8 := by
  unfold widthK
  split
  · omega
  · split
    · omega
    · split <;> omega
theorem usualB_num (d : Nat) (f : Fd) (t : T) (h : ∀ j : Int, j = 0 ∨ j = 7 ∨ j = 8 ∨ j = 9 ∨ j = 11 ∨ j = 10 → f.kind ≠ j) : usualB (d + 1) f t = decide (fixed t.n (widthK f.kind) = fixed f.df (widthK f.kind)) := by
  have h8 := h 8 (by omega)
  have h9 := h 9 (by omega)
  rw [usualB, if_neg (h 0 (by omega)), if_neg (h 7 (by omega)), if_neg (by omega), if_neg (h 11 (by omega)), if_neg (h 10 (by omega))]
theorem len0 {α : Type} (l : List α) : ((l.length : Int) == 0) = l.isEmpty := by
  cases l with
  | nil => rfl
  | cons x r =>
    show _ = false
    rw [Bool.eq_false_iff]
    intro h
    have := eq_of_beq h
    simp only [List.length_cons] at this
    omega
theorem kinds (k : Int) (h : 0 ≤ k ∧ k ≤ 11) : k = 0 ∨ k = 7 ∨ k = 8 ∨ k = 9 ∨ k = 11 ∨ k = 10 ∨ k = 1 ∨ k = 2 ∨ k = 3 ∨ k = 4 ∨ k = 5 ∨ k = 6 := by omega
end Go.Proofs.YtjepglidlblmlaaDoor.K
