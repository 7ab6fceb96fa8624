/- What the row's listed variable gives; a world for the witness. -/
import Derived.Test.YtepamajphjgigaaGreatDoorR0U
import Derived.Test.YtepamajphjgigaaGreatDoorD6
import Derived.Test.YtepamajphjgigaaGreatDoorCards
import Derived.Test.YtepamajphjgigaaGreatDoorTie
import Derived.Stop.LaidErr
import Derived.Deep.DeepHandedRow
set_option linter.unusedVariables false
set_option linter.unusedSimpArgs false
namespace Go.Proofs.YtepamajphjgigaaGreatDoor.K
open Go Go.ChangeShapes Go.WideShapes Go.ChangeAt Go.RowKit
set_option maxHeartbeats 800000
set_option maxRecDepth 100000

theorem gE : Tryz.prog.globalNamed "pub-mailsack/pub/kmsg/inner/kbin.ErrNotEnoughData" = some errG := by kernel_rfl
theorem gEType : (Tryz.prog.globals[errG]?).map (·.type) = some 54 := by kernel_rfl
theorem starE : "*" ++ "errors.errorString" = "*errors.errorString" := by decide
theorem rowE (u : TypeId) (h : Tryz.prog.typeName? 3 u = some "*errors.errorString") : u = 183 :=
  typeName_ptr_named (nm := "errors.errorString") (by rw [starE]; kernel_rfl) (by kernel_rfl) (by decide) u (by rw [starE]; exact h)
theorem cellsErr : Tryz.prog.cellsOf 201 = 1 := by kernel_rfl
theorem cellsStr : Tryz.prog.cellsOf 9 = 1 := by kernel_rfl
abbrev laidE : List (String × DataW Unit) := [("pub-mailsack/pub/kmsg/inner/kbin.ErrNotEnoughData", Rows.laid_pub_mailsack_pub_kmsg_inner_kbin_ErrNotEnoughData)]
theorem laid_of {W : World} (h : laidMetH Tryz.prog laidE W) : ∃ ev, Laid W ev := by
  rw [MakeChecks.laidMetH_plain _ _ _ (by kernel_rfl)] at h
  obtain ⟨a, s, hv, _⟩ := laid_sentinel h gE gEType Tryz.underlying54 rowE Tryz.underlying183 Tryz.underlying201 rfl rfl Tryz.underlying9 cellsErr cellsStr
  exact ⟨_, by simpa using World.var?_cell gE hv 0, _, _, rfl⟩
abbrev errS : ByteArray := { data := #[114, 101, 115, 112, 111, 110, 115, 101, 32, 100, 105, 100, 32, 110, 111, 116, 32, 99, 111, 110, 116, 97, 105, 110, 32, 101, 110, 111, 117, 103, 104, 32, 100, 97, 116, 97, 32, 116, 111, 32, 98, 101, 32, 118, 97, 108, 105, 100] }
noncomputable def lowE : Nat := (World.holding Tryz.prog default ⟨#[], #[], []⟩).heap.size
noncomputable def laidWorld (os : Os) : World :=
  let w0 := World.holding Tryz.prog os ⟨#[.cells #[.string errS] 201], #[], []⟩
  { w0 with heap := w0.heap.modify errG fun
      | .cells _ t frozen => .cells #[.iface 183 (.pointer (some ⟨lowE, 0, none⟩))] t frozen
      | o => o }
theorem laid_met (os : Os) (args : Array Value) : laidMet Tryz.prog laidE ((laidWorld os).forCall (fun _ _ => 0) ⟨#[], args, []⟩).memory :=
  laidMet_of_run (ps := [.cell errG 0, .cell lowE 0]) 8 (by kernel_rfl) (by kernel_rfl) (by kernel_rfl)
end Go.Proofs.YtepamajphjgigaaGreatDoor.K
