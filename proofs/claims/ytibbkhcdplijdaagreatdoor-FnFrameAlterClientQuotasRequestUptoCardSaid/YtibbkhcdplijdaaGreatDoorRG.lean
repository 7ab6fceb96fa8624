/- What is read of a client's id. -/
import Derived.Test.YtibbkhcdplijdaaGreatDoorRL
set_option linter.unusedVariables false
set_option linter.unusedSimpArgs false
namespace Go.Proofs.YtibbkhcdplijdaaGreatDoor.K
open Go Go.ChangeShapes Go.WideShapes Go.ChangeAt Go.RowKit
set_option maxHeartbeats 800000
set_option maxRecDepth 100000

theorem read_id {H : Type} {enc : TypeId × Value → H} {w : World} {held : Bool} {fuel : Nat} {cs : List Value} {x : DataW H × List MemPlace} (h : DataW.trod enc Tryz.prog w 0 (fun _ => true) held fuel 23 cs = some x) : ∃ (has : Bool) (s : List UInt8), cs = [.bool has, str s] := by
  obtain ⟨xs, n, rfl, rfl, hlen, hxl, hf⟩ := DataW.trod_struct Tryz.underlying23 h
  have hlen : cs.length = 2 := hlen
  obtain ⟨c0, c1, rfl⟩ : ∃ c0 c1, cs = [c0, c1] := by
    match cs, hlen with
    | [c0, c1], _ => exact ⟨c0, c1, rfl⟩
  have h0 := hf 0 _ rfl
  have h1 := hf 1 _ rfl
  obtain ⟨y0, hy0⟩ : ∃ y, xs[0]? = some y := ⟨xs[0]'(by rw [hxl]; decide), by simp⟩
  obtain ⟨y1, hy1⟩ : ∃ y, xs[1]? = some y := ⟨xs[1]'(by rw [hxl]; decide), by simp⟩
  rw [hy0] at h0
  rw [hy1] at h1
  obtain ⟨has, hb, _⟩ := DataW.trod_bool Tryz.underlying4 h0
  obtain ⟨s, hs, _⟩ := DataW.trod_string Tryz.underlying9 h1
  obtain rfl : c0 = Value.bool has := by
    have h : [c0] = [Value.bool has] := hb
    injection h
  obtain rfl : c1 = Value.string s := by
    have h : [c1] = [Value.string s] := hs
    injection h
  exact ⟨has, s.data.toList, rfl⟩
end Go.Proofs.YtibbkhcdplijdaaGreatDoor.K
