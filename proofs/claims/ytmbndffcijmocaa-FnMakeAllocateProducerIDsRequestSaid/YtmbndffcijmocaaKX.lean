/- The program of this seat, with the rows of the types that its code uses. -/
import Derived.Test.YtmbndffcijmocaaProg
import Derived.Test.YtmbndffcijmocaaK8
namespace Go.Proofs.Ytmbndffcijmocaa
open Go K
noncomputable def ts : List Nat := [2, 3, 4, 5, 9, 20, 21, 22, 23, 24, 26, 29, 31, 36, 37, 39, 45, 46, 50, 51, 53, 55, 59, 61, 62, 69, 80, 81, 84, 90, 92]
noncomputable def tab : Tab := [
  (2, ⟨.int .i64, 1, 8, [.int .i64 0]⟩),
  (3, ⟨.int .i64, 1, 8, [.int .i64 0]⟩),
  (4, ⟨.bool, 1, 1, [.bool false]⟩),
  (5, ⟨.int .u8, 1, 1, [.int .u8 0]⟩),
  (9, ⟨.str, 1, 16, [.string ⟨#[]⟩]⟩),
  (20, ⟨.iface, 1, 16, [.nilIface]⟩),
  (21, ⟨.int .i32, 1, 4, [.int .i32 0]⟩),
  (22, ⟨.slice 5, 1, 24, [.slice none 0 0]⟩),
  (23, ⟨.slice 26, 1, 24, [.slice none 0 0]⟩),
  (24, ⟨.slice 61, 1, 24, [.slice none 0 0]⟩),
  (26, ⟨.strct [(0, 2), (1, 22), (2, 4), (3, 23), (4, 24)], 5, 88, [.int .i64 0, .slice none 0 0, .bool false, .slice none 0 0, .slice none 0 0]⟩),
  (29, ⟨.slice 50, 1, 24, [.slice none 0 0]⟩),
  (31, ⟨.strct [(0, 29), (1, 3)], 2, 32, [.slice none 0 0, .int .i64 0]⟩),
  (36, ⟨.slice 39, 1, 24, [.slice none 0 0]⟩),
  (37, ⟨.slice 62, 1, 24, [.slice none 0 0]⟩),
  (39, ⟨.strct [(0, 2), (1, 22), (2, 4), (3, 36), (4, 37)], 5, 88, [.int .i64 0, .slice none 0 0, .bool false, .slice none 0 0, .slice none 0 0]⟩),
  (45, ⟨.int .i16, 1, 2, [.int .i16 0]⟩),
  (46, ⟨.ptr 55, 1, 8, [.pointer none]⟩),
  (50, ⟨.strct [(0, 3), (1, 3), (2, 3), (3, 3), (4, 3), (5, 2), (6, 3), (7, 29)], 8, 80, [.int .i64 0, .int .i64 0, .int .i64 0, .int .i64 0, .int .i64 0, .int .i64 0, .int .i64 0, .slice none 0 0]⟩),
  (51, ⟨.map 59 22, 1, 8, [.map none]⟩),
  (53, ⟨.strct [(0, 51)], 1, 8, [.map none]⟩),
  (55, ⟨.strct [(0, 45), (1, 21), (2, 2), (3, 53)], 4, 24, [.int .i16 0, .int .i32 0, .int .i64 0, .map none]⟩),
  (59, ⟨.int .u32, 1, 4, [.int .u32 0]⟩),
  (61, ⟨.strct [(0, 59), (1, 22)], 2, 32, [.int .u32 0, .slice none 0 0]⟩),
  (62, ⟨.strct [(0, 59), (1, 22)], 2, 32, [.int .u32 0, .slice none 0 0]⟩),
  (69, ⟨.func, 1, 8, [.nilFunc]⟩),
  (80, ⟨.int .u64, 1, 8, [.int .u64 0]⟩),
  (81, ⟨.ptr 53, 1, 8, [.pointer none]⟩),
  (84, ⟨.int .u64, 1, 8, [.int .u64 0]⟩),
  (90, ⟨.slice 59, 1, 24, [.slice none 0 0]⟩),
  (92, ⟨.func, 1, 8, [.nilFunc]⟩)]
set_option maxRecDepth 100000 in
theorem tab_eq : tabOf Try.prog ts = tab := by kernel_rfl
noncomputable def X : Pr := ⟨Try.prog, ts, tab, tab_eq⟩
theorem mixed : X.P.follows .mixedOrders = true := by kernel_rfl
end Go.Proofs.Ytmbndffcijmocaa
