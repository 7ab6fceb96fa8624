/- The program of this seat, with the rows of the types that its code uses. -/
import Derived.Test.YtefgfdbckbkfiaaDoorProg
import Derived.Test.YtefgfdbckbkfiaaDoorK8
namespace Go.Proofs.YtefgfdbckbkfiaaDoor
open Go K
noncomputable def ts : List Nat := [2, 3, 4, 5, 9, 21, 22, 23, 24, 26, 30, 32, 34, 35, 37, 41, 42, 44, 47, 50, 54, 56, 58, 59, 62, 63, 65, 69, 82, 85, 86, 88, 98]
noncomputable def tab : Tab := [
  (2, ⟨.int .i64, 1, 8, [.int .i64 0]⟩),
  (3, ⟨.int .i64, 1, 8, [.int .i64 0]⟩),
  (4, ⟨.bool, 1, 1, [.bool false]⟩),
  (5, ⟨.int .u8, 1, 1, [.int .u8 0]⟩),
  (9, ⟨.str, 1, 16, [.string ⟨#[]⟩]⟩),
  (21, ⟨.int .i32, 1, 4, [.int .i32 0]⟩),
  (22, ⟨.slice 5, 1, 24, [.slice none 0 0]⟩),
  (23, ⟨.slice 26, 1, 24, [.slice none 0 0]⟩),
  (24, ⟨.slice 59, 1, 24, [.slice none 0 0]⟩),
  (26, ⟨.strct [(0, 2), (1, 22), (2, 4), (3, 23), (4, 24)], 5, 88, [.int .i64 0, .slice none 0 0, .bool false, .slice none 0 0, .slice none 0 0]⟩),
  (30, ⟨.slice 54, 1, 24, [.slice none 0 0]⟩),
  (32, ⟨.strct [(0, 30), (1, 3)], 2, 32, [.slice none 0 0, .int .i64 0]⟩),
  (34, ⟨.slice 37, 1, 24, [.slice none 0 0]⟩),
  (35, ⟨.slice 58, 1, 24, [.slice none 0 0]⟩),
  (37, ⟨.strct [(0, 2), (1, 22), (2, 4), (3, 34), (4, 35)], 5, 88, [.int .i64 0, .slice none 0 0, .bool false, .slice none 0 0, .slice none 0 0]⟩),
  (41, ⟨.int .i16, 1, 2, [.int .i16 0]⟩),
  (42, ⟨.slice 65, 1, 24, [.slice none 0 0]⟩),
  (44, ⟨.strct [(0, 41), (1, 42), (2, 22)], 3, 56, [.int .i16 0, .slice none 0 0, .slice none 0 0]⟩),
  (47, ⟨.iface, 1, 16, [.nilIface]⟩),
  (50, ⟨.ptr 44, 1, 8, [.pointer none]⟩),
  (54, ⟨.strct [(0, 3), (1, 3), (2, 3), (3, 3), (4, 3), (5, 2), (6, 3), (7, 30)], 8, 80, [.int .i64 0, .int .i64 0, .int .i64 0, .int .i64 0, .int .i64 0, .int .i64 0, .int .i64 0, .slice none 0 0]⟩),
  (56, ⟨.int .u32, 1, 4, [.int .u32 0]⟩),
  (58, ⟨.strct [(0, 56), (1, 22)], 2, 32, [.int .u32 0, .slice none 0 0]⟩),
  (59, ⟨.strct [(0, 56), (1, 22)], 2, 32, [.int .u32 0, .slice none 0 0]⟩),
  (62, ⟨.ptr 65, 1, 8, [.pointer none]⟩),
  (63, ⟨.slice 21, 1, 24, [.slice none 0 0]⟩),
  (65, ⟨.strct [(0, 9), (1, 63)], 2, 40, [.string ⟨#[]⟩, .slice none 0 0]⟩),
  (69, ⟨.strct [(0, 22), (1, 4)], 2, 32, [.slice none 0 0, .bool false]⟩),
  (82, ⟨.int .u64, 1, 8, [.int .u64 0]⟩),
  (85, ⟨.ptr 69, 1, 8, [.pointer none]⟩),
  (86, ⟨.int .u16, 1, 2, [.int .u16 0]⟩),
  (88, ⟨.strct [], 0, 0, []⟩),
  (98, ⟨.int .u64, 1, 8, [.int .u64 0]⟩)]
set_option maxRecDepth 100000 in
theorem tab_eq : tabOf Tryd.prog ts = tab := by kernel_rfl
noncomputable def X : Pr := ⟨Tryd.prog, ts, tab, tab_eq⟩
theorem mixed : X.P.follows .mixedOrders = true := by kernel_rfl
end Go.Proofs.YtefgfdbckbkfiaaDoor
