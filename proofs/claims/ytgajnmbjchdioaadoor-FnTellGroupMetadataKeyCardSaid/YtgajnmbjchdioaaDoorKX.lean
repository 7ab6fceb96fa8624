/- The program of this seat, with the rows of the types that its code uses. -/
import Derived.Test.YtgajnmbjchdioaaDoorProg
import Derived.Test.YtgajnmbjchdioaaDoorK8
namespace Go.Proofs.YtgajnmbjchdioaaDoor
open Go K
noncomputable def ts : List Nat := [2, 3, 4, 5, 9, 21, 22, 23, 24, 26, 28, 30, 32, 33, 35, 45, 46, 48, 51, 54, 61, 63, 66, 76, 82, 83, 84, 85, 87, 93]
noncomputable def tab : Tab := [
  (2, ⟨.int .i64, 1, 8, [.int .i64 0]⟩),
  (3, ⟨.int .i64, 1, 8, [.int .i64 0]⟩),
  (4, ⟨.bool, 1, 1, [.bool false]⟩),
  (5, ⟨.int .u8, 1, 1, [.int .u8 0]⟩),
  (9, ⟨.str, 1, 16, [.string ⟨#[]⟩]⟩),
  (21, ⟨.int .i32, 1, 4, [.int .i32 0]⟩),
  (22, ⟨.slice 5, 1, 24, [.slice none 0 0]⟩),
  (23, ⟨.slice 26, 1, 24, [.slice none 0 0]⟩),
  (24, ⟨.slice 63, 1, 24, [.slice none 0 0]⟩),
  (26, ⟨.strct [(0, 2), (1, 22), (2, 4), (3, 23), (4, 24)], 5, 88, [.int .i64 0, .slice none 0 0, .bool false, .slice none 0 0, .slice none 0 0]⟩),
  (28, ⟨.slice 45, 1, 24, [.slice none 0 0]⟩),
  (30, ⟨.strct [(0, 28), (1, 3)], 2, 32, [.slice none 0 0, .int .i64 0]⟩),
  (32, ⟨.slice 35, 1, 24, [.slice none 0 0]⟩),
  (33, ⟨.slice 66, 1, 24, [.slice none 0 0]⟩),
  (35, ⟨.strct [(0, 2), (1, 22), (2, 4), (3, 32), (4, 33)], 5, 88, [.int .i64 0, .slice none 0 0, .bool false, .slice none 0 0, .slice none 0 0]⟩),
  (45, ⟨.strct [(0, 3), (1, 3), (2, 3), (3, 3), (4, 3), (5, 2), (6, 3), (7, 28)], 8, 80, [.int .i64 0, .int .i64 0, .int .i64 0, .int .i64 0, .int .i64 0, .int .i64 0, .int .i64 0, .slice none 0 0]⟩),
  (46, ⟨.int .i16, 1, 2, [.int .i16 0]⟩),
  (48, ⟨.strct [(0, 46), (1, 9)], 2, 24, [.int .i16 0, .string ⟨#[]⟩]⟩),
  (51, ⟨.iface, 1, 16, [.nilIface]⟩),
  (54, ⟨.ptr 48, 1, 8, [.pointer none]⟩),
  (61, ⟨.int .u32, 1, 4, [.int .u32 0]⟩),
  (63, ⟨.strct [(0, 61), (1, 22)], 2, 32, [.int .u32 0, .slice none 0 0]⟩),
  (66, ⟨.strct [(0, 61), (1, 22)], 2, 32, [.int .u32 0, .slice none 0 0]⟩),
  (76, ⟨.strct [(0, 22), (1, 4)], 2, 32, [.slice none 0 0, .bool false]⟩),
  (82, ⟨.int .u64, 1, 8, [.int .u64 0]⟩),
  (83, ⟨.int .i8, 1, 1, [.int .i8 0]⟩),
  (84, ⟨.int .u16, 1, 2, [.int .u16 0]⟩),
  (85, ⟨.ptr 76, 1, 8, [.pointer none]⟩),
  (87, ⟨.strct [], 0, 0, []⟩),
  (93, ⟨.int .u64, 1, 8, [.int .u64 0]⟩)]
set_option maxRecDepth 100000 in
theorem tab_eq : tabOf Tryd.prog ts = tab := by kernel_rfl
noncomputable def X : Pr := ⟨Tryd.prog, ts, tab, tab_eq⟩
theorem mixed : X.P.follows .mixedOrders = true := by kernel_rfl
end Go.Proofs.YtgajnmbjchdioaaDoor
