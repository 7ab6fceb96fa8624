/- The program of this seat, with the rows of the types that its code uses. -/
import Derived.Test.YtjepglidlblmlaaDoorProg
import Derived.Test.YtjepglidlblmlaaDoorK8
namespace Go.Proofs.YtjepglidlblmlaaDoor
open Go K
noncomputable def ts : List Nat := [2, 3, 4, 5, 9, 20, 21, 22, 24, 25, 27, 32, 33, 35, 38, 39, 44, 48, 50, 51, 52, 53, 54, 55, 56, 58, 60, 64, 65, 67, 69, 70, 72, 74, 76, 78, 81, 89, 91, 92, 94, 96, 98, 111, 118]
noncomputable def tab : Tab := [
  (2, ⟨.int .i64, 1, 8, [.int .i64 0]⟩),
  (3, ⟨.int .i64, 1, 8, [.int .i64 0]⟩),
  (4, ⟨.bool, 1, 1, [.bool false]⟩),
  (5, ⟨.int .u8, 1, 1, [.int .u8 0]⟩),
  (9, ⟨.str, 1, 16, [.string ⟨#[]⟩]⟩),
  (20, ⟨.iface, 1, 16, [.nilIface]⟩),
  (21, ⟨.int .i32, 1, 4, [.int .i32 0]⟩),
  (22, ⟨.slice 5, 1, 24, [.slice none 0 0]⟩),
  (24, ⟨.slice 27, 1, 24, [.slice none 0 0]⟩),
  (25, ⟨.slice 51, 1, 24, [.slice none 0 0]⟩),
  (27, ⟨.strct [(0, 2), (1, 22), (2, 4), (3, 24), (4, 25)], 5, 88, [.int .i64 0, .slice none 0 0, .bool false, .slice none 0 0, .slice none 0 0]⟩),
  (32, ⟨.slice 35, 1, 24, [.slice none 0 0]⟩),
  (33, ⟨.slice 50, 1, 24, [.slice none 0 0]⟩),
  (35, ⟨.strct [(0, 2), (1, 22), (2, 4), (3, 32), (4, 33)], 5, 88, [.int .i64 0, .slice none 0 0, .bool false, .slice none 0 0, .slice none 0 0]⟩),
  (38, ⟨.int .i16, 1, 2, [.int .i16 0]⟩),
  (39, ⟨.ptr 60, 1, 8, [.pointer none]⟩),
  (44, ⟨.iface, 1, 16, [.nilIface]⟩),
  (48, ⟨.int .u32, 1, 4, [.int .u32 0]⟩),
  (50, ⟨.strct [(0, 48), (1, 22)], 2, 32, [.int .u32 0, .slice none 0 0]⟩),
  (51, ⟨.strct [(0, 48), (1, 22)], 2, 32, [.int .u32 0, .slice none 0 0]⟩),
  (52, ⟨.int .i8, 1, 1, [.int .i8 0]⟩),
  (53, ⟨.slice 67, 1, 24, [.slice none 0 0]⟩),
  (54, ⟨.slice 72, 1, 24, [.slice none 0 0]⟩),
  (55, ⟨.slice 76, 1, 24, [.slice none 0 0]⟩),
  (56, ⟨.map 48 22, 1, 8, [.map none]⟩),
  (58, ⟨.strct [(0, 56)], 1, 8, [.map none]⟩),
  (60, ⟨.strct [(0, 38), (1, 21), (2, 4), (3, 21), (4, 2), (5, 52), (6, 53), (7, 54), (8, 55), (9, 58)], 10, 112, [.int .i16 0, .int .i32 0, .bool false, .int .i32 0, .int .i64 0, .int .i8 0, .slice none 0 0, .slice none 0 0, .slice none 0 0, .map none]⟩),
  (64, ⟨.ptr 67, 1, 8, [.pointer none]⟩),
  (65, ⟨.slice 21, 1, 24, [.slice none 0 0]⟩),
  (67, ⟨.strct [(0, 9), (1, 21), (2, 21), (3, 21), (4, 21), (5, 65), (6, 21), (7, 65), (8, 65), (9, 65), (10, 4), (11, 52), (12, 58)], 13, 152, [.string ⟨#[]⟩, .int .i32 0, .int .i32 0, .int .i32 0, .int .i32 0, .slice none 0 0, .int .i32 0, .slice none 0 0, .slice none 0 0, .slice none 0 0, .bool false, .int .i8 0, .map none]⟩),
  (69, ⟨.ptr 72, 1, 8, [.pointer none]⟩),
  (70, ⟨.arr 16 5, 16, 16, [.int .u8 0, .int .u8 0, .int .u8 0, .int .u8 0, .int .u8 0, .int .u8 0, .int .u8 0, .int .u8 0, .int .u8 0, .int .u8 0, .int .u8 0, .int .u8 0, .int .u8 0, .int .u8 0, .int .u8 0, .int .u8 0]⟩),
  (72, ⟨.strct [(0, 9), (1, 70), (17, 53), (18, 58)], 19, 64, [.string ⟨#[]⟩, .int .u8 0, .int .u8 0, .int .u8 0, .int .u8 0, .int .u8 0, .int .u8 0, .int .u8 0, .int .u8 0, .int .u8 0, .int .u8 0, .int .u8 0, .int .u8 0, .int .u8 0, .int .u8 0, .int .u8 0, .int .u8 0, .slice none 0 0, .map none]⟩),
  (74, ⟨.ptr 76, 1, 8, [.pointer none]⟩),
  (76, ⟨.strct [(0, 21), (1, 9), (2, 21), (3, 58)], 4, 40, [.int .i32 0, .string ⟨#[]⟩, .int .i32 0, .map none]⟩),
  (78, ⟨.func, 1, 8, [.nilFunc]⟩),
  (81, ⟨.strct [(0, 22), (1, 4)], 2, 32, [.slice none 0 0, .bool false]⟩),
  (89, ⟨.ptr 81, 1, 8, [.pointer none]⟩),
  (91, ⟨.ptr 58, 1, 8, [.pointer none]⟩),
  (92, ⟨.slice 48, 1, 24, [.slice none 0 0]⟩),
  (94, ⟨.func, 1, 8, [.nilFunc]⟩),
  (96, ⟨.strct [], 0, 0, []⟩),
  (98, ⟨.int .u64, 1, 8, [.int .u64 0]⟩),
  (111, ⟨.int .u64, 1, 8, [.int .u64 0]⟩),
  (118, ⟨.int .u16, 1, 2, [.int .u16 0]⟩)]
set_option maxRecDepth 100000 in
theorem tab_eq : tabOf Tryd.prog ts = tab := by kernel_rfl
noncomputable def X : Pr := ⟨Tryd.prog, ts, tab, tab_eq⟩
theorem mixed : X.P.follows .mixedOrders = true := by kernel_rfl
end Go.Proofs.YtjepglidlblmlaaDoor
