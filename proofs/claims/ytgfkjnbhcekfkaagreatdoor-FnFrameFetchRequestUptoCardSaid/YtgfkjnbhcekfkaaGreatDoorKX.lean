/- The program of this seat, with the rows of the types that its code uses. -/
import Derived.Test.YtgfkjnbhcekfkaaGreatDoorProg
import Derived.Test.YtgfkjnbhcekfkaaGreatDoorK8
namespace Go.Proofs.YtgfkjnbhcekfkaaGreatDoor
open Go K
noncomputable def ts : List Nat := [2, 3, 4, 5, 9, 20, 21, 23, 24, 25, 26, 28, 32, 34, 45, 46, 50, 55, 59, 61, 63, 64, 66, 68, 69, 70, 71, 73, 79, 84, 85, 88, 91, 97, 99, 104, 105, 106, 108, 111, 113, 116, 119, 120, 121, 123, 125, 127, 128, 130, 135, 141, 143, 167, 175]
noncomputable def tab : Tab := [
  (2, ⟨.int .i64, 1, 8, [.int .i64 0]⟩),
  (3, ⟨.int .i64, 1, 8, [.int .i64 0]⟩),
  (4, ⟨.bool, 1, 1, [.bool false]⟩),
  (5, ⟨.int .u8, 1, 1, [.int .u8 0]⟩),
  (9, ⟨.str, 1, 16, [.string ⟨#[]⟩]⟩),
  (20, ⟨.iface, 1, 16, [.nilIface]⟩),
  (21, ⟨.int .i32, 1, 4, [.int .i32 0]⟩),
  (23, ⟨.strct [(0, 4), (1, 9)], 2, 24, [.bool false, .string ⟨#[]⟩]⟩),
  (24, ⟨.slice 5, 1, 24, [.slice none 0 0]⟩),
  (25, ⟨.slice 28, 1, 24, [.slice none 0 0]⟩),
  (26, ⟨.slice 61, 1, 24, [.slice none 0 0]⟩),
  (28, ⟨.strct [(0, 2), (1, 24), (2, 4), (3, 25), (4, 26)], 5, 88, [.int .i64 0, .slice none 0 0, .bool false, .slice none 0 0, .slice none 0 0]⟩),
  (32, ⟨.slice 50, 1, 24, [.slice none 0 0]⟩),
  (34, ⟨.strct [(0, 32), (1, 3)], 2, 32, [.slice none 0 0, .int .i64 0]⟩),
  (45, ⟨.int .i16, 1, 2, [.int .i16 0]⟩),
  (46, ⟨.ptr 73, 1, 8, [.pointer none]⟩),
  (50, ⟨.strct [(0, 3), (1, 3), (2, 3), (3, 3), (4, 3), (5, 2), (6, 3), (7, 32)], 8, 80, [.int .i64 0, .int .i64 0, .int .i64 0, .int .i64 0, .int .i64 0, .int .i64 0, .int .i64 0, .slice none 0 0]⟩),
  (55, ⟨.iface, 1, 16, [.nilIface]⟩),
  (59, ⟨.int .u32, 1, 4, [.int .u32 0]⟩),
  (61, ⟨.strct [(0, 59), (1, 24)], 2, 32, [.int .u32 0, .slice none 0 0]⟩),
  (63, ⟨.ptr 9, 1, 8, [.pointer none]⟩),
  (64, ⟨.map 59 24, 1, 8, [.map none]⟩),
  (66, ⟨.strct [(0, 64)], 1, 8, [.map none]⟩),
  (68, ⟨.strct [(0, 21), (1, 2), (2, 66)], 3, 24, [.int .i32 0, .int .i64 0, .map none]⟩),
  (69, ⟨.int .i8, 1, 1, [.int .i8 0]⟩),
  (70, ⟨.slice 108, 1, 24, [.slice none 0 0]⟩),
  (71, ⟨.slice 123, 1, 24, [.slice none 0 0]⟩),
  (73, ⟨.strct [(0, 45), (1, 63), (2, 21), (3, 68), (6, 21), (7, 21), (8, 21), (9, 69), (10, 21), (11, 21), (12, 70), (13, 71), (14, 9), (15, 66)], 16, 144, [.int .i16 0, .pointer none, .int .i32 0, .int .i32 0, .int .i64 0, .map none, .int .i32 0, .int .i32 0, .int .i32 0, .int .i8 0, .int .i32 0, .int .i32 0, .slice none 0 0, .slice none 0 0, .string ⟨#[]⟩, .map none]⟩),
  (79, ⟨.int .u64, 1, 8, [.int .u64 0]⟩),
  (84, ⟨.iface, 1, 16, [.nilIface]⟩),
  (85, ⟨.ptr 127, 1, 8, [.pointer none]⟩),
  (88, ⟨.iface, 1, 16, [.nilIface]⟩),
  (91, ⟨.ptr 68, 1, 8, [.pointer none]⟩),
  (97, ⟨.int .u64, 1, 8, [.int .u64 0]⟩),
  (99, ⟨.strct [(0, 24), (1, 4)], 2, 32, [.slice none 0 0, .bool false]⟩),
  (104, ⟨.ptr 108, 1, 8, [.pointer none]⟩),
  (105, ⟨.arr 16 5, 16, 16, [.int .u8 0, .int .u8 0, .int .u8 0, .int .u8 0, .int .u8 0, .int .u8 0, .int .u8 0, .int .u8 0, .int .u8 0, .int .u8 0, .int .u8 0, .int .u8 0, .int .u8 0, .int .u8 0, .int .u8 0, .int .u8 0]⟩),
  (106, ⟨.slice 113, 1, 24, [.slice none 0 0]⟩),
  (108, ⟨.strct [(0, 9), (1, 105), (17, 106), (18, 66)], 19, 64, [.string ⟨#[]⟩, .int .u8 0, .int .u8 0, .int .u8 0, .int .u8 0, .int .u8 0, .int .u8 0, .int .u8 0, .int .u8 0, .int .u8 0, .int .u8 0, .int .u8 0, .int .u8 0, .int .u8 0, .int .u8 0, .int .u8 0, .int .u8 0, .slice none 0 0, .map none]⟩),
  (111, ⟨.ptr 113, 1, 8, [.pointer none]⟩),
  (113, ⟨.strct [(0, 21), (1, 21), (2, 2), (3, 21), (4, 2), (5, 21), (6, 105), (22, 2), (23, 66)], 24, 72, [.int .i32 0, .int .i32 0, .int .i64 0, .int .i32 0, .int .i64 0, .int .i32 0, .int .u8 0, .int .u8 0, .int .u8 0, .int .u8 0, .int .u8 0, .int .u8 0, .int .u8 0, .int .u8 0, .int .u8 0, .int .u8 0, .int .u8 0, .int .u8 0, .int .u8 0, .int .u8 0, .int .u8 0, .int .u8 0, .int .i64 0, .map none]⟩),
  (116, ⟨.func, 1, 8, [.nilFunc]⟩),
  (119, ⟨.ptr 99, 1, 8, [.pointer none]⟩),
  (120, ⟨.ptr 123, 1, 8, [.pointer none]⟩),
  (121, ⟨.slice 21, 1, 24, [.slice none 0 0]⟩),
  (123, ⟨.strct [(0, 9), (1, 105), (17, 121), (18, 66)], 19, 64, [.string ⟨#[]⟩, .int .u8 0, .int .u8 0, .int .u8 0, .int .u8 0, .int .u8 0, .int .u8 0, .int .u8 0, .int .u8 0, .int .u8 0, .int .u8 0, .int .u8 0, .int .u8 0, .int .u8 0, .int .u8 0, .int .u8 0, .int .u8 0, .slice none 0 0, .map none]⟩),
  (125, ⟨.slice 88, 1, 24, [.slice none 0 0]⟩),
  (127, ⟨.strct [(0, 63)], 1, 8, [.pointer none]⟩),
  (128, ⟨.func, 1, 8, [.nilFunc]⟩),
  (130, ⟨.strct [(0, 128)], 1, 8, [.nilFunc]⟩),
  (135, ⟨.strct [], 0, 0, []⟩),
  (141, ⟨.ptr 66, 1, 8, [.pointer none]⟩),
  (143, ⟨.int .u16, 1, 2, [.int .u16 0]⟩),
  (167, ⟨.slice 59, 1, 24, [.slice none 0 0]⟩),
  (175, ⟨.func, 1, 8, [.nilFunc]⟩)]
set_option maxRecDepth 100000 in
theorem tab_eq : tabOf Tryz.prog ts = tab := by kernel_rfl
noncomputable def X : Pr := ⟨Tryz.prog, ts, tab, tab_eq⟩
theorem mixed : X.P.follows .mixedOrders = true := by kernel_rfl
end Go.Proofs.YtgfkjnbhcekfkaaGreatDoor
