/- The program of this seat, with the rows of the types that its code uses. -/
import Derived.Test.YtnoknmaoophaoaaGreatDoorProg
import Derived.Test.YtnoknmaoophaoaaGreatDoorK8
namespace Go.Proofs.YtnoknmaoophaoaaGreatDoor
open Go K
noncomputable def ts : List Nat := [2, 3, 4, 5, 9, 20, 21, 23, 24, 25, 26, 28, 32, 34, 45, 46, 50, 54, 58, 60, 62, 63, 65, 67, 73, 78, 79, 82, 90, 92, 95, 97, 98, 100, 101, 103, 110, 112, 117, 137, 139]
noncomputable def tab : Tab := [
  (2, ⟨.int .i64, 1, 8, [.int .i64 0]⟩),
  (3, ⟨.int .i64, 1, 8, [.int .i64 0]⟩),
  (4, ⟨.bool, 1, 1, [.bool false]⟩),
  (5, ⟨.int .u8, 1, 1, [.int .u8 0]⟩),
  (9, ⟨.str, 1, 16, [.string ⟨#[]⟩]⟩),
  (20, ⟨.iface, 1, 16, [.nilIface]⟩),
  (21, ⟨.int .i32, 1, 4, [.int .i32 0]⟩),
  (23, ⟨.strct [(0, 4), (1, 9)], 2, 24, [.bool false, .string ⟨#[]⟩]⟩),
  (24, ⟨.slice 5, 1, 24, [.slice none 0 0]⟩),
  (25, ⟨.slice 28, 1, 24, [.slice none 0 0]⟩),
  (26, ⟨.slice 60, 1, 24, [.slice none 0 0]⟩),
  (28, ⟨.strct [(0, 2), (1, 24), (2, 4), (3, 25), (4, 26)], 5, 88, [.int .i64 0, .slice none 0 0, .bool false, .slice none 0 0, .slice none 0 0]⟩),
  (32, ⟨.slice 50, 1, 24, [.slice none 0 0]⟩),
  (34, ⟨.strct [(0, 32), (1, 3)], 2, 32, [.slice none 0 0, .int .i64 0]⟩),
  (45, ⟨.int .i16, 1, 2, [.int .i16 0]⟩),
  (46, ⟨.ptr 67, 1, 8, [.pointer none]⟩),
  (50, ⟨.strct [(0, 3), (1, 3), (2, 3), (3, 3), (4, 3), (5, 2), (6, 3), (7, 32)], 8, 80, [.int .i64 0, .int .i64 0, .int .i64 0, .int .i64 0, .int .i64 0, .int .i64 0, .int .i64 0, .slice none 0 0]⟩),
  (54, ⟨.iface, 1, 16, [.nilIface]⟩),
  (58, ⟨.int .u32, 1, 4, [.int .u32 0]⟩),
  (60, ⟨.strct [(0, 58), (1, 24)], 2, 32, [.int .u32 0, .slice none 0 0]⟩),
  (62, ⟨.arr 16 5, 16, 16, [.int .u8 0, .int .u8 0, .int .u8 0, .int .u8 0, .int .u8 0, .int .u8 0, .int .u8 0, .int .u8 0, .int .u8 0, .int .u8 0, .int .u8 0, .int .u8 0, .int .u8 0, .int .u8 0, .int .u8 0, .int .u8 0]⟩),
  (63, ⟨.map 58 24, 1, 8, [.map none]⟩),
  (65, ⟨.strct [(0, 63)], 1, 8, [.map none]⟩),
  (67, ⟨.strct [(0, 45), (1, 62), (17, 65)], 18, 32, [.int .i16 0, .int .u8 0, .int .u8 0, .int .u8 0, .int .u8 0, .int .u8 0, .int .u8 0, .int .u8 0, .int .u8 0, .int .u8 0, .int .u8 0, .int .u8 0, .int .u8 0, .int .u8 0, .int .u8 0, .int .u8 0, .int .u8 0, .map none]⟩),
  (73, ⟨.int .u64, 1, 8, [.int .u64 0]⟩),
  (78, ⟨.iface, 1, 16, [.nilIface]⟩),
  (79, ⟨.ptr 100, 1, 8, [.pointer none]⟩),
  (82, ⟨.iface, 1, 16, [.nilIface]⟩),
  (90, ⟨.int .u64, 1, 8, [.int .u64 0]⟩),
  (92, ⟨.strct [(0, 24), (1, 4)], 2, 32, [.slice none 0 0, .bool false]⟩),
  (95, ⟨.ptr 92, 1, 8, [.pointer none]⟩),
  (97, ⟨.slice 82, 1, 24, [.slice none 0 0]⟩),
  (98, ⟨.ptr 9, 1, 8, [.pointer none]⟩),
  (100, ⟨.strct [(0, 98)], 1, 8, [.pointer none]⟩),
  (101, ⟨.func, 1, 8, [.nilFunc]⟩),
  (103, ⟨.strct [(0, 101)], 1, 8, [.nilFunc]⟩),
  (110, ⟨.func, 1, 8, [.nilFunc]⟩),
  (112, ⟨.int .u16, 1, 2, [.int .u16 0]⟩),
  (117, ⟨.ptr 65, 1, 8, [.pointer none]⟩),
  (137, ⟨.slice 58, 1, 24, [.slice none 0 0]⟩),
  (139, ⟨.func, 1, 8, [.nilFunc]⟩)]
set_option maxRecDepth 100000 in
theorem tab_eq : tabOf Tryz.prog ts = tab := by kernel_rfl
noncomputable def X : Pr := ⟨Tryz.prog, ts, tab, tab_eq⟩
theorem mixed : X.P.follows .mixedOrders = true := by kernel_rfl
end Go.Proofs.YtnoknmaoophaoaaGreatDoor
