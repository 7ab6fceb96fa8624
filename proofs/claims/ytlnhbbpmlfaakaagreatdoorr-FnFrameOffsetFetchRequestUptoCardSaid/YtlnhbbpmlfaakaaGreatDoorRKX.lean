/- The program of this seat, with the rows of the types that its code uses. -/
import Derived.Test.YtlnhbbpmlfaakaaGreatDoorRProg
import Derived.Test.YtlnhbbpmlfaakaaGreatDoorRK8
namespace Go.Proofs.YtlnhbbpmlfaakaaGreatDoorR
open Go K
noncomputable def ts : List Nat := [2, 3, 4, 5, 9, 20, 21, 23, 24, 25, 26, 28, 32, 34, 45, 46, 50, 55, 59, 61, 63, 64, 65, 67, 69, 75, 80, 81, 84, 92, 94, 99, 100, 102, 104, 105, 106, 107, 109, 111, 112, 114, 116, 118, 119, 121, 129, 131, 133, 139, 161, 163]
noncomputable def tab : Tab := [
  (2, ⟨.int .i64, 1, 8, [.int .i64 0]⟩),
  (3, ⟨.int .i64, 1, 8, [.int .i64 0]⟩),
  (4, ⟨.bool, 1, 1, [.bool false]⟩),
  (5, ⟨.int .u8, 1, 1, [.int .u8 0]⟩),
  (9, ⟨.str, 1, 16, [.string ⟨#[]⟩]⟩),
  (20, ⟨.iface, 1, 16, [.nilIface]⟩),
  (21, ⟨.int .i32, 1, 4, [.int .i32 0]⟩),
  (23, ⟨.strct [(0, 4), (1, 9)], 2, 24, [.bool false, .string ⟨#[]⟩]⟩),
  (24, ⟨.slice 5, 1, 24, [.slice none 0 0]⟩),
  (25, ⟨.slice 28, 1, 24, [.slice none 0 0]⟩),
  (26, ⟨.slice 61, 1, 24, [.slice none 0 0]⟩),
  (28, ⟨.strct [(0, 2), (1, 24), (2, 4), (3, 25), (4, 26)], 5, 88, [.int .i64 0, .slice none 0 0, .bool false, .slice none 0 0, .slice none 0 0]⟩),
  (32, ⟨.slice 50, 1, 24, [.slice none 0 0]⟩),
  (34, ⟨.strct [(0, 32), (1, 3)], 2, 32, [.slice none 0 0, .int .i64 0]⟩),
  (45, ⟨.int .i16, 1, 2, [.int .i16 0]⟩),
  (46, ⟨.ptr 69, 1, 8, [.pointer none]⟩),
  (50, ⟨.strct [(0, 3), (1, 3), (2, 3), (3, 3), (4, 3), (5, 2), (6, 3), (7, 32)], 8, 80, [.int .i64 0, .int .i64 0, .int .i64 0, .int .i64 0, .int .i64 0, .int .i64 0, .int .i64 0, .slice none 0 0]⟩),
  (55, ⟨.iface, 1, 16, [.nilIface]⟩),
  (59, ⟨.int .u32, 1, 4, [.int .u32 0]⟩),
  (61, ⟨.strct [(0, 59), (1, 24)], 2, 32, [.int .u32 0, .slice none 0 0]⟩),
  (63, ⟨.slice 102, 1, 24, [.slice none 0 0]⟩),
  (64, ⟨.slice 109, 1, 24, [.slice none 0 0]⟩),
  (65, ⟨.map 59 24, 1, 8, [.map none]⟩),
  (67, ⟨.strct [(0, 65)], 1, 8, [.map none]⟩),
  (69, ⟨.strct [(0, 45), (1, 9), (2, 63), (3, 64), (4, 4), (5, 67)], 6, 88, [.int .i16 0, .string ⟨#[]⟩, .slice none 0 0, .slice none 0 0, .bool false, .map none]⟩),
  (75, ⟨.int .u64, 1, 8, [.int .u64 0]⟩),
  (80, ⟨.iface, 1, 16, [.nilIface]⟩),
  (81, ⟨.ptr 118, 1, 8, [.pointer none]⟩),
  (84, ⟨.iface, 1, 16, [.nilIface]⟩),
  (92, ⟨.int .u64, 1, 8, [.int .u64 0]⟩),
  (94, ⟨.strct [(0, 24), (1, 4)], 2, 32, [.slice none 0 0, .bool false]⟩),
  (99, ⟨.ptr 102, 1, 8, [.pointer none]⟩),
  (100, ⟨.slice 21, 1, 24, [.slice none 0 0]⟩),
  (102, ⟨.strct [(0, 9), (1, 100), (2, 67)], 3, 48, [.string ⟨#[]⟩, .slice none 0 0, .map none]⟩),
  (104, ⟨.ptr 94, 1, 8, [.pointer none]⟩),
  (105, ⟨.ptr 109, 1, 8, [.pointer none]⟩),
  (106, ⟨.ptr 9, 1, 8, [.pointer none]⟩),
  (107, ⟨.slice 114, 1, 24, [.slice none 0 0]⟩),
  (109, ⟨.strct [(0, 9), (1, 106), (2, 21), (3, 107), (4, 67)], 5, 64, [.string ⟨#[]⟩, .pointer none, .int .i32 0, .slice none 0 0, .map none]⟩),
  (111, ⟨.ptr 114, 1, 8, [.pointer none]⟩),
  (112, ⟨.arr 16 5, 16, 16, [.int .u8 0, .int .u8 0, .int .u8 0, .int .u8 0, .int .u8 0, .int .u8 0, .int .u8 0, .int .u8 0, .int .u8 0, .int .u8 0, .int .u8 0, .int .u8 0, .int .u8 0, .int .u8 0, .int .u8 0, .int .u8 0]⟩),
  (114, ⟨.strct [(0, 9), (1, 112), (17, 100), (18, 67)], 19, 64, [.string ⟨#[]⟩, .int .u8 0, .int .u8 0, .int .u8 0, .int .u8 0, .int .u8 0, .int .u8 0, .int .u8 0, .int .u8 0, .int .u8 0, .int .u8 0, .int .u8 0, .int .u8 0, .int .u8 0, .int .u8 0, .int .u8 0, .int .u8 0, .slice none 0 0, .map none]⟩),
  (116, ⟨.slice 84, 1, 24, [.slice none 0 0]⟩),
  (118, ⟨.strct [(0, 106)], 1, 8, [.pointer none]⟩),
  (119, ⟨.func, 1, 8, [.nilFunc]⟩),
  (121, ⟨.strct [(0, 119)], 1, 8, [.nilFunc]⟩),
  (129, ⟨.strct [], 0, 0, []⟩),
  (131, ⟨.func, 1, 8, [.nilFunc]⟩),
  (133, ⟨.int .u16, 1, 2, [.int .u16 0]⟩),
  (139, ⟨.ptr 67, 1, 8, [.pointer none]⟩),
  (161, ⟨.slice 59, 1, 24, [.slice none 0 0]⟩),
  (163, ⟨.func, 1, 8, [.nilFunc]⟩)]
set_option maxRecDepth 100000 in
theorem tab_eq : tabOf Tryz.prog ts = tab := by kernel_rfl
noncomputable def X : Pr := ⟨Tryz.prog, ts, tab, tab_eq⟩
theorem mixed : X.P.follows .mixedOrders = true := by kernel_rfl
end Go.Proofs.YtlnhbbpmlfaakaaGreatDoorR
