/- The program of this seat, with the rows of the types that its code uses. -/
import Derived.Test.YtmmieooipcfbiabDoorRProg
import Derived.Test.YtmmieooipcfbiabDoorRK8
namespace Go.Proofs.YtmmieooipcfbiabDoorR
open Go K
noncomputable def ts : List Nat := [2, 3, 4, 5, 9, 20, 21, 22, 24, 25, 27, 32, 33, 35, 38, 39, 44, 48, 50, 51, 52, 55, 58, 61, 63, 65, 68, 70, 72, 73, 75, 77, 78, 80, 81, 82, 84, 87, 88, 89, 91, 93, 97, 99, 100, 102, 105, 107, 112, 114, 116, 128]
noncomputable def tab : Tab := [
  (2, ⟨.int .i64, 1, 8, [.int .i64 0]⟩),
  (3, ⟨.int .i64, 1, 8, [.int .i64 0]⟩),
  (4, ⟨.bool, 1, 1, [.bool false]⟩),
  (5, ⟨.int .u8, 1, 1, [.int .u8 0]⟩),
  (9, ⟨.str, 1, 16, [.string ⟨#[]⟩]⟩),
  (20, ⟨.iface, 1, 16, [.nilIface]⟩),
  (21, ⟨.int .i32, 1, 4, [.int .i32 0]⟩),
  (22, ⟨.slice 5, 1, 24, [.slice none 0 0]⟩),
  (24, ⟨.slice 27, 1, 24, [.slice none 0 0]⟩),
  (25, ⟨.slice 51, 1, 24, [.slice none 0 0]⟩),
  (27, ⟨.strct [(0, 2), (1, 22), (2, 4), (3, 24), (4, 25)], 5, 88, [.int .i64 0, .slice none 0 0, .bool false, .slice none 0 0, .slice none 0 0]⟩),
  (32, ⟨.slice 35, 1, 24, [.slice none 0 0]⟩),
  (33, ⟨.slice 50, 1, 24, [.slice none 0 0]⟩),
  (35, ⟨.strct [(0, 2), (1, 22), (2, 4), (3, 32), (4, 33)], 5, 88, [.int .i64 0, .slice none 0 0, .bool false, .slice none 0 0, .slice none 0 0]⟩),
  (38, ⟨.int .i16, 1, 2, [.int .i16 0]⟩),
  (39, ⟨.ptr 65, 1, 8, [.pointer none]⟩),
  (44, ⟨.iface, 1, 16, [.nilIface]⟩),
  (48, ⟨.int .u32, 1, 4, [.int .u32 0]⟩),
  (50, ⟨.strct [(0, 48), (1, 22)], 2, 32, [.int .u32 0, .slice none 0 0]⟩),
  (51, ⟨.strct [(0, 48), (1, 22)], 2, 32, [.int .u32 0, .slice none 0 0]⟩),
  (52, ⟨.ptr 72, 1, 8, [.pointer none]⟩),
  (55, ⟨.ptr 75, 1, 8, [.pointer none]⟩),
  (58, ⟨.ptr 84, 1, 8, [.pointer none]⟩),
  (61, ⟨.map 48 22, 1, 8, [.map none]⟩),
  (63, ⟨.strct [(0, 61)], 1, 8, [.map none]⟩),
  (65, ⟨.strct [(0, 38), (1, 21), (2, 38), (3, 2), (4, 63)], 5, 32, [.int .i16 0, .int .i32 0, .int .i16 0, .int .i64 0, .map none]⟩),
  (68, ⟨.func, 1, 8, [.nilFunc]⟩),
  (70, ⟨.slice 9, 1, 24, [.slice none 0 0]⟩),
  (72, ⟨.strct [(0, 38), (1, 70), (2, 70), (3, 63)], 4, 64, [.int .i16 0, .slice none 0 0, .slice none 0 0, .map none]⟩),
  (73, ⟨.slice 80, 1, 24, [.slice none 0 0]⟩),
  (75, ⟨.strct [(0, 38), (1, 21), (2, 73), (3, 63)], 4, 40, [.int .i16 0, .int .i32 0, .slice none 0 0, .map none]⟩),
  (77, ⟨.ptr 80, 1, 8, [.pointer none]⟩),
  (78, ⟨.slice 107, 1, 24, [.slice none 0 0]⟩),
  (80, ⟨.strct [(0, 9), (1, 78), (2, 63)], 3, 48, [.string ⟨#[]⟩, .slice none 0 0, .map none]⟩),
  (81, ⟨.ptr 9, 1, 8, [.pointer none]⟩),
  (82, ⟨.slice 91, 1, 24, [.slice none 0 0]⟩),
  (84, ⟨.strct [(0, 38), (1, 9), (2, 9), (3, 21), (4, 81), (5, 81), (6, 21), (7, 70), (8, 81), (9, 81), (10, 82), (11, 63)], 12, 144, [.int .i16 0, .string ⟨#[]⟩, .string ⟨#[]⟩, .int .i32 0, .pointer none, .pointer none, .int .i32 0, .slice none 0 0, .pointer none, .pointer none, .slice none 0 0, .map none]⟩),
  (87, ⟨.ptr 91, 1, 8, [.pointer none]⟩),
  (88, ⟨.arr 16 5, 16, 16, [.int .u8 0, .int .u8 0, .int .u8 0, .int .u8 0, .int .u8 0, .int .u8 0, .int .u8 0, .int .u8 0, .int .u8 0, .int .u8 0, .int .u8 0, .int .u8 0, .int .u8 0, .int .u8 0, .int .u8 0, .int .u8 0]⟩),
  (89, ⟨.slice 21, 1, 24, [.slice none 0 0]⟩),
  (91, ⟨.strct [(0, 88), (16, 89), (17, 63)], 18, 48, [.int .u8 0, .int .u8 0, .int .u8 0, .int .u8 0, .int .u8 0, .int .u8 0, .int .u8 0, .int .u8 0, .int .u8 0, .int .u8 0, .int .u8 0, .int .u8 0, .int .u8 0, .int .u8 0, .int .u8 0, .int .u8 0, .slice none 0 0, .map none]⟩),
  (93, ⟨.strct [(0, 22), (1, 4)], 2, 32, [.slice none 0 0, .bool false]⟩),
  (97, ⟨.ptr 93, 1, 8, [.pointer none]⟩),
  (99, ⟨.ptr 63, 1, 8, [.pointer none]⟩),
  (100, ⟨.slice 48, 1, 24, [.slice none 0 0]⟩),
  (102, ⟨.func, 1, 8, [.nilFunc]⟩),
  (105, ⟨.ptr 107, 1, 8, [.pointer none]⟩),
  (107, ⟨.strct [(0, 21), (1, 38), (2, 63)], 3, 16, [.int .i32 0, .int .i16 0, .map none]⟩),
  (112, ⟨.strct [], 0, 0, []⟩),
  (114, ⟨.int .u16, 1, 2, [.int .u16 0]⟩),
  (116, ⟨.int .u64, 1, 8, [.int .u64 0]⟩),
  (128, ⟨.int .u64, 1, 8, [.int .u64 0]⟩)]
set_option maxRecDepth 100000 in
theorem tab_eq : tabOf Tryd.prog ts = tab := by kernel_rfl
noncomputable def X : Pr := ⟨Tryd.prog, ts, tab, tab_eq⟩
theorem mixed : X.P.follows .mixedOrders = true := by kernel_rfl
end Go.Proofs.YtmmieooipcfbiabDoorR
