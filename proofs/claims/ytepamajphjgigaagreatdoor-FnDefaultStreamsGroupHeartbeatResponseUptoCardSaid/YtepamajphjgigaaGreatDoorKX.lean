/- The program of this seat, with the rows of the types that its code uses. -/
import Derived.Test.YtepamajphjgigaaGreatDoorProg
import Derived.Test.YtepamajphjgigaaGreatDoorK8
namespace Go.Proofs.YtepamajphjgigaaGreatDoor
open Go K
noncomputable def ts : List Nat := [2, 3, 4, 5, 9, 20, 21, 22, 23, 24, 26, 29, 31, 34, 35, 37, 45, 46, 50, 54, 60, 62, 63, 65, 66, 67, 68, 69, 71, 73, 77, 78, 80, 82, 83, 85, 88, 89, 91, 92, 93, 95, 97, 104, 108, 117, 118, 120, 122, 123, 124, 128, 129, 131, 139, 141]
noncomputable def tab : Tab := [
  (2, ⟨.int .i64, 1, 8, [.int .i64 0]⟩),
  (3, ⟨.int .i64, 1, 8, [.int .i64 0]⟩),
  (4, ⟨.bool, 1, 1, [.bool false]⟩),
  (5, ⟨.int .u8, 1, 1, [.int .u8 0]⟩),
  (9, ⟨.str, 1, 16, [.string ⟨#[]⟩]⟩),
  (20, ⟨.iface, 1, 16, [.nilIface]⟩),
  (21, ⟨.int .i32, 1, 4, [.int .i32 0]⟩),
  (22, ⟨.slice 5, 1, 24, [.slice none 0 0]⟩),
  (23, ⟨.slice 26, 1, 24, [.slice none 0 0]⟩),
  (24, ⟨.slice 63, 1, 24, [.slice none 0 0]⟩),
  (26, ⟨.strct [(0, 2), (1, 22), (2, 4), (3, 23), (4, 24)], 5, 88, [.int .i64 0, .slice none 0 0, .bool false, .slice none 0 0, .slice none 0 0]⟩),
  (29, ⟨.slice 50, 1, 24, [.slice none 0 0]⟩),
  (31, ⟨.strct [(0, 29), (1, 3)], 2, 32, [.slice none 0 0, .int .i64 0]⟩),
  (34, ⟨.slice 37, 1, 24, [.slice none 0 0]⟩),
  (35, ⟨.slice 62, 1, 24, [.slice none 0 0]⟩),
  (37, ⟨.strct [(0, 2), (1, 22), (2, 4), (3, 34), (4, 35)], 5, 88, [.int .i64 0, .slice none 0 0, .bool false, .slice none 0 0, .slice none 0 0]⟩),
  (45, ⟨.int .i16, 1, 2, [.int .i16 0]⟩),
  (46, ⟨.ptr 73, 1, 8, [.pointer none]⟩),
  (50, ⟨.strct [(0, 3), (1, 3), (2, 3), (3, 3), (4, 3), (5, 2), (6, 3), (7, 29)], 8, 80, [.int .i64 0, .int .i64 0, .int .i64 0, .int .i64 0, .int .i64 0, .int .i64 0, .int .i64 0, .slice none 0 0]⟩),
  (54, ⟨.iface, 1, 16, [.nilIface]⟩),
  (60, ⟨.int .u32, 1, 4, [.int .u32 0]⟩),
  (62, ⟨.strct [(0, 60), (1, 22)], 2, 32, [.int .u32 0, .slice none 0 0]⟩),
  (63, ⟨.strct [(0, 60), (1, 22)], 2, 32, [.int .u32 0, .slice none 0 0]⟩),
  (65, ⟨.ptr 9, 1, 8, [.pointer none]⟩),
  (66, ⟨.slice 80, 1, 24, [.slice none 0 0]⟩),
  (67, ⟨.slice 85, 1, 24, [.slice none 0 0]⟩),
  (68, ⟨.slice 95, 1, 24, [.slice none 0 0]⟩),
  (69, ⟨.map 60 22, 1, 8, [.map none]⟩),
  (71, ⟨.strct [(0, 69)], 1, 8, [.map none]⟩),
  (73, ⟨.strct [(0, 45), (1, 21), (2, 45), (3, 65), (4, 9), (5, 21), (6, 21), (7, 21), (8, 21), (9, 2), (10, 66), (11, 67), (12, 67), (13, 67), (14, 4), (15, 21), (16, 68), (17, 71)], 18, 200, [.int .i16 0, .int .i32 0, .int .i16 0, .pointer none, .string ⟨#[]⟩, .int .i32 0, .int .i32 0, .int .i32 0, .int .i32 0, .int .i64 0, .slice none 0 0, .slice none 0 0, .slice none 0 0, .slice none 0 0, .bool false, .int .i32 0, .slice none 0 0, .map none]⟩),
  (77, ⟨.ptr 80, 1, 8, [.pointer none]⟩),
  (78, ⟨.int .i8, 1, 1, [.int .i8 0]⟩),
  (80, ⟨.strct [(0, 78), (1, 9), (2, 71)], 3, 32, [.int .i8 0, .string ⟨#[]⟩, .map none]⟩),
  (82, ⟨.ptr 85, 1, 8, [.pointer none]⟩),
  (83, ⟨.slice 21, 1, 24, [.slice none 0 0]⟩),
  (85, ⟨.strct [(0, 9), (1, 83), (2, 71)], 3, 48, [.string ⟨#[]⟩, .slice none 0 0, .map none]⟩),
  (88, ⟨.ptr 95, 1, 8, [.pointer none]⟩),
  (89, ⟨.int .u16, 1, 2, [.int .u16 0]⟩),
  (91, ⟨.strct [(0, 9), (1, 89), (2, 71)], 3, 32, [.string ⟨#[]⟩, .int .u16 0, .map none]⟩),
  (92, ⟨.slice 122, 1, 24, [.slice none 0 0]⟩),
  (93, ⟨.slice 124, 1, 24, [.slice none 0 0]⟩),
  (95, ⟨.strct [(0, 91), (3, 92), (4, 93), (5, 71)], 6, 88, [.string ⟨#[]⟩, .int .u16 0, .map none, .slice none 0 0, .slice none 0 0, .map none]⟩),
  (97, ⟨.func, 1, 8, [.nilFunc]⟩),
  (104, ⟨.int .u64, 1, 8, [.int .u64 0]⟩),
  (108, ⟨.strct [(0, 22), (1, 4)], 2, 32, [.slice none 0 0, .bool false]⟩),
  (117, ⟨.ptr 108, 1, 8, [.pointer none]⟩),
  (118, ⟨.ptr 91, 1, 8, [.pointer none]⟩),
  (120, ⟨.ptr 122, 1, 8, [.pointer none]⟩),
  (122, ⟨.strct [(0, 9), (1, 83), (2, 71)], 3, 48, [.string ⟨#[]⟩, .slice none 0 0, .map none]⟩),
  (123, ⟨.ptr 124, 1, 8, [.pointer none]⟩),
  (124, ⟨.strct [(0, 9), (1, 83), (2, 71)], 3, 48, [.string ⟨#[]⟩, .slice none 0 0, .map none]⟩),
  (128, ⟨.ptr 71, 1, 8, [.pointer none]⟩),
  (129, ⟨.slice 60, 1, 24, [.slice none 0 0]⟩),
  (131, ⟨.func, 1, 8, [.nilFunc]⟩),
  (139, ⟨.int .u64, 1, 8, [.int .u64 0]⟩),
  (141, ⟨.strct [], 0, 0, []⟩)]
set_option maxRecDepth 100000 in
theorem tab_eq : tabOf Tryz.prog ts = tab := by kernel_rfl
noncomputable def X : Pr := ⟨Tryz.prog, ts, tab, tab_eq⟩
theorem mixed : X.P.follows .mixedOrders = true := by kernel_rfl
end Go.Proofs.YtepamajphjgigaaGreatDoor
