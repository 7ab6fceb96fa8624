/- The program of this seat, with the rows of the types that its code uses. -/
import Derived.Test.YtbcjhghfmhdafaaProg
import Derived.Test.YtbcjhghfmhdafaaK8
namespace Go.Proofs.Ytbcjhghfmhdafaa
open Go K
noncomputable def ts : List Nat := [2, 3, 4, 5, 9, 20, 21, 22, 23, 24, 26, 29, 31, 36, 37, 39, 45, 46, 50, 52, 53, 55, 57, 61, 63, 64, 71, 72, 74, 76, 79, 82, 83, 84, 85, 86, 87, 89, 100, 103, 105, 107, 113, 115]
noncomputable def tab : Tab := [
  (2, ⟨.int .i64, 1, 8, [.int .i64 0]⟩),
  (3, ⟨.int .i64, 1, 8, [.int .i64 0]⟩),
  (4, ⟨.bool, 1, 1, [.bool false]⟩),
  (5, ⟨.int .u8, 1, 1, [.int .u8 0]⟩),
  (9, ⟨.str, 1, 16, [.string ⟨#[]⟩]⟩),
  (20, ⟨.iface, 1, 16, [.nilIface]⟩),
  (21, ⟨.int .i32, 1, 4, [.int .i32 0]⟩),
  (22, ⟨.slice 5, 1, 24, [.slice none 0 0]⟩),
  (23, ⟨.slice 26, 1, 24, [.slice none 0 0]⟩),
  (24, ⟨.slice 63, 1, 24, [.slice none 0 0]⟩),
  (26, ⟨.strct [(0, 2), (1, 22), (2, 4), (3, 23), (4, 24)], 5, 88, [.int .i64 0, .slice none 0 0, .bool false, .slice none 0 0, .slice none 0 0]⟩),
  (29, ⟨.slice 50, 1, 24, [.slice none 0 0]⟩),
  (31, ⟨.strct [(0, 29), (1, 3)], 2, 32, [.slice none 0 0, .int .i64 0]⟩),
  (36, ⟨.slice 39, 1, 24, [.slice none 0 0]⟩),
  (37, ⟨.slice 64, 1, 24, [.slice none 0 0]⟩),
  (39, ⟨.strct [(0, 2), (1, 22), (2, 4), (3, 36), (4, 37)], 5, 88, [.int .i64 0, .slice none 0 0, .bool false, .slice none 0 0, .slice none 0 0]⟩),
  (45, ⟨.int .i16, 1, 2, [.int .i16 0]⟩),
  (46, ⟨.ptr 57, 1, 8, [.pointer none]⟩),
  (50, ⟨.strct [(0, 3), (1, 3), (2, 3), (3, 3), (4, 3), (5, 2), (6, 3), (7, 29)], 8, 80, [.int .i64 0, .int .i64 0, .int .i64 0, .int .i64 0, .int .i64 0, .int .i64 0, .int .i64 0, .slice none 0 0]⟩),
  (52, ⟨.slice 74, 1, 24, [.slice none 0 0]⟩),
  (53, ⟨.map 61 22, 1, 8, [.map none]⟩),
  (55, ⟨.strct [(0, 53)], 1, 8, [.map none]⟩),
  (57, ⟨.strct [(0, 45), (1, 21), (2, 52), (3, 55)], 4, 40, [.int .i16 0, .int .i32 0, .slice none 0 0, .map none]⟩),
  (61, ⟨.int .u32, 1, 4, [.int .u32 0]⟩),
  (63, ⟨.strct [(0, 61), (1, 22)], 2, 32, [.int .u32 0, .slice none 0 0]⟩),
  (64, ⟨.strct [(0, 61), (1, 22)], 2, 32, [.int .u32 0, .slice none 0 0]⟩),
  (71, ⟨.ptr 9, 1, 8, [.pointer none]⟩),
  (72, ⟨.slice 89, 1, 24, [.slice none 0 0]⟩),
  (74, ⟨.strct [(0, 45), (1, 71), (2, 72), (3, 55)], 4, 48, [.int .i16 0, .pointer none, .slice none 0 0, .map none]⟩),
  (76, ⟨.func, 1, 8, [.nilFunc]⟩),
  (79, ⟨.ptr 74, 1, 8, [.pointer none]⟩),
  (82, ⟨.ptr 89, 1, 8, [.pointer none]⟩),
  (83, ⟨.int .i8, 1, 1, [.int .i8 0]⟩),
  (84, ⟨.int .i8, 1, 1, [.int .i8 0]⟩),
  (85, ⟨.int .i8, 1, 1, [.int .i8 0]⟩),
  (86, ⟨.int .i8, 1, 1, [.int .i8 0]⟩),
  (87, ⟨.int .i8, 1, 1, [.int .i8 0]⟩),
  (89, ⟨.strct [(0, 45), (1, 71), (2, 84), (3, 9), (4, 85), (5, 9), (6, 9), (7, 86), (8, 87), (9, 55)], 10, 96, [.int .i16 0, .pointer none, .int .i8 0, .string ⟨#[]⟩, .int .i8 0, .string ⟨#[]⟩, .string ⟨#[]⟩, .int .i8 0, .int .i8 0, .map none]⟩),
  (100, ⟨.int .u64, 1, 8, [.int .u64 0]⟩),
  (103, ⟨.ptr 55, 1, 8, [.pointer none]⟩),
  (105, ⟨.int .u16, 1, 2, [.int .u16 0]⟩),
  (107, ⟨.int .u64, 1, 8, [.int .u64 0]⟩),
  (113, ⟨.slice 61, 1, 24, [.slice none 0 0]⟩),
  (115, ⟨.func, 1, 8, [.nilFunc]⟩)]
set_option maxRecDepth 100000 in
theorem tab_eq : tabOf Try.prog ts = tab := by kernel_rfl
noncomputable def X : Pr := ⟨Try.prog, ts, tab, tab_eq⟩
theorem mixed : X.P.follows .mixedOrders = true := by kernel_rfl
end Go.Proofs.Ytbcjhghfmhdafaa
