/- The program of this seat, with the rows of the types that its code uses. -/
import Derived.Test.YtlnhbbpmlfaakaaGreatProg
import Derived.Test.YtlnhbbpmlfaakaaGreatK8
namespace Go.Proofs.YtlnhbbpmlfaakaaGreat
open Go K
noncomputable def ts : List Nat := [2, 3, 4, 5, 9, 20, 21, 22, 23, 24, 26, 29, 31, 36, 37, 39, 45, 46, 50, 52, 53, 54, 55, 57, 59, 63, 65, 66, 74, 77, 78, 80, 82, 85, 89, 93, 94, 96, 104, 107, 109, 112, 117, 119]
noncomputable def tab : Tab := [
  (2, ⟨.int .i64, 1, 8, [.int .i64 0]⟩),
  (3, ⟨.int .i64, 1, 8, [.int .i64 0]⟩),
  (4, ⟨.bool, 1, 1, [.bool false]⟩),
  (5, ⟨.int .u8, 1, 1, [.int .u8 0]⟩),
  (9, ⟨.str, 1, 16, [.string ⟨#[]⟩]⟩),
  (20, ⟨.iface, 1, 16, [.nilIface]⟩),
  (21, ⟨.int .i32, 1, 4, [.int .i32 0]⟩),
  (22, ⟨.slice 5, 1, 24, [.slice none 0 0]⟩),
  (23, ⟨.slice 26, 1, 24, [.slice none 0 0]⟩),
  (24, ⟨.slice 65, 1, 24, [.slice none 0 0]⟩),
  (26, ⟨.strct [(0, 2), (1, 22), (2, 4), (3, 23), (4, 24)], 5, 88, [.int .i64 0, .slice none 0 0, .bool false, .slice none 0 0, .slice none 0 0]⟩),
  (29, ⟨.slice 50, 1, 24, [.slice none 0 0]⟩),
  (31, ⟨.strct [(0, 29), (1, 3)], 2, 32, [.slice none 0 0, .int .i64 0]⟩),
  (36, ⟨.slice 39, 1, 24, [.slice none 0 0]⟩),
  (37, ⟨.slice 66, 1, 24, [.slice none 0 0]⟩),
  (39, ⟨.strct [(0, 2), (1, 22), (2, 4), (3, 36), (4, 37)], 5, 88, [.int .i64 0, .slice none 0 0, .bool false, .slice none 0 0, .slice none 0 0]⟩),
  (45, ⟨.int .i16, 1, 2, [.int .i16 0]⟩),
  (46, ⟨.ptr 59, 1, 8, [.pointer none]⟩),
  (50, ⟨.strct [(0, 3), (1, 3), (2, 3), (3, 3), (4, 3), (5, 2), (6, 3), (7, 29)], 8, 80, [.int .i64 0, .int .i64 0, .int .i64 0, .int .i64 0, .int .i64 0, .int .i64 0, .int .i64 0, .slice none 0 0]⟩),
  (52, ⟨.slice 74, 1, 24, [.slice none 0 0]⟩),
  (53, ⟨.ptr 9, 1, 8, [.pointer none]⟩),
  (54, ⟨.slice 80, 1, 24, [.slice none 0 0]⟩),
  (55, ⟨.map 63 22, 1, 8, [.map none]⟩),
  (57, ⟨.strct [(0, 55)], 1, 8, [.map none]⟩),
  (59, ⟨.strct [(0, 45), (1, 21), (2, 52), (3, 53), (4, 21), (5, 54), (6, 21), (7, 45), (8, 57)], 9, 88, [.int .i16 0, .int .i32 0, .slice none 0 0, .pointer none, .int .i32 0, .slice none 0 0, .int .i32 0, .int .i16 0, .map none]⟩),
  (63, ⟨.int .u32, 1, 4, [.int .u32 0]⟩),
  (65, ⟨.strct [(0, 63), (1, 22)], 2, 32, [.int .u32 0, .slice none 0 0]⟩),
  (66, ⟨.strct [(0, 63), (1, 22)], 2, 32, [.int .u32 0, .slice none 0 0]⟩),
  (74, ⟨.strct [(0, 21), (1, 9), (2, 21), (3, 53), (4, 57)], 5, 48, [.int .i32 0, .string ⟨#[]⟩, .int .i32 0, .pointer none, .map none]⟩),
  (77, ⟨.arr 16 5, 16, 16, [.int .u8 0, .int .u8 0, .int .u8 0, .int .u8 0, .int .u8 0, .int .u8 0, .int .u8 0, .int .u8 0, .int .u8 0, .int .u8 0, .int .u8 0, .int .u8 0, .int .u8 0, .int .u8 0, .int .u8 0, .int .u8 0]⟩),
  (78, ⟨.slice 96, 1, 24, [.slice none 0 0]⟩),
  (80, ⟨.strct [(0, 45), (1, 53), (2, 77), (18, 4), (19, 78), (20, 21), (21, 57)], 22, 80, [.int .i16 0, .pointer none, .int .u8 0, .int .u8 0, .int .u8 0, .int .u8 0, .int .u8 0, .int .u8 0, .int .u8 0, .int .u8 0, .int .u8 0, .int .u8 0, .int .u8 0, .int .u8 0, .int .u8 0, .int .u8 0, .int .u8 0, .int .u8 0, .bool false, .slice none 0 0, .int .i32 0, .map none]⟩),
  (82, ⟨.func, 1, 8, [.nilFunc]⟩),
  (85, ⟨.ptr 74, 1, 8, [.pointer none]⟩),
  (89, ⟨.ptr 80, 1, 8, [.pointer none]⟩),
  (93, ⟨.ptr 96, 1, 8, [.pointer none]⟩),
  (94, ⟨.slice 21, 1, 24, [.slice none 0 0]⟩),
  (96, ⟨.strct [(0, 45), (1, 21), (2, 21), (3, 21), (4, 94), (5, 94), (6, 94), (7, 57)], 8, 96, [.int .i16 0, .int .i32 0, .int .i32 0, .int .i32 0, .slice none 0 0, .slice none 0 0, .slice none 0 0, .map none]⟩),
  (104, ⟨.int .u64, 1, 8, [.int .u64 0]⟩),
  (107, ⟨.ptr 57, 1, 8, [.pointer none]⟩),
  (109, ⟨.int .u64, 1, 8, [.int .u64 0]⟩),
  (112, ⟨.int .u16, 1, 2, [.int .u16 0]⟩),
  (117, ⟨.slice 63, 1, 24, [.slice none 0 0]⟩),
  (119, ⟨.func, 1, 8, [.nilFunc]⟩)]
set_option maxRecDepth 100000 in
theorem tab_eq : tabOf Tryz.prog ts = tab := by kernel_rfl
noncomputable def X : Pr := ⟨Tryz.prog, ts, tab, tab_eq⟩
theorem mixed : X.P.follows .mixedOrders = true := by kernel_rfl
end Go.Proofs.YtlnhbbpmlfaakaaGreat
