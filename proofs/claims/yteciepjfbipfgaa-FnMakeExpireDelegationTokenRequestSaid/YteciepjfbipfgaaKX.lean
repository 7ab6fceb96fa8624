/- The program of this seat, with the rows of the types that its code uses. -/
import Derived.Test.YteciepjfbipfgaaProg
import Derived.Test.YteciepjfbipfgaaK8
namespace Go.Proofs.Yteciepjfbipfgaa
open Go K
noncomputable def ts : List Nat := [2, 3, 4, 5, 9, 20, 21, 22, 23, 24, 26, 29, 31, 36, 37, 39, 45, 46, 50, 51, 52, 54, 56, 60, 62, 63, 68, 71, 73, 76, 78, 81, 83, 86, 90, 101, 108, 110, 117, 119, 121]
noncomputable def tab : Tab := [
  (2, ⟨.int .i64, 1, 8, [.int .i64 0]⟩),
  (3, ⟨.int .i64, 1, 8, [.int .i64 0]⟩),
  (4, ⟨.bool, 1, 1, [.bool false]⟩),
  (5, ⟨.int .u8, 1, 1, [.int .u8 0]⟩),
  (9, ⟨.str, 1, 16, [.string ⟨#[]⟩]⟩),
  (20, ⟨.iface, 1, 16, [.nilIface]⟩),
  (21, ⟨.int .i32, 1, 4, [.int .i32 0]⟩),
  (22, ⟨.slice 5, 1, 24, [.slice none 0 0]⟩),
  (23, ⟨.slice 26, 1, 24, [.slice none 0 0]⟩),
  (24, ⟨.slice 62, 1, 24, [.slice none 0 0]⟩),
  (26, ⟨.strct [(0, 2), (1, 22), (2, 4), (3, 23), (4, 24)], 5, 88, [.int .i64 0, .slice none 0 0, .bool false, .slice none 0 0, .slice none 0 0]⟩),
  (29, ⟨.slice 50, 1, 24, [.slice none 0 0]⟩),
  (31, ⟨.strct [(0, 29), (1, 3)], 2, 32, [.slice none 0 0, .int .i64 0]⟩),
  (36, ⟨.slice 39, 1, 24, [.slice none 0 0]⟩),
  (37, ⟨.slice 63, 1, 24, [.slice none 0 0]⟩),
  (39, ⟨.strct [(0, 2), (1, 22), (2, 4), (3, 36), (4, 37)], 5, 88, [.int .i64 0, .slice none 0 0, .bool false, .slice none 0 0, .slice none 0 0]⟩),
  (45, ⟨.int .i16, 1, 2, [.int .i16 0]⟩),
  (46, ⟨.ptr 56, 1, 8, [.pointer none]⟩),
  (50, ⟨.strct [(0, 3), (1, 3), (2, 3), (3, 3), (4, 3), (5, 2), (6, 3), (7, 29)], 8, 80, [.int .i64 0, .int .i64 0, .int .i64 0, .int .i64 0, .int .i64 0, .int .i64 0, .int .i64 0, .slice none 0 0]⟩),
  (51, ⟨.int .i8, 1, 1, [.int .i8 0]⟩),
  (52, ⟨.map 60 22, 1, 8, [.map none]⟩),
  (54, ⟨.strct [(0, 52)], 1, 8, [.map none]⟩),
  (56, ⟨.strct [(0, 45), (1, 4), (2, 51), (3, 4), (4, 54)], 5, 16, [.int .i16 0, .bool false, .int .i8 0, .bool false, .map none]⟩),
  (60, ⟨.int .u32, 1, 4, [.int .u32 0]⟩),
  (62, ⟨.strct [(0, 60), (1, 22)], 2, 32, [.int .u32 0, .slice none 0 0]⟩),
  (63, ⟨.strct [(0, 60), (1, 22)], 2, 32, [.int .u32 0, .slice none 0 0]⟩),
  (68, ⟨.ptr 71, 1, 8, [.pointer none]⟩),
  (71, ⟨.strct [(0, 45), (1, 22), (2, 54)], 3, 40, [.int .i16 0, .slice none 0 0, .map none]⟩),
  (73, ⟨.ptr 76, 1, 8, [.pointer none]⟩),
  (76, ⟨.strct [(0, 45), (1, 21), (2, 45), (3, 2), (4, 45), (5, 54)], 6, 40, [.int .i16 0, .int .i32 0, .int .i16 0, .int .i64 0, .int .i16 0, .map none]⟩),
  (78, ⟨.ptr 81, 1, 8, [.pointer none]⟩),
  (81, ⟨.strct [(0, 45), (1, 22), (2, 2), (3, 54)], 4, 48, [.int .i16 0, .slice none 0 0, .int .i64 0, .map none]⟩),
  (83, ⟨.ptr 86, 1, 8, [.pointer none]⟩),
  (86, ⟨.strct [(0, 45), (1, 9), (2, 2), (3, 45), (4, 9), (5, 54)], 6, 64, [.int .i16 0, .string ⟨#[]⟩, .int .i64 0, .int .i16 0, .string ⟨#[]⟩, .map none]⟩),
  (90, ⟨.func, 1, 8, [.nilFunc]⟩),
  (101, ⟨.int .u64, 1, 8, [.int .u64 0]⟩),
  (108, ⟨.ptr 54, 1, 8, [.pointer none]⟩),
  (110, ⟨.int .u64, 1, 8, [.int .u64 0]⟩),
  (117, ⟨.int .u16, 1, 2, [.int .u16 0]⟩),
  (119, ⟨.slice 60, 1, 24, [.slice none 0 0]⟩),
  (121, ⟨.func, 1, 8, [.nilFunc]⟩)]
set_option maxRecDepth 100000 in
theorem tab_eq : tabOf Try.prog ts = tab := by kernel_rfl
noncomputable def X : Pr := ⟨Try.prog, ts, tab, tab_eq⟩
theorem mixed : X.P.follows .mixedOrders = true := by kernel_rfl
end Go.Proofs.Yteciepjfbipfgaa
