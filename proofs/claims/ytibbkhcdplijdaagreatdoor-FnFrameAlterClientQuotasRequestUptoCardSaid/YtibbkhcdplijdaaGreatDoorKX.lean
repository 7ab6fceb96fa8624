/- The program of this seat, with the rows of the types that its code uses. -/
import Derived.Test.YtibbkhcdplijdaaGreatDoorProg
import Derived.Test.YtibbkhcdplijdaaGreatDoorK8
namespace Go.Proofs.YtibbkhcdplijdaaGreatDoor
open Go K
noncomputable def ts : List Nat := [2, 3, 4, 5, 9, 20, 21, 23, 24, 25, 26, 28, 32, 34, 45, 46, 51, 55, 59, 61, 63, 64, 66, 68, 74, 79, 80, 83, 91, 93, 97, 98, 99, 101, 102, 103, 105, 109, 110, 111, 113, 115, 117, 118, 120, 127, 131, 137, 140, 164, 166]
noncomputable def tab : Tab := [
  (2, ⟨.int .i64, 1, 8, [.int .i64 0]⟩),
  (3, ⟨.int .i64, 1, 8, [.int .i64 0]⟩),
  (4, ⟨.bool, 1, 1, [.bool false]⟩),
  (5, ⟨.int .u8, 1, 1, [.int .u8 0]⟩),
  (9, ⟨.str, 1, 16, [.string ⟨#[]⟩]⟩),
  (20, ⟨.iface, 1, 16, [.nilIface]⟩),
  (21, ⟨.int .i32, 1, 4, [.int .i32 0]⟩),
  (23, ⟨.strct [(0, 4), (1, 9)], 2, 24, [.bool false, .string ⟨#[]⟩]⟩),
  (24, ⟨.slice 5, 1, 24, [.slice none 0 0]⟩),
  (25, ⟨.slice 28, 1, 24, [.slice none 0 0]⟩),
  (26, ⟨.slice 61, 1, 24, [.slice none 0 0]⟩),
  (28, ⟨.strct [(0, 2), (1, 24), (2, 4), (3, 25), (4, 26)], 5, 88, [.int .i64 0, .slice none 0 0, .bool false, .slice none 0 0, .slice none 0 0]⟩),
  (32, ⟨.slice 51, 1, 24, [.slice none 0 0]⟩),
  (34, ⟨.strct [(0, 32), (1, 3)], 2, 32, [.slice none 0 0, .int .i64 0]⟩),
  (45, ⟨.int .i16, 1, 2, [.int .i16 0]⟩),
  (46, ⟨.ptr 68, 1, 8, [.pointer none]⟩),
  (51, ⟨.strct [(0, 3), (1, 3), (2, 3), (3, 3), (4, 3), (5, 2), (6, 3), (7, 32)], 8, 80, [.int .i64 0, .int .i64 0, .int .i64 0, .int .i64 0, .int .i64 0, .int .i64 0, .int .i64 0, .slice none 0 0]⟩),
  (55, ⟨.iface, 1, 16, [.nilIface]⟩),
  (59, ⟨.int .u32, 1, 4, [.int .u32 0]⟩),
  (61, ⟨.strct [(0, 59), (1, 24)], 2, 32, [.int .u32 0, .slice none 0 0]⟩),
  (63, ⟨.slice 101, 1, 24, [.slice none 0 0]⟩),
  (64, ⟨.map 59 24, 1, 8, [.map none]⟩),
  (66, ⟨.strct [(0, 64)], 1, 8, [.map none]⟩),
  (68, ⟨.strct [(0, 45), (1, 63), (2, 4), (3, 66)], 4, 48, [.int .i16 0, .slice none 0 0, .bool false, .map none]⟩),
  (74, ⟨.int .u64, 1, 8, [.int .u64 0]⟩),
  (79, ⟨.iface, 1, 16, [.nilIface]⟩),
  (80, ⟨.ptr 117, 1, 8, [.pointer none]⟩),
  (83, ⟨.iface, 1, 16, [.nilIface]⟩),
  (91, ⟨.int .u64, 1, 8, [.int .u64 0]⟩),
  (93, ⟨.strct [(0, 24), (1, 4)], 2, 32, [.slice none 0 0, .bool false]⟩),
  (97, ⟨.ptr 101, 1, 8, [.pointer none]⟩),
  (98, ⟨.slice 105, 1, 24, [.slice none 0 0]⟩),
  (99, ⟨.slice 113, 1, 24, [.slice none 0 0]⟩),
  (101, ⟨.strct [(0, 98), (1, 99), (2, 66)], 3, 56, [.slice none 0 0, .slice none 0 0, .map none]⟩),
  (102, ⟨.ptr 105, 1, 8, [.pointer none]⟩),
  (103, ⟨.ptr 9, 1, 8, [.pointer none]⟩),
  (105, ⟨.strct [(0, 9), (1, 103), (2, 66)], 3, 32, [.string ⟨#[]⟩, .pointer none, .map none]⟩),
  (109, ⟨.ptr 93, 1, 8, [.pointer none]⟩),
  (110, ⟨.ptr 113, 1, 8, [.pointer none]⟩),
  (111, ⟨.float .f64, 1, 8, [.float .f64 0]⟩),
  (113, ⟨.strct [(0, 9), (1, 111), (2, 4), (3, 66)], 4, 40, [.string ⟨#[]⟩, .float .f64 0, .bool false, .map none]⟩),
  (115, ⟨.slice 83, 1, 24, [.slice none 0 0]⟩),
  (117, ⟨.strct [(0, 103)], 1, 8, [.pointer none]⟩),
  (118, ⟨.func, 1, 8, [.nilFunc]⟩),
  (120, ⟨.strct [(0, 118)], 1, 8, [.nilFunc]⟩),
  (127, ⟨.func, 1, 8, [.nilFunc]⟩),
  (131, ⟨.int .u16, 1, 2, [.int .u16 0]⟩),
  (137, ⟨.strct [], 0, 0, []⟩),
  (140, ⟨.ptr 66, 1, 8, [.pointer none]⟩),
  (164, ⟨.slice 59, 1, 24, [.slice none 0 0]⟩),
  (166, ⟨.func, 1, 8, [.nilFunc]⟩)]
set_option maxRecDepth 100000 in
theorem tab_eq : tabOf Tryz.prog ts = tab := by kernel_rfl
noncomputable def X : Pr := ⟨Tryz.prog, ts, tab, tab_eq⟩
theorem mixed : X.P.follows .mixedOrders = true := by kernel_rfl
end Go.Proofs.YtibbkhcdplijdaaGreatDoor
