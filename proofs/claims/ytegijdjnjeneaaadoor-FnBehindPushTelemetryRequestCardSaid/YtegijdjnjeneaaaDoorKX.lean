/- The program of this seat, with the rows of the types that its code uses. -/
import Derived.Test.YtegijdjnjeneaaaDoorProg
import Derived.Test.YtegijdjnjeneaaaDoorK8
namespace Go.Proofs.YtegijdjnjeneaaaDoor
open Go K
noncomputable def ts : List Nat := [2, 3, 4, 5, 9, 20, 21, 22, 23, 24, 26, 29, 31, 40, 41, 45, 49, 52, 54, 56, 57, 58, 60, 62, 69, 84, 86, 93, 96, 98, 101, 104, 106]
noncomputable def tab : Tab := [
  (2, ⟨.int .i64, 1, 8, [.int .i64 0]⟩),
  (3, ⟨.int .i64, 1, 8, [.int .i64 0]⟩),
  (4, ⟨.bool, 1, 1, [.bool false]⟩),
  (5, ⟨.int .u8, 1, 1, [.int .u8 0]⟩),
  (9, ⟨.str, 1, 16, [.string ⟨#[]⟩]⟩),
  (20, ⟨.iface, 1, 16, [.nilIface]⟩),
  (21, ⟨.int .i32, 1, 4, [.int .i32 0]⟩),
  (22, ⟨.slice 5, 1, 24, [.slice none 0 0]⟩),
  (23, ⟨.slice 26, 1, 24, [.slice none 0 0]⟩),
  (24, ⟨.slice 54, 1, 24, [.slice none 0 0]⟩),
  (26, ⟨.strct [(0, 2), (1, 22), (2, 4), (3, 23), (4, 24)], 5, 88, [.int .i64 0, .slice none 0 0, .bool false, .slice none 0 0, .slice none 0 0]⟩),
  (29, ⟨.slice 45, 1, 24, [.slice none 0 0]⟩),
  (31, ⟨.strct [(0, 29), (1, 3)], 2, 32, [.slice none 0 0, .int .i64 0]⟩),
  (40, ⟨.int .i16, 1, 2, [.int .i16 0]⟩),
  (41, ⟨.ptr 62, 1, 8, [.pointer none]⟩),
  (45, ⟨.strct [(0, 3), (1, 3), (2, 3), (3, 3), (4, 3), (5, 2), (6, 3), (7, 29)], 8, 80, [.int .i64 0, .int .i64 0, .int .i64 0, .int .i64 0, .int .i64 0, .int .i64 0, .int .i64 0, .slice none 0 0]⟩),
  (49, ⟨.iface, 1, 16, [.nilIface]⟩),
  (52, ⟨.int .u32, 1, 4, [.int .u32 0]⟩),
  (54, ⟨.strct [(0, 52), (1, 22)], 2, 32, [.int .u32 0, .slice none 0 0]⟩),
  (56, ⟨.arr 16 5, 16, 16, [.int .u8 0, .int .u8 0, .int .u8 0, .int .u8 0, .int .u8 0, .int .u8 0, .int .u8 0, .int .u8 0, .int .u8 0, .int .u8 0, .int .u8 0, .int .u8 0, .int .u8 0, .int .u8 0, .int .u8 0, .int .u8 0]⟩),
  (57, ⟨.int .i8, 1, 1, [.int .i8 0]⟩),
  (58, ⟨.map 52 22, 1, 8, [.map none]⟩),
  (60, ⟨.strct [(0, 58)], 1, 8, [.map none]⟩),
  (62, ⟨.strct [(0, 40), (1, 56), (17, 21), (18, 4), (19, 57), (20, 22), (21, 60)], 22, 64, [.int .i16 0, .int .u8 0, .int .u8 0, .int .u8 0, .int .u8 0, .int .u8 0, .int .u8 0, .int .u8 0, .int .u8 0, .int .u8 0, .int .u8 0, .int .u8 0, .int .u8 0, .int .u8 0, .int .u8 0, .int .u8 0, .int .u8 0, .int .i32 0, .bool false, .int .i8 0, .slice none 0 0, .map none]⟩),
  (69, ⟨.int .u64, 1, 8, [.int .u64 0]⟩),
  (84, ⟨.int .u64, 1, 8, [.int .u64 0]⟩),
  (86, ⟨.strct [(0, 22), (1, 4)], 2, 32, [.slice none 0 0, .bool false]⟩),
  (93, ⟨.ptr 86, 1, 8, [.pointer none]⟩),
  (96, ⟨.ptr 60, 1, 8, [.pointer none]⟩),
  (98, ⟨.func, 1, 8, [.nilFunc]⟩),
  (101, ⟨.strct [], 0, 0, []⟩),
  (104, ⟨.slice 52, 1, 24, [.slice none 0 0]⟩),
  (106, ⟨.func, 1, 8, [.nilFunc]⟩)]
set_option maxRecDepth 100000 in
theorem tab_eq : tabOf Tryd.prog ts = tab := by kernel_rfl
noncomputable def X : Pr := ⟨Tryd.prog, ts, tab, tab_eq⟩
theorem mixed : X.P.follows .mixedOrders = true := by kernel_rfl
end Go.Proofs.YtegijdjnjeneaaaDoor
