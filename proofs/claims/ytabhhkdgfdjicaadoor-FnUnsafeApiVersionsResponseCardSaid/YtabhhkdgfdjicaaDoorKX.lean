/- The program of this seat, with the rows of the types that its code uses. -/
import Derived.Test.YtabhhkdgfdjicaaDoorProg
import Derived.Test.YtabhhkdgfdjicaaDoorK8
namespace Go.Proofs.YtabhhkdgfdjicaaDoor
open Go K
noncomputable def ts : List Nat := [2, 3, 4, 5, 9, 20, 21, 22, 24, 25, 27, 32, 33, 35, 38, 39, 44, 48, 50, 51, 52, 53, 54, 55, 57, 59, 62, 64, 66, 68, 70, 72, 75, 78, 83, 88, 89, 91, 92, 94, 100, 110]
noncomputable def tab : Tab := [
  (2, ⟨.int .i64, 1, 8, [.int .i64 0]⟩),
  (3, ⟨.int .i64, 1, 8, [.int .i64 0]⟩),
  (4, ⟨.bool, 1, 1, [.bool false]⟩),
  (5, ⟨.int .u8, 1, 1, [.int .u8 0]⟩),
  (9, ⟨.str, 1, 16, [.string ⟨#[]⟩]⟩),
  (20, ⟨.iface, 1, 16, [.nilIface]⟩),
  (21, ⟨.int .i32, 1, 4, [.int .i32 0]⟩),
  (22, ⟨.slice 5, 1, 24, [.slice none 0 0]⟩),
  (24, ⟨.slice 27, 1, 24, [.slice none 0 0]⟩),
  (25, ⟨.slice 51, 1, 24, [.slice none 0 0]⟩),
  (27, ⟨.strct [(0, 2), (1, 22), (2, 4), (3, 24), (4, 25)], 5, 88, [.int .i64 0, .slice none 0 0, .bool false, .slice none 0 0, .slice none 0 0]⟩),
  (32, ⟨.slice 35, 1, 24, [.slice none 0 0]⟩),
  (33, ⟨.slice 50, 1, 24, [.slice none 0 0]⟩),
  (35, ⟨.strct [(0, 2), (1, 22), (2, 4), (3, 32), (4, 33)], 5, 88, [.int .i64 0, .slice none 0 0, .bool false, .slice none 0 0, .slice none 0 0]⟩),
  (38, ⟨.int .i16, 1, 2, [.int .i16 0]⟩),
  (39, ⟨.ptr 59, 1, 8, [.pointer none]⟩),
  (44, ⟨.iface, 1, 16, [.nilIface]⟩),
  (48, ⟨.int .u32, 1, 4, [.int .u32 0]⟩),
  (50, ⟨.strct [(0, 48), (1, 22)], 2, 32, [.int .u32 0, .slice none 0 0]⟩),
  (51, ⟨.strct [(0, 48), (1, 22)], 2, 32, [.int .u32 0, .slice none 0 0]⟩),
  (52, ⟨.slice 64, 1, 24, [.slice none 0 0]⟩),
  (53, ⟨.slice 68, 1, 24, [.slice none 0 0]⟩),
  (54, ⟨.slice 72, 1, 24, [.slice none 0 0]⟩),
  (55, ⟨.map 48 22, 1, 8, [.map none]⟩),
  (57, ⟨.strct [(0, 55)], 1, 8, [.map none]⟩),
  (59, ⟨.strct [(0, 38), (1, 38), (2, 52), (3, 21), (4, 53), (5, 2), (6, 54), (7, 4), (8, 57)], 9, 112, [.int .i16 0, .int .i16 0, .slice none 0 0, .int .i32 0, .slice none 0 0, .int .i64 0, .slice none 0 0, .bool false, .map none]⟩),
  (62, ⟨.ptr 64, 1, 8, [.pointer none]⟩),
  (64, ⟨.strct [(0, 38), (1, 38), (2, 38), (3, 57)], 4, 16, [.int .i16 0, .int .i16 0, .int .i16 0, .map none]⟩),
  (66, ⟨.ptr 68, 1, 8, [.pointer none]⟩),
  (68, ⟨.strct [(0, 9), (1, 38), (2, 38), (3, 57)], 4, 32, [.string ⟨#[]⟩, .int .i16 0, .int .i16 0, .map none]⟩),
  (70, ⟨.ptr 72, 1, 8, [.pointer none]⟩),
  (72, ⟨.strct [(0, 9), (1, 38), (2, 38), (3, 57)], 4, 32, [.string ⟨#[]⟩, .int .i16 0, .int .i16 0, .map none]⟩),
  (75, ⟨.func, 1, 8, [.nilFunc]⟩),
  (78, ⟨.strct [(0, 22), (1, 4)], 2, 32, [.slice none 0 0, .bool false]⟩),
  (83, ⟨.ptr 78, 1, 8, [.pointer none]⟩),
  (88, ⟨.ptr 57, 1, 8, [.pointer none]⟩),
  (89, ⟨.slice 48, 1, 24, [.slice none 0 0]⟩),
  (91, ⟨.func, 1, 8, [.nilFunc]⟩),
  (92, ⟨.int .u16, 1, 2, [.int .u16 0]⟩),
  (94, ⟨.strct [], 0, 0, []⟩),
  (100, ⟨.int .u64, 1, 8, [.int .u64 0]⟩),
  (110, ⟨.int .u64, 1, 8, [.int .u64 0]⟩)]
set_option maxRecDepth 100000 in
theorem tab_eq : tabOf Tryd.prog ts = tab := by kernel_rfl
noncomputable def X : Pr := ⟨Tryd.prog, ts, tab, tab_eq⟩
theorem mixed : X.P.follows .mixedOrders = true := by kernel_rfl
end Go.Proofs.YtabhhkdgfdjicaaDoor
