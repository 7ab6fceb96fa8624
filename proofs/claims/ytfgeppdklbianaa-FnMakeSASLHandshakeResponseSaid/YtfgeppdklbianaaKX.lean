/- The program of this seat, with the rows of the types that its code uses. -/
import Derived.Test.YtfgeppdklbianaaProg
import Derived.Test.YtfgeppdklbianaaK8
namespace Go.Proofs.Ytfgeppdklbianaa
open Go K
noncomputable def ts : List Nat := [2, 3, 4, 5, 9, 21, 22, 23, 24, 26, 28, 30, 34, 35, 37, 46, 47, 48, 50, 53, 55, 56, 61, 64, 66, 82, 84, 89]
noncomputable def tab : Tab := [
  (2, ⟨.int .i64, 1, 8, [.int .i64 0]⟩),
  (3, ⟨.int .i64, 1, 8, [.int .i64 0]⟩),
  (4, ⟨.bool, 1, 1, [.bool false]⟩),
  (5, ⟨.int .u8, 1, 1, [.int .u8 0]⟩),
  (9, ⟨.str, 1, 16, [.string ⟨#[]⟩]⟩),
  (21, ⟨.int .i32, 1, 4, [.int .i32 0]⟩),
  (22, ⟨.slice 5, 1, 24, [.slice none 0 0]⟩),
  (23, ⟨.slice 26, 1, 24, [.slice none 0 0]⟩),
  (24, ⟨.slice 55, 1, 24, [.slice none 0 0]⟩),
  (26, ⟨.strct [(0, 2), (1, 22), (2, 4), (3, 23), (4, 24)], 5, 88, [.int .i64 0, .slice none 0 0, .bool false, .slice none 0 0, .slice none 0 0]⟩),
  (28, ⟨.slice 46, 1, 24, [.slice none 0 0]⟩),
  (30, ⟨.strct [(0, 28), (1, 3)], 2, 32, [.slice none 0 0, .int .i64 0]⟩),
  (34, ⟨.slice 37, 1, 24, [.slice none 0 0]⟩),
  (35, ⟨.slice 56, 1, 24, [.slice none 0 0]⟩),
  (37, ⟨.strct [(0, 2), (1, 22), (2, 4), (3, 34), (4, 35)], 5, 88, [.int .i64 0, .slice none 0 0, .bool false, .slice none 0 0, .slice none 0 0]⟩),
  (46, ⟨.strct [(0, 3), (1, 3), (2, 3), (3, 3), (4, 3), (5, 2), (6, 3), (7, 28)], 8, 80, [.int .i64 0, .int .i64 0, .int .i64 0, .int .i64 0, .int .i64 0, .int .i64 0, .int .i64 0, .slice none 0 0]⟩),
  (47, ⟨.ptr 50, 1, 8, [.pointer none]⟩),
  (48, ⟨.int .i16, 1, 2, [.int .i16 0]⟩),
  (50, ⟨.strct [(0, 48), (1, 9)], 2, 24, [.int .i16 0, .string ⟨#[]⟩]⟩),
  (53, ⟨.int .u32, 1, 4, [.int .u32 0]⟩),
  (55, ⟨.strct [(0, 53), (1, 22)], 2, 32, [.int .u32 0, .slice none 0 0]⟩),
  (56, ⟨.strct [(0, 53), (1, 22)], 2, 32, [.int .u32 0, .slice none 0 0]⟩),
  (61, ⟨.ptr 66, 1, 8, [.pointer none]⟩),
  (64, ⟨.slice 9, 1, 24, [.slice none 0 0]⟩),
  (66, ⟨.strct [(0, 48), (1, 48), (2, 64)], 3, 32, [.int .i16 0, .int .i16 0, .slice none 0 0]⟩),
  (82, ⟨.int .u64, 1, 8, [.int .u64 0]⟩),
  (84, ⟨.int .u16, 1, 2, [.int .u16 0]⟩),
  (89, ⟨.int .u64, 1, 8, [.int .u64 0]⟩)]
set_option maxRecDepth 100000 in
theorem tab_eq : tabOf Try.prog ts = tab := by kernel_rfl
noncomputable def X : Pr := ⟨Try.prog, ts, tab, tab_eq⟩
theorem mixed : X.P.follows .mixedOrders = true := by kernel_rfl
end Go.Proofs.Ytfgeppdklbianaa
