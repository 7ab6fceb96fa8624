/- The kit's sort.Slice, laid at this program (plain text, printed by a program). -/
import Derived.Test.YtanohglljnajiaaGreatDoorB5
import Derived.Shelf.GgSortFunc.Whole
import Derived.Shelf.GgSortFunc.Tiny
set_option linter.unusedVariables false
namespace Go.Proofs.YtanohglljnajiaaGreatDoor.K
open Go Go.Shelf
noncomputable def sa6_ren : Go.Shelf.Ren :=
  {
    f := fun x =>
      match x with
      | 6 => 183
      | 10 => 189
      | 11 => 190
      | 12 => 191
      | 13 => 192
      | 14 => 193
      | 24 => 182
      | 25 => 204
      | 26 => 205
      | 27 => 206
      | 28 => 207
      | 29 => 208
      | 30 => 209
      | 31 => 210
      | 32 => 211
      | 33 => 212
      | 34 => 213
      | 35 => 214
      | 36 => 215
      | 37 => 216
      | 38 => 217
      | 39 => 218
      | n => n,
    t := fun x =>
      match x with
      | 20 => 20
      | 26 => 205
      | 35 => 216
      | 0 => 0
      | 37 => 218
      | 3 => 3
      | 41 => 180
      | 44 => 223
      | 49 => 65
      | 51 => 81
      | 4 => 4
      | 54 => 231
      | 53 => 230
      | 58 => 235
      | 5 => 5
      | 9 => 9
      | 60 => 237
      | 64 => 240
      | 66 => 242
      | 67 => 243
      | 17 => 17
      | 32 => 213
      | 33 => 214
      | 82 => 258
      | 12 => 12
      | 75 => 251
      | 76 => 252
      | 77 => 253
      | 78 => 254
      | 79 => 255
      | 80 => 256
      | n => n,
    g := fun x => x }
set_option maxRecDepth 100000 in
theorem sa6 : LaysGg.n6 Tryz.prog sa6_ren :=
  { mixed := by kernel_rfl,
    f6 :=
      Eq.trans Tryz.func183
        (congrArg Option.some (by kernel_rfl)),
    f10 :=
      Eq.trans Tryz.func189
        (congrArg Option.some (by kernel_rfl)),
    f11 :=
      Eq.trans Tryz.func190
        (congrArg Option.some (by kernel_rfl)),
    f12 :=
      Eq.trans Tryz.func191
        (congrArg Option.some (by kernel_rfl)),
    f13 :=
      Eq.trans Tryz.func192
        (congrArg Option.some (by kernel_rfl)),
    f14 :=
      Eq.trans Tryz.func193
        (congrArg Option.some (by kernel_rfl)),
    f24 :=
      Eq.trans Tryz.func182
        (congrArg Option.some (by kernel_rfl)),
    f25 :=
      Eq.trans Tryz.func204
        (congrArg Option.some (by kernel_rfl)),
    f26 :=
      Eq.trans Tryz.func205
        (congrArg Option.some (by kernel_rfl)),
    f27 :=
      Eq.trans Tryz.func206
        (congrArg Option.some (by kernel_rfl)),
    f28 :=
      Eq.trans Tryz.func207
        (congrArg Option.some (by kernel_rfl)),
    f29 :=
      Eq.trans Tryz.func208
        (congrArg Option.some (by kernel_rfl)),
    f30 :=
      Eq.trans Tryz.func209
        (congrArg Option.some (by kernel_rfl)),
    f31 :=
      Eq.trans Tryz.func210
        (congrArg Option.some (by kernel_rfl)),
    f32 :=
      Eq.trans Tryz.func211
        (congrArg Option.some (by kernel_rfl)),
    f33 :=
      Eq.trans Tryz.func212
        (congrArg Option.some (by kernel_rfl)),
    f34 :=
      Eq.trans Tryz.func213
        (congrArg Option.some (by kernel_rfl)),
    f35 :=
      Eq.trans Tryz.func214
        (congrArg Option.some (by kernel_rfl)),
    f36 :=
      Eq.trans Tryz.func215
        (congrArg Option.some (by kernel_rfl)),
    f37 :=
      Eq.trans Tryz.func216
        (congrArg Option.some (by kernel_rfl)),
    f38 :=
      Eq.trans Tryz.func217
        (congrArg Option.some (by kernel_rfl)),
    f39 :=
      Eq.trans Tryz.func218
        (congrArg Option.some (by kernel_rfl)),
    t0 := Tryz.underlying0, a0 := Tryz.isAgg0, z0 := Tryz.sizeOf0,
    v0 := Tryz.zeroValue0, i0 := by kernel_rfl,
    t3 := Tryz.underlying3, a3 := Tryz.isAgg3, z3 := Tryz.sizeOf3,
    v3 := Tryz.zeroValue3, i3 := by kernel_rfl,
    t4 := Tryz.underlying4, a4 := Tryz.isAgg4, z4 := Tryz.sizeOf4,
    v4 := Tryz.zeroValue4, i4 := by kernel_rfl,
    t5 := Tryz.underlying5, a5 := Tryz.isAgg5, z5 := Tryz.sizeOf5,
    v5 := Tryz.zeroValue5, i5 := by kernel_rfl,
    t9 := Tryz.underlying9, a9 := Tryz.isAgg9, z9 := Tryz.sizeOf9,
    v9 := Tryz.zeroValue9, i9 := by kernel_rfl,
    t12 := Tryz.underlying12, a12 := Tryz.isAgg12, z12 := Tryz.sizeOf12,
    v12 := Tryz.zeroValue12, i12 := by kernel_rfl,
    t17 := Tryz.underlying17, a17 := Tryz.isAgg17, z17 := Tryz.sizeOf17,
    v17 := Tryz.zeroValue17, i17 := by kernel_rfl,
    t20 := Tryz.underlying20, a20 := Tryz.isAgg20, z20 := Tryz.sizeOf20,
    v20 := Tryz.zeroValue20, i20 := by kernel_rfl,
    t26 := Tryz.underlying205, a26 := Tryz.isAgg205, z26 := Tryz.sizeOf205,
    v26 := Tryz.zeroValue205, i26 := by kernel_rfl,
    t32 := Tryz.underlying213, a32 := Tryz.isAgg213, z32 := Tryz.sizeOf213,
    v32 := Tryz.zeroValue213, i32 := by kernel_rfl,
    t33 := Tryz.underlying214, a33 := Tryz.isAgg214, z33 := Tryz.sizeOf214,
    v33 := Tryz.zeroValue214, i33 := by kernel_rfl,
    t35 := Tryz.underlying216, a35 := Tryz.isAgg216, z35 := Tryz.sizeOf216,
    v35 := Tryz.zeroValue216,
    i35 :=
      Eq.refl
        (Option.some
          (Option.some
              (Go.Value.agg #[Go.Value.pointer Option.none, Go.Value.pointer Option.none, Go.Value.int Go.IntKind.u64 0]),
            3, 24)),
    t37 := Tryz.underlying218, a37 := Tryz.isAgg218, z37 := Tryz.sizeOf218,
    v37 := Tryz.zeroValue218, i37 := by kernel_rfl,
    t41 := Tryz.underlying180, a41 := Tryz.isAgg180, z41 := Tryz.sizeOf180,
    v41 := Tryz.zeroValue180, i41 := by kernel_rfl,
    t44 := Tryz.underlying223, a44 := Tryz.isAgg223, z44 := Tryz.sizeOf223,
    v44 := Tryz.zeroValue223,
    i44 := by kernel_rfl,
    t49 := Tryz.underlying65, a49 := Tryz.isAgg65, z49 := Tryz.sizeOf65,
    v49 := Tryz.zeroValue65, i49 := by kernel_rfl,
    t51 := Tryz.underlying81, a51 := Tryz.isAgg81, z51 := Tryz.sizeOf81,
    v51 := Tryz.zeroValue81, i51 := by kernel_rfl,
    t53 := Tryz.underlying230, a53 := Tryz.isAgg230, z53 := Tryz.sizeOf230,
    v53 := Tryz.zeroValue230, i53 := by kernel_rfl,
    t54 := Tryz.underlying231, a54 := Tryz.isAgg231, z54 := Tryz.sizeOf231,
    v54 := Tryz.zeroValue231,
    i54 :=
      Eq.refl
        (Option.some
          (Option.some (Go.Value.tuple #[Go.Value.int Go.IntKind.i64 0, Go.Value.int Go.IntKind.i64 0]), 1, 0)),
    t58 := Tryz.underlying235, a58 := Tryz.isAgg235, z58 := Tryz.sizeOf235,
    v58 := Tryz.zeroValue235,
    i58 :=
      Eq.refl
        (Option.some (Option.some (Go.Value.tuple #[Go.Value.int Go.IntKind.i64 0, Go.Value.bool Bool.false]), 1, 0)),
    t60 := Tryz.underlying237, a60 := Tryz.isAgg237, z60 := Tryz.sizeOf237,
    v60 := Tryz.zeroValue237, i60 := by kernel_rfl,
    t64 := Tryz.underlying240, a64 := Tryz.isAgg240, z64 := Tryz.sizeOf240,
    v64 := Tryz.zeroValue240, i64 := by kernel_rfl,
    t66 := Tryz.underlying242, a66 := Tryz.isAgg242, z66 := Tryz.sizeOf242,
    v66 := Tryz.zeroValue242, i66 := by kernel_rfl,
    t67 := Tryz.underlying243, a67 := Tryz.isAgg243, z67 := Tryz.sizeOf243,
    v67 := Tryz.zeroValue243,
    i67 :=
      Eq.refl
        (Option.some
          (Option.some (Go.Value.tuple #[Go.Value.int Go.IntKind.i64 0, Go.Value.int Go.IntKind.i64 0]), 1, 0)),
    t75 := Tryz.underlying251, a75 := Tryz.isAgg251, z75 := Tryz.sizeOf251,
    v75 := Tryz.zeroValue251, i75 := by kernel_rfl,
    t76 := Tryz.underlying252, a76 := Tryz.isAgg252, z76 := Tryz.sizeOf252,
    v76 := Tryz.zeroValue252, i76 := by kernel_rfl,
    t77 := Tryz.underlying253, a77 := Tryz.isAgg253, z77 := Tryz.sizeOf253,
    v77 := Tryz.zeroValue253, i77 := by kernel_rfl,
    t78 := Tryz.underlying254, a78 := Tryz.isAgg254, z78 := Tryz.sizeOf254,
    v78 := Tryz.zeroValue254, i78 := by kernel_rfl,
    t79 := Tryz.underlying255, a79 := Tryz.isAgg255, z79 := Tryz.sizeOf255,
    v79 := Tryz.zeroValue255, i79 := by kernel_rfl,
    t80 := Tryz.underlying256, a80 := Tryz.isAgg256, z80 := Tryz.sizeOf256,
    v80 := Tryz.zeroValue256, i80 := by kernel_rfl,
    t82 := Tryz.underlying258, a82 := Tryz.isAgg258, z82 := Tryz.sizeOf258,
    v82 := Tryz.zeroValue258,
    i82 :=
      Eq.refl
        (Option.some
          (Option.some
              (Go.Value.agg
                #[Go.Value.int Go.IntKind.u64 0, Go.Value.int Go.IntKind.u64 0, Go.Value.int Go.IntKind.u32 0,
                  Go.Value.int Go.IntKind.u8 0, Go.Value.int Go.IntKind.u8 0, Go.Value.int Go.IntKind.u8 0,
                  Go.Value.int Go.IntKind.u8 0, Go.Value.nilFunc, Go.Value.pointer Option.none,
                  Go.Value.int Go.IntKind.i32 0, Go.Value.int Go.IntKind.i32 0]),
            11, 48)) }
end Go.Proofs.YtanohglljnajiaaGreatDoor.K
