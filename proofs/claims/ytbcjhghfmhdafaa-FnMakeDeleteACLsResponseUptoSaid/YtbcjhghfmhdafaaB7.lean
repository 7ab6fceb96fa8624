/- The kit's sort.Slice, laid at this program (plain text, printed by a program). -/
import Derived.Test.YtbcjhghfmhdafaaB5
import Derived.Shelf.GgSortFunc.Whole
import Derived.Shelf.GgSortFunc.Tiny
set_option linter.unusedVariables false
namespace Go.Proofs.Ytbcjhghfmhdafaa.K
open Go Go.Shelf
noncomputable def sa6_ren : Go.Shelf.Ren :=
  {
    f := fun x =>
      match x with
      | 6 => 62
      | 10 => 64
      | 11 => 65
      | 12 => 66
      | 13 => 67
      | 14 => 68
      | 24 => 61
      | 25 => 78
      | 26 => 79
      | 27 => 80
      | 28 => 81
      | 29 => 82
      | 30 => 83
      | 31 => 84
      | 32 => 85
      | 33 => 86
      | 34 => 87
      | 35 => 88
      | 36 => 89
      | 37 => 90
      | 38 => 91
      | 39 => 92
      | n => n,
    t := fun x =>
      match x with
      | 20 => 20
      | 26 => 115
      | 35 => 119
      | 0 => 0
      | 37 => 121
      | 3 => 3
      | 41 => 107
      | 44 => 126
      | 49 => 61
      | 51 => 100
      | 4 => 4
      | 54 => 133
      | 53 => 132
      | 58 => 137
      | 5 => 5
      | 9 => 9
      | 60 => 139
      | 64 => 143
      | 66 => 145
      | 67 => 146
      | 17 => 17
      | 32 => 116
      | 33 => 117
      | 82 => 161
      | 12 => 12
      | 75 => 154
      | 76 => 155
      | 77 => 156
      | 78 => 157
      | 79 => 158
      | 80 => 159
      | n => n,
    g := fun x => x }
set_option maxRecDepth 100000 in
theorem sa6 : LaysGg.n6 Try.prog sa6_ren :=
  { mixed := by kernel_rfl,
    f6 :=
      Eq.trans Try.func62
        (congrArg Option.some (by kernel_rfl)),
    f10 :=
      Eq.trans Try.func64
        (congrArg Option.some (by kernel_rfl)),
    f11 :=
      Eq.trans Try.func65
        (congrArg Option.some (by kernel_rfl)),
    f12 :=
      Eq.trans Try.func66
        (congrArg Option.some (by kernel_rfl)),
    f13 :=
      Eq.trans Try.func67
        (congrArg Option.some (by kernel_rfl)),
    f14 :=
      Eq.trans Try.func68
        (congrArg Option.some (by kernel_rfl)),
    f24 :=
      Eq.trans Try.func61
        (congrArg Option.some (by kernel_rfl)),
    f25 :=
      Eq.trans Try.func78
        (congrArg Option.some (by kernel_rfl)),
    f26 :=
      Eq.trans Try.func79
        (congrArg Option.some (by kernel_rfl)),
    f27 :=
      Eq.trans Try.func80
        (congrArg Option.some (by kernel_rfl)),
    f28 :=
      Eq.trans Try.func81
        (congrArg Option.some (by kernel_rfl)),
    f29 :=
      Eq.trans Try.func82
        (congrArg Option.some (by kernel_rfl)),
    f30 :=
      Eq.trans Try.func83
        (congrArg Option.some (by kernel_rfl)),
    f31 :=
      Eq.trans Try.func84
        (congrArg Option.some (by kernel_rfl)),
    f32 :=
      Eq.trans Try.func85
        (congrArg Option.some (by kernel_rfl)),
    f33 :=
      Eq.trans Try.func86
        (congrArg Option.some (by kernel_rfl)),
    f34 :=
      Eq.trans Try.func87
        (congrArg Option.some (by kernel_rfl)),
    f35 :=
      Eq.trans Try.func88
        (congrArg Option.some (by kernel_rfl)),
    f36 :=
      Eq.trans Try.func89
        (congrArg Option.some (by kernel_rfl)),
    f37 :=
      Eq.trans Try.func90
        (congrArg Option.some (by kernel_rfl)),
    f38 :=
      Eq.trans Try.func91
        (congrArg Option.some (by kernel_rfl)),
    f39 :=
      Eq.trans Try.func92
        (congrArg Option.some (by kernel_rfl)),
    t0 := Try.underlying0, a0 := Try.isAgg0, z0 := Try.sizeOf0,
    v0 := Try.zeroValue0, i0 := by kernel_rfl,
    t3 := Try.underlying3, a3 := Try.isAgg3, z3 := Try.sizeOf3,
    v3 := Try.zeroValue3, i3 := by kernel_rfl,
    t4 := Try.underlying4, a4 := Try.isAgg4, z4 := Try.sizeOf4,
    v4 := Try.zeroValue4, i4 := by kernel_rfl,
    t5 := Try.underlying5, a5 := Try.isAgg5, z5 := Try.sizeOf5,
    v5 := Try.zeroValue5, i5 := by kernel_rfl,
    t9 := Try.underlying9, a9 := Try.isAgg9, z9 := Try.sizeOf9,
    v9 := Try.zeroValue9, i9 := by kernel_rfl,
    t12 := Try.underlying12, a12 := Try.isAgg12, z12 := Try.sizeOf12,
    v12 := Try.zeroValue12, i12 := by kernel_rfl,
    t17 := Try.underlying17, a17 := Try.isAgg17, z17 := Try.sizeOf17,
    v17 := Try.zeroValue17, i17 := by kernel_rfl,
    t20 := Try.underlying20, a20 := Try.isAgg20, z20 := Try.sizeOf20,
    v20 := Try.zeroValue20, i20 := by kernel_rfl,
    t26 := Try.underlying115, a26 := Try.isAgg115, z26 := Try.sizeOf115,
    v26 := Try.zeroValue115, i26 := by kernel_rfl,
    t32 := Try.underlying116, a32 := Try.isAgg116, z32 := Try.sizeOf116,
    v32 := Try.zeroValue116, i32 := by kernel_rfl,
    t33 := Try.underlying117, a33 := Try.isAgg117, z33 := Try.sizeOf117,
    v33 := Try.zeroValue117, i33 := by kernel_rfl,
    t35 := Try.underlying119, a35 := Try.isAgg119, z35 := Try.sizeOf119,
    v35 := Try.zeroValue119,
    i35 :=
      Eq.refl
        (Option.some
          (Option.some
              (Go.Value.agg #[Go.Value.pointer Option.none, Go.Value.pointer Option.none, Go.Value.int Go.IntKind.u64 0]),
            3, 24)),
    t37 := Try.underlying121, a37 := Try.isAgg121, z37 := Try.sizeOf121,
    v37 := Try.zeroValue121, i37 := by kernel_rfl,
    t41 := Try.underlying107, a41 := Try.isAgg107, z41 := Try.sizeOf107,
    v41 := Try.zeroValue107, i41 := by kernel_rfl,
    t44 := Try.underlying126, a44 := Try.isAgg126, z44 := Try.sizeOf126,
    v44 := Try.zeroValue126,
    i44 := by kernel_rfl,
    t49 := Try.underlying61, a49 := Try.isAgg61, z49 := Try.sizeOf61,
    v49 := Try.zeroValue61, i49 := by kernel_rfl,
    t51 := Try.underlying100, a51 := Try.isAgg100, z51 := Try.sizeOf100,
    v51 := Try.zeroValue100, i51 := by kernel_rfl,
    t53 := Try.underlying132, a53 := Try.isAgg132, z53 := Try.sizeOf132,
    v53 := Try.zeroValue132, i53 := by kernel_rfl,
    t54 := Try.underlying133, a54 := Try.isAgg133, z54 := Try.sizeOf133,
    v54 := Try.zeroValue133,
    i54 :=
      Eq.refl
        (Option.some
          (Option.some (Go.Value.tuple #[Go.Value.int Go.IntKind.i64 0, Go.Value.int Go.IntKind.i64 0]), 1, 0)),
    t58 := Try.underlying137, a58 := Try.isAgg137, z58 := Try.sizeOf137,
    v58 := Try.zeroValue137,
    i58 :=
      Eq.refl
        (Option.some (Option.some (Go.Value.tuple #[Go.Value.int Go.IntKind.i64 0, Go.Value.bool Bool.false]), 1, 0)),
    t60 := Try.underlying139, a60 := Try.isAgg139, z60 := Try.sizeOf139,
    v60 := Try.zeroValue139, i60 := by kernel_rfl,
    t64 := Try.underlying143, a64 := Try.isAgg143, z64 := Try.sizeOf143,
    v64 := Try.zeroValue143, i64 := by kernel_rfl,
    t66 := Try.underlying145, a66 := Try.isAgg145, z66 := Try.sizeOf145,
    v66 := Try.zeroValue145, i66 := by kernel_rfl,
    t67 := Try.underlying146, a67 := Try.isAgg146, z67 := Try.sizeOf146,
    v67 := Try.zeroValue146,
    i67 :=
      Eq.refl
        (Option.some
          (Option.some (Go.Value.tuple #[Go.Value.int Go.IntKind.i64 0, Go.Value.int Go.IntKind.i64 0]), 1, 0)),
    t75 := Try.underlying154, a75 := Try.isAgg154, z75 := Try.sizeOf154,
    v75 := Try.zeroValue154, i75 := by kernel_rfl,
    t76 := Try.underlying155, a76 := Try.isAgg155, z76 := Try.sizeOf155,
    v76 := Try.zeroValue155, i76 := by kernel_rfl,
    t77 := Try.underlying156, a77 := Try.isAgg156, z77 := Try.sizeOf156,
    v77 := Try.zeroValue156, i77 := by kernel_rfl,
    t78 := Try.underlying157, a78 := Try.isAgg157, z78 := Try.sizeOf157,
    v78 := Try.zeroValue157, i78 := by kernel_rfl,
    t79 := Try.underlying158, a79 := Try.isAgg158, z79 := Try.sizeOf158,
    v79 := Try.zeroValue158, i79 := by kernel_rfl,
    t80 := Try.underlying159, a80 := Try.isAgg159, z80 := Try.sizeOf159,
    v80 := Try.zeroValue159, i80 := by kernel_rfl,
    t82 := Try.underlying161, a82 := Try.isAgg161, z82 := Try.sizeOf161,
    v82 := Try.zeroValue161,
    i82 :=
      Eq.refl
        (Option.some
          (Option.some
              (Go.Value.agg
                #[Go.Value.int Go.IntKind.u64 0, Go.Value.int Go.IntKind.u64 0, Go.Value.int Go.IntKind.u32 0,
                  Go.Value.int Go.IntKind.u8 0, Go.Value.int Go.IntKind.u8 0, Go.Value.int Go.IntKind.u8 0,
                  Go.Value.int Go.IntKind.u8 0, Go.Value.nilFunc, Go.Value.pointer Option.none,
                  Go.Value.int Go.IntKind.i32 0, Go.Value.int Go.IntKind.i32 0]),
            11, 48)) }
end Go.Proofs.Ytbcjhghfmhdafaa.K
