/- The kit's sort.Slice, laid at this program (plain text, printed by a program). -/
import Derived.Test.YtgfkjnbhcekfkaaGreatDoorB5
import Derived.Shelf.GgSortFunc.Whole
import Derived.Shelf.GgSortFunc.Tiny
set_option linter.unusedVariables false
namespace Go.Proofs.YtgfkjnbhcekfkaaGreatDoor.K
open Go Go.Shelf
noncomputable def sa6_ren : Go.Shelf.Ren :=
  {
    f := fun x =>
      match x with
      | 6 => 121
      | 10 => 123
      | 11 => 124
      | 12 => 125
      | 13 => 126
      | 14 => 127
      | 24 => 120
      | 25 => 137
      | 26 => 138
      | 27 => 139
      | 28 => 140
      | 29 => 141
      | 30 => 142
      | 31 => 143
      | 32 => 144
      | 33 => 145
      | 34 => 146
      | 35 => 147
      | 36 => 148
      | 37 => 149
      | 38 => 150
      | 39 => 151
      | n => n,
    t := fun x =>
      match x with
      | 20 => 20
      | 26 => 175
      | 35 => 179
      | 0 => 0
      | 37 => 181
      | 3 => 3
      | 41 => 97
      | 44 => 186
      | 49 => 59
      | 51 => 79
      | 4 => 4
      | 54 => 193
      | 53 => 192
      | 58 => 197
      | 5 => 5
      | 9 => 9
      | 60 => 199
      | 64 => 202
      | 66 => 204
      | 67 => 205
      | 17 => 17
      | 32 => 176
      | 33 => 177
      | 82 => 162
      | 12 => 12
      | 75 => 155
      | 76 => 156
      | 77 => 157
      | 78 => 158
      | 79 => 159
      | 80 => 160
      | n => n,
    g := fun x => x }
set_option maxRecDepth 100000 in
theorem sa6 : LaysGg.n6 Tryz.prog sa6_ren :=
  { mixed := by kernel_rfl,
    f6 :=
      Eq.trans Tryz.func121
        (congrArg Option.some (by kernel_rfl)),
    f10 :=
      Eq.trans Tryz.func123
        (congrArg Option.some (by kernel_rfl)),
    f11 :=
      Eq.trans Tryz.func124
        (congrArg Option.some (by kernel_rfl)),
    f12 :=
      Eq.trans Tryz.func125
        (congrArg Option.some (by kernel_rfl)),
    f13 :=
      Eq.trans Tryz.func126
        (congrArg Option.some (by kernel_rfl)),
    f14 :=
      Eq.trans Tryz.func127
        (congrArg Option.some (by kernel_rfl)),
    f24 :=
      Eq.trans Tryz.func120
        (congrArg Option.some (by kernel_rfl)),
    f25 :=
      Eq.trans Tryz.func137
        (congrArg Option.some (by kernel_rfl)),
    f26 :=
      Eq.trans Tryz.func138
        (congrArg Option.some (by kernel_rfl)),
    f27 :=
      Eq.trans Tryz.func139
        (congrArg Option.some (by kernel_rfl)),
    f28 :=
      Eq.trans Tryz.func140
        (congrArg Option.some (by kernel_rfl)),
    f29 :=
      Eq.trans Tryz.func141
        (congrArg Option.some (by kernel_rfl)),
    f30 :=
      Eq.trans Tryz.func142
        (congrArg Option.some (by kernel_rfl)),
    f31 :=
      Eq.trans Tryz.func143
        (congrArg Option.some (by kernel_rfl)),
    f32 :=
      Eq.trans Tryz.func144
        (congrArg Option.some (by kernel_rfl)),
    f33 :=
      Eq.trans Tryz.func145
        (congrArg Option.some (by kernel_rfl)),
    f34 :=
      Eq.trans Tryz.func146
        (congrArg Option.some (by kernel_rfl)),
    f35 :=
      Eq.trans Tryz.func147
        (congrArg Option.some (by kernel_rfl)),
    f36 :=
      Eq.trans Tryz.func148
        (congrArg Option.some (by kernel_rfl)),
    f37 :=
      Eq.trans Tryz.func149
        (congrArg Option.some (by kernel_rfl)),
    f38 :=
      Eq.trans Tryz.func150
        (congrArg Option.some (by kernel_rfl)),
    f39 :=
      Eq.trans Tryz.func151
        (congrArg Option.some (by kernel_rfl)),
    t0 := Tryz.underlying0, a0 := Tryz.isAgg0, z0 := Tryz.sizeOf0,
    v0 := Tryz.zeroValue0, i0 := by kernel_rfl,
    t3 := Tryz.underlying3, a3 := Tryz.isAgg3, z3 := Tryz.sizeOf3,
    v3 := Tryz.zeroValue3, i3 := by kernel_rfl,
    t4 := Tryz.underlying4, a4 := Tryz.isAgg4, z4 := Tryz.sizeOf4,
    v4 := Tryz.zeroValue4, i4 := by kernel_rfl,
    t5 := Tryz.underlying5, a5 := Tryz.isAgg5, z5 := Tryz.sizeOf5,
    v5 := Tryz.zeroValue5, i5 := by kernel_rfl,
    t9 := Tryz.underlying9, a9 := Tryz.isAgg9, z9 := Tryz.sizeOf9,
    v9 := Tryz.zeroValue9, i9 := by kernel_rfl,
    t12 := Tryz.underlying12, a12 := Tryz.isAgg12, z12 := Tryz.sizeOf12,
    v12 := Tryz.zeroValue12, i12 := by kernel_rfl,
    t17 := Tryz.underlying17, a17 := Tryz.isAgg17, z17 := Tryz.sizeOf17,
    v17 := Tryz.zeroValue17, i17 := by kernel_rfl,
    t20 := Tryz.underlying20, a20 := Tryz.isAgg20, z20 := Tryz.sizeOf20,
    v20 := Tryz.zeroValue20, i20 := by kernel_rfl,
    t26 := Tryz.underlying175, a26 := Tryz.isAgg175, z26 := Tryz.sizeOf175,
    v26 := Tryz.zeroValue175, i26 := by kernel_rfl,
    t32 := Tryz.underlying176, a32 := Tryz.isAgg176, z32 := Tryz.sizeOf176,
    v32 := Tryz.zeroValue176, i32 := by kernel_rfl,
    t33 := Tryz.underlying177, a33 := Tryz.isAgg177, z33 := Tryz.sizeOf177,
    v33 := Tryz.zeroValue177, i33 := by kernel_rfl,
    t35 := Tryz.underlying179, a35 := Tryz.isAgg179, z35 := Tryz.sizeOf179,
    v35 := Tryz.zeroValue179,
    i35 :=
      Eq.refl
        (Option.some
          (Option.some
              (Go.Value.agg #[Go.Value.pointer Option.none, Go.Value.pointer Option.none, Go.Value.int Go.IntKind.u64 0]),
            3, 24)),
    t37 := Tryz.underlying181, a37 := Tryz.isAgg181, z37 := Tryz.sizeOf181,
    v37 := Tryz.zeroValue181, i37 := by kernel_rfl,
    t41 := Tryz.underlying97, a41 := Tryz.isAgg97, z41 := Tryz.sizeOf97,
    v41 := Tryz.zeroValue97, i41 := by kernel_rfl,
    t44 := Tryz.underlying186, a44 := Tryz.isAgg186, z44 := Tryz.sizeOf186,
    v44 := Tryz.zeroValue186,
    i44 := by kernel_rfl,
    t49 := Tryz.underlying59, a49 := Tryz.isAgg59, z49 := Tryz.sizeOf59,
    v49 := Tryz.zeroValue59, i49 := by kernel_rfl,
    t51 := Tryz.underlying79, a51 := Tryz.isAgg79, z51 := Tryz.sizeOf79,
    v51 := Tryz.zeroValue79, i51 := by kernel_rfl,
    t53 := Tryz.underlying192, a53 := Tryz.isAgg192, z53 := Tryz.sizeOf192,
    v53 := Tryz.zeroValue192, i53 := by kernel_rfl,
    t54 := Tryz.underlying193, a54 := Tryz.isAgg193, z54 := Tryz.sizeOf193,
    v54 := Tryz.zeroValue193,
    i54 :=
      Eq.refl
        (Option.some
          (Option.some (Go.Value.tuple #[Go.Value.int Go.IntKind.i64 0, Go.Value.int Go.IntKind.i64 0]), 1, 0)),
    t58 := Tryz.underlying197, a58 := Tryz.isAgg197, z58 := Tryz.sizeOf197,
    v58 := Tryz.zeroValue197,
    i58 :=
      Eq.refl
        (Option.some (Option.some (Go.Value.tuple #[Go.Value.int Go.IntKind.i64 0, Go.Value.bool Bool.false]), 1, 0)),
    t60 := Tryz.underlying199, a60 := Tryz.isAgg199, z60 := Tryz.sizeOf199,
    v60 := Tryz.zeroValue199, i60 := by kernel_rfl,
    t64 := Tryz.underlying202, a64 := Tryz.isAgg202, z64 := Tryz.sizeOf202,
    v64 := Tryz.zeroValue202, i64 := by kernel_rfl,
    t66 := Tryz.underlying204, a66 := Tryz.isAgg204, z66 := Tryz.sizeOf204,
    v66 := Tryz.zeroValue204, i66 := by kernel_rfl,
    t67 := Tryz.underlying205, a67 := Tryz.isAgg205, z67 := Tryz.sizeOf205,
    v67 := Tryz.zeroValue205,
    i67 :=
      Eq.refl
        (Option.some
          (Option.some (Go.Value.tuple #[Go.Value.int Go.IntKind.i64 0, Go.Value.int Go.IntKind.i64 0]), 1, 0)),
    t75 := Tryz.underlying155, a75 := Tryz.isAgg155, z75 := Tryz.sizeOf155,
    v75 := Tryz.zeroValue155, i75 := by kernel_rfl,
    t76 := Tryz.underlying156, a76 := Tryz.isAgg156, z76 := Tryz.sizeOf156,
    v76 := Tryz.zeroValue156, i76 := by kernel_rfl,
    t77 := Tryz.underlying157, a77 := Tryz.isAgg157, z77 := Tryz.sizeOf157,
    v77 := Tryz.zeroValue157, i77 := by kernel_rfl,
    t78 := Tryz.underlying158, a78 := Tryz.isAgg158, z78 := Tryz.sizeOf158,
    v78 := Tryz.zeroValue158, i78 := by kernel_rfl,
    t79 := Tryz.underlying159, a79 := Tryz.isAgg159, z79 := Tryz.sizeOf159,
    v79 := Tryz.zeroValue159, i79 := by kernel_rfl,
    t80 := Tryz.underlying160, a80 := Tryz.isAgg160, z80 := Tryz.sizeOf160,
    v80 := Tryz.zeroValue160, i80 := by kernel_rfl,
    t82 := Tryz.underlying162, a82 := Tryz.isAgg162, z82 := Tryz.sizeOf162,
    v82 := Tryz.zeroValue162,
    i82 :=
      Eq.refl
        (Option.some
          (Option.some
              (Go.Value.agg
                #[Go.Value.int Go.IntKind.u64 0, Go.Value.int Go.IntKind.u64 0, Go.Value.int Go.IntKind.u32 0,
                  Go.Value.int Go.IntKind.u8 0, Go.Value.int Go.IntKind.u8 0, Go.Value.int Go.IntKind.u8 0,
                  Go.Value.int Go.IntKind.u8 0, Go.Value.nilFunc, Go.Value.pointer Option.none,
                  Go.Value.int Go.IntKind.i32 0, Go.Value.int Go.IntKind.i32 0]),
            11, 48)) }
end Go.Proofs.YtgfkjnbhcekfkaaGreatDoor.K
