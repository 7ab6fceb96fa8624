/- The kit's sort.Slice, laid at this program (plain text, printed by a program). -/
import Derived.Test.YtepamajphjgigaaGreatDoorB5
import Derived.Shelf.GgSortFunc.Whole
import Derived.Shelf.GgSortFunc.Tiny
set_option linter.unusedVariables false
namespace Go.Proofs.YtepamajphjgigaaGreatDoor.K
open Go Go.Shelf
noncomputable def sa6_ren : Go.Shelf.Ren :=
  {
    f := fun x =>
      match x with
      | 6 => 76
      | 10 => 95
      | 11 => 96
      | 12 => 97
      | 13 => 98
      | 14 => 99
      | 24 => 111
      | 25 => 112
      | 26 => 113
      | 27 => 114
      | 28 => 115
      | 29 => 116
      | 30 => 117
      | 31 => 118
      | 32 => 119
      | 33 => 120
      | 34 => 121
      | 35 => 122
      | 36 => 123
      | 37 => 124
      | 38 => 125
      | 39 => 126
      | n => n,
    t := fun x =>
      match x with
      | 20 => 20
      | 26 => 131
      | 35 => 151
      | 0 => 0
      | 37 => 153
      | 3 => 3
      | 41 => 139
      | 44 => 158
      | 49 => 60
      | 51 => 104
      | 4 => 4
      | 54 => 169
      | 53 => 168
      | 58 => 173
      | 5 => 5
      | 9 => 9
      | 60 => 175
      | 64 => 178
      | 66 => 180
      | 67 => 181
      | 17 => 17
      | 32 => 148
      | 33 => 149
      | 82 => 196
      | 12 => 12
      | 75 => 189
      | 76 => 190
      | 77 => 191
      | 78 => 192
      | 79 => 193
      | 80 => 194
      | n => n,
    g := fun x => x }
set_option maxRecDepth 100000 in
theorem sa6 : LaysGg.n6 Tryz.prog sa6_ren :=
  { mixed := by kernel_rfl,
    f6 :=
      Eq.trans Tryz.func76
        (congrArg Option.some (by kernel_rfl)),
    f10 :=
      Eq.trans Tryz.func95
        (congrArg Option.some (by kernel_rfl)),
    f11 :=
      Eq.trans Tryz.func96
        (congrArg Option.some (by kernel_rfl)),
    f12 :=
      Eq.trans Tryz.func97
        (congrArg Option.some (by kernel_rfl)),
    f13 :=
      Eq.trans Tryz.func98
        (congrArg Option.some (by kernel_rfl)),
    f14 :=
      Eq.trans Tryz.func99
        (congrArg Option.some (by kernel_rfl)),
    f24 :=
      Eq.trans Tryz.func111
        (congrArg Option.some (by kernel_rfl)),
    f25 :=
      Eq.trans Tryz.func112
        (congrArg Option.some (by kernel_rfl)),
    f26 :=
      Eq.trans Tryz.func113
        (congrArg Option.some (by kernel_rfl)),
    f27 :=
      Eq.trans Tryz.func114
        (congrArg Option.some (by kernel_rfl)),
    f28 :=
      Eq.trans Tryz.func115
        (congrArg Option.some (by kernel_rfl)),
    f29 :=
      Eq.trans Tryz.func116
        (congrArg Option.some (by kernel_rfl)),
    f30 :=
      Eq.trans Tryz.func117
        (congrArg Option.some (by kernel_rfl)),
    f31 :=
      Eq.trans Tryz.func118
        (congrArg Option.some (by kernel_rfl)),
    f32 :=
      Eq.trans Tryz.func119
        (congrArg Option.some (by kernel_rfl)),
    f33 :=
      Eq.trans Tryz.func120
        (congrArg Option.some (by kernel_rfl)),
    f34 :=
      Eq.trans Tryz.func121
        (congrArg Option.some (by kernel_rfl)),
    f35 :=
      Eq.trans Tryz.func122
        (congrArg Option.some (by kernel_rfl)),
    f36 :=
      Eq.trans Tryz.func123
        (congrArg Option.some (by kernel_rfl)),
    f37 :=
      Eq.trans Tryz.func124
        (congrArg Option.some (by kernel_rfl)),
    f38 :=
      Eq.trans Tryz.func125
        (congrArg Option.some (by kernel_rfl)),
    f39 :=
      Eq.trans Tryz.func126
        (congrArg Option.some (by kernel_rfl)),
    t0 := Tryz.underlying0, a0 := Tryz.isAgg0, z0 := Tryz.sizeOf0,
    v0 := Tryz.zeroValue0, i0 := by kernel_rfl,
    t3 := Tryz.underlying3, a3 := Tryz.isAgg3, z3 := Tryz.sizeOf3,
    v3 := Tryz.zeroValue3, i3 := by kernel_rfl,
    t4 := Tryz.underlying4, a4 := Tryz.isAgg4, z4 := Tryz.sizeOf4,
    v4 := Tryz.zeroValue4, i4 := by kernel_rfl,
    t5 := Tryz.underlying5, a5 := Tryz.isAgg5, z5 := Tryz.sizeOf5,
    v5 := Tryz.zeroValue5, i5 := by kernel_rfl,
    t9 := Tryz.underlying9, a9 := Tryz.isAgg9, z9 := Tryz.sizeOf9,
    v9 := Tryz.zeroValue9, i9 := by kernel_rfl,
    t12 := Tryz.underlying12, a12 := Tryz.isAgg12, z12 := Tryz.sizeOf12,
    v12 := Tryz.zeroValue12, i12 := by kernel_rfl,
    t17 := Tryz.underlying17, a17 := Tryz.isAgg17, z17 := Tryz.sizeOf17,
    v17 := Tryz.zeroValue17, i17 := by kernel_rfl,
    t20 := Tryz.underlying20, a20 := Tryz.isAgg20, z20 := Tryz.sizeOf20,
    v20 := Tryz.zeroValue20, i20 := by kernel_rfl,
    t26 := Tryz.underlying131, a26 := Tryz.isAgg131, z26 := Tryz.sizeOf131,
    v26 := Tryz.zeroValue131, i26 := by kernel_rfl,
    t32 := Tryz.underlying148, a32 := Tryz.isAgg148, z32 := Tryz.sizeOf148,
    v32 := Tryz.zeroValue148, i32 := by kernel_rfl,
    t33 := Tryz.underlying149, a33 := Tryz.isAgg149, z33 := Tryz.sizeOf149,
    v33 := Tryz.zeroValue149, i33 := by kernel_rfl,
    t35 := Tryz.underlying151, a35 := Tryz.isAgg151, z35 := Tryz.sizeOf151,
    v35 := Tryz.zeroValue151,
    i35 :=
      Eq.refl
        (Option.some
          (Option.some
              (Go.Value.agg #[Go.Value.pointer Option.none, Go.Value.pointer Option.none, Go.Value.int Go.IntKind.u64 0]),
            3, 24)),
    t37 := Tryz.underlying153, a37 := Tryz.isAgg153, z37 := Tryz.sizeOf153,
    v37 := Tryz.zeroValue153, i37 := by kernel_rfl,
    t41 := Tryz.underlying139, a41 := Tryz.isAgg139, z41 := Tryz.sizeOf139,
    v41 := Tryz.zeroValue139, i41 := by kernel_rfl,
    t44 := Tryz.underlying158, a44 := Tryz.isAgg158, z44 := Tryz.sizeOf158,
    v44 := Tryz.zeroValue158,
    i44 := by kernel_rfl,
    t49 := Tryz.underlying60, a49 := Tryz.isAgg60, z49 := Tryz.sizeOf60,
    v49 := Tryz.zeroValue60, i49 := by kernel_rfl,
    t51 := Tryz.underlying104, a51 := Tryz.isAgg104, z51 := Tryz.sizeOf104,
    v51 := Tryz.zeroValue104, i51 := by kernel_rfl,
    t53 := Tryz.underlying168, a53 := Tryz.isAgg168, z53 := Tryz.sizeOf168,
    v53 := Tryz.zeroValue168, i53 := by kernel_rfl,
    t54 := Tryz.underlying169, a54 := Tryz.isAgg169, z54 := Tryz.sizeOf169,
    v54 := Tryz.zeroValue169,
    i54 :=
      Eq.refl
        (Option.some
          (Option.some (Go.Value.tuple #[Go.Value.int Go.IntKind.i64 0, Go.Value.int Go.IntKind.i64 0]), 1, 0)),
    t58 := Tryz.underlying173, a58 := Tryz.isAgg173, z58 := Tryz.sizeOf173,
    v58 := Tryz.zeroValue173,
    i58 :=
      Eq.refl
        (Option.some (Option.some (Go.Value.tuple #[Go.Value.int Go.IntKind.i64 0, Go.Value.bool Bool.false]), 1, 0)),
    t60 := Tryz.underlying175, a60 := Tryz.isAgg175, z60 := Tryz.sizeOf175,
    v60 := Tryz.zeroValue175, i60 := by kernel_rfl,
    t64 := Tryz.underlying178, a64 := Tryz.isAgg178, z64 := Tryz.sizeOf178,
    v64 := Tryz.zeroValue178, i64 := by kernel_rfl,
    t66 := Tryz.underlying180, a66 := Tryz.isAgg180, z66 := Tryz.sizeOf180,
    v66 := Tryz.zeroValue180, i66 := by kernel_rfl,
    t67 := Tryz.underlying181, a67 := Tryz.isAgg181, z67 := Tryz.sizeOf181,
    v67 := Tryz.zeroValue181,
    i67 :=
      Eq.refl
        (Option.some
          (Option.some (Go.Value.tuple #[Go.Value.int Go.IntKind.i64 0, Go.Value.int Go.IntKind.i64 0]), 1, 0)),
    t75 := Tryz.underlying189, a75 := Tryz.isAgg189, z75 := Tryz.sizeOf189,
    v75 := Tryz.zeroValue189, i75 := by kernel_rfl,
    t76 := Tryz.underlying190, a76 := Tryz.isAgg190, z76 := Tryz.sizeOf190,
    v76 := Tryz.zeroValue190, i76 := by kernel_rfl,
    t77 := Tryz.underlying191, a77 := Tryz.isAgg191, z77 := Tryz.sizeOf191,
    v77 := Tryz.zeroValue191, i77 := by kernel_rfl,
    t78 := Tryz.underlying192, a78 := Tryz.isAgg192, z78 := Tryz.sizeOf192,
    v78 := Tryz.zeroValue192, i78 := by kernel_rfl,
    t79 := Tryz.underlying193, a79 := Tryz.isAgg193, z79 := Tryz.sizeOf193,
    v79 := Tryz.zeroValue193, i79 := by kernel_rfl,
    t80 := Tryz.underlying194, a80 := Tryz.isAgg194, z80 := Tryz.sizeOf194,
    v80 := Tryz.zeroValue194, i80 := by kernel_rfl,
    t82 := Tryz.underlying196, a82 := Tryz.isAgg196, z82 := Tryz.sizeOf196,
    v82 := Tryz.zeroValue196,
    i82 :=
      Eq.refl
        (Option.some
          (Option.some
              (Go.Value.agg
                #[Go.Value.int Go.IntKind.u64 0, Go.Value.int Go.IntKind.u64 0, Go.Value.int Go.IntKind.u32 0,
                  Go.Value.int Go.IntKind.u8 0, Go.Value.int Go.IntKind.u8 0, Go.Value.int Go.IntKind.u8 0,
                  Go.Value.int Go.IntKind.u8 0, Go.Value.nilFunc, Go.Value.pointer Option.none,
                  Go.Value.int Go.IntKind.i32 0, Go.Value.int Go.IntKind.i32 0]),
            11, 48)) }
end Go.Proofs.YtepamajphjgigaaGreatDoor.K
