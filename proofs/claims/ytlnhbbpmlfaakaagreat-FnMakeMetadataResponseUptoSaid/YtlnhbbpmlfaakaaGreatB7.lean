/- The kit's sort.Slice, laid at this program (plain text, printed by a program). -/
import Derived.Test.YtlnhbbpmlfaakaaGreatB5
import Derived.Shelf.GgSortFunc.Whole
import Derived.Shelf.GgSortFunc.Tiny
set_option linter.unusedVariables false
namespace Go.Proofs.YtlnhbbpmlfaakaaGreat.K
open Go Go.Shelf
noncomputable def sa6_ren : Go.Shelf.Ren :=
  {
    f := fun x =>
      match x with
      | 6 => 66
      | 10 => 68
      | 11 => 69
      | 12 => 70
      | 13 => 71
      | 14 => 72
      | 24 => 65
      | 25 => 82
      | 26 => 83
      | 27 => 84
      | 28 => 85
      | 29 => 86
      | 30 => 87
      | 31 => 88
      | 32 => 89
      | 33 => 90
      | 34 => 91
      | 35 => 92
      | 36 => 93
      | 37 => 94
      | 38 => 95
      | 39 => 96
      | n => n,
    t := fun x =>
      match x with
      | 20 => 20
      | 26 => 119
      | 35 => 123
      | 0 => 0
      | 37 => 125
      | 3 => 3
      | 41 => 109
      | 44 => 130
      | 49 => 63
      | 51 => 104
      | 4 => 4
      | 54 => 137
      | 53 => 136
      | 58 => 141
      | 5 => 5
      | 9 => 9
      | 60 => 143
      | 64 => 147
      | 66 => 149
      | 67 => 150
      | 17 => 17
      | 32 => 120
      | 33 => 121
      | 82 => 165
      | 12 => 12
      | 75 => 158
      | 76 => 159
      | 77 => 160
      | 78 => 161
      | 79 => 162
      | 80 => 163
      | n => n,
    g := fun x => x }
set_option maxRecDepth 100000 in
theorem sa6 : LaysGg.n6 Tryz.prog sa6_ren :=
  { mixed := by kernel_rfl,
    f6 :=
      Eq.trans Tryz.func66
        (congrArg Option.some (by kernel_rfl)),
    f10 :=
      Eq.trans Tryz.func68
        (congrArg Option.some (by kernel_rfl)),
    f11 :=
      Eq.trans Tryz.func69
        (congrArg Option.some (by kernel_rfl)),
    f12 :=
      Eq.trans Tryz.func70
        (congrArg Option.some (by kernel_rfl)),
    f13 :=
      Eq.trans Tryz.func71
        (congrArg Option.some (by kernel_rfl)),
    f14 :=
      Eq.trans Tryz.func72
        (congrArg Option.some (by kernel_rfl)),
    f24 :=
      Eq.trans Tryz.func65
        (congrArg Option.some (by kernel_rfl)),
    f25 :=
      Eq.trans Tryz.func82
        (congrArg Option.some (by kernel_rfl)),
    f26 :=
      Eq.trans Tryz.func83
        (congrArg Option.some (by kernel_rfl)),
    f27 :=
      Eq.trans Tryz.func84
        (congrArg Option.some (by kernel_rfl)),
    f28 :=
      Eq.trans Tryz.func85
        (congrArg Option.some (by kernel_rfl)),
    f29 :=
      Eq.trans Tryz.func86
        (congrArg Option.some (by kernel_rfl)),
    f30 :=
      Eq.trans Tryz.func87
        (congrArg Option.some (by kernel_rfl)),
    f31 :=
      Eq.trans Tryz.func88
        (congrArg Option.some (by kernel_rfl)),
    f32 :=
      Eq.trans Tryz.func89
        (congrArg Option.some (by kernel_rfl)),
    f33 :=
      Eq.trans Tryz.func90
        (congrArg Option.some (by kernel_rfl)),
    f34 :=
      Eq.trans Tryz.func91
        (congrArg Option.some (by kernel_rfl)),
    f35 :=
      Eq.trans Tryz.func92
        (congrArg Option.some (by kernel_rfl)),
    f36 :=
      Eq.trans Tryz.func93
        (congrArg Option.some (by kernel_rfl)),
    f37 :=
      Eq.trans Tryz.func94
        (congrArg Option.some (by kernel_rfl)),
    f38 :=
      Eq.trans Tryz.func95
        (congrArg Option.some (by kernel_rfl)),
    f39 :=
      Eq.trans Tryz.func96
        (congrArg Option.some (by kernel_rfl)),
    t0 := Tryz.underlying0, a0 := Tryz.isAgg0, z0 := Tryz.sizeOf0,
    v0 := Tryz.zeroValue0, i0 := by kernel_rfl,
    t3 := Tryz.underlying3, a3 := Tryz.isAgg3, z3 := Tryz.sizeOf3,
    v3 := Tryz.zeroValue3, i3 := by kernel_rfl,
    t4 := Tryz.underlying4, a4 := Tryz.isAgg4, z4 := Tryz.sizeOf4,
    v4 := Tryz.zeroValue4, i4 := by kernel_rfl,
    t5 := Tryz.underlying5, a5 := Tryz.isAgg5, z5 := Tryz.sizeOf5,
    v5 := Tryz.zeroValue5, i5 := by kernel_rfl,
    t9 := Tryz.underlying9, a9 := Tryz.isAgg9, z9 := Tryz.sizeOf9,
    v9 := Tryz.zeroValue9, i9 := by kernel_rfl,
    t12 := Tryz.underlying12, a12 := Tryz.isAgg12, z12 := Tryz.sizeOf12,
    v12 := Tryz.zeroValue12, i12 := by kernel_rfl,
    t17 := Tryz.underlying17, a17 := Tryz.isAgg17, z17 := Tryz.sizeOf17,
    v17 := Tryz.zeroValue17, i17 := by kernel_rfl,
    t20 := Tryz.underlying20, a20 := Tryz.isAgg20, z20 := Tryz.sizeOf20,
    v20 := Tryz.zeroValue20, i20 := by kernel_rfl,
    t26 := Tryz.underlying119, a26 := Tryz.isAgg119, z26 := Tryz.sizeOf119,
    v26 := Tryz.zeroValue119, i26 := by kernel_rfl,
    t32 := Tryz.underlying120, a32 := Tryz.isAgg120, z32 := Tryz.sizeOf120,
    v32 := Tryz.zeroValue120, i32 := by kernel_rfl,
    t33 := Tryz.underlying121, a33 := Tryz.isAgg121, z33 := Tryz.sizeOf121,
    v33 := Tryz.zeroValue121, i33 := by kernel_rfl,
    t35 := Tryz.underlying123, a35 := Tryz.isAgg123, z35 := Tryz.sizeOf123,
    v35 := Tryz.zeroValue123,
    i35 :=
      Eq.refl
        (Option.some
          (Option.some
              (Go.Value.agg #[Go.Value.pointer Option.none, Go.Value.pointer Option.none, Go.Value.int Go.IntKind.u64 0]),
            3, 24)),
    t37 := Tryz.underlying125, a37 := Tryz.isAgg125, z37 := Tryz.sizeOf125,
    v37 := Tryz.zeroValue125, i37 := by kernel_rfl,
    t41 := Tryz.underlying109, a41 := Tryz.isAgg109, z41 := Tryz.sizeOf109,
    v41 := Tryz.zeroValue109, i41 := by kernel_rfl,
    t44 := Tryz.underlying130, a44 := Tryz.isAgg130, z44 := Tryz.sizeOf130,
    v44 := Tryz.zeroValue130,
    i44 := by kernel_rfl,
    t49 := Tryz.underlying63, a49 := Tryz.isAgg63, z49 := Tryz.sizeOf63,
    v49 := Tryz.zeroValue63, i49 := by kernel_rfl,
    t51 := Tryz.underlying104, a51 := Tryz.isAgg104, z51 := Tryz.sizeOf104,
    v51 := Tryz.zeroValue104, i51 := by kernel_rfl,
    t53 := Tryz.underlying136, a53 := Tryz.isAgg136, z53 := Tryz.sizeOf136,
    v53 := Tryz.zeroValue136, i53 := by kernel_rfl,
    t54 := Tryz.underlying137, a54 := Tryz.isAgg137, z54 := Tryz.sizeOf137,
    v54 := Tryz.zeroValue137,
    i54 :=
      Eq.refl
        (Option.some
          (Option.some (Go.Value.tuple #[Go.Value.int Go.IntKind.i64 0, Go.Value.int Go.IntKind.i64 0]), 1, 0)),
    t58 := Tryz.underlying141, a58 := Tryz.isAgg141, z58 := Tryz.sizeOf141,
    v58 := Tryz.zeroValue141,
    i58 :=
      Eq.refl
        (Option.some (Option.some (Go.Value.tuple #[Go.Value.int Go.IntKind.i64 0, Go.Value.bool Bool.false]), 1, 0)),
    t60 := Tryz.underlying143, a60 := Tryz.isAgg143, z60 := Tryz.sizeOf143,
    v60 := Tryz.zeroValue143, i60 := by kernel_rfl,
    t64 := Tryz.underlying147, a64 := Tryz.isAgg147, z64 := Tryz.sizeOf147,
    v64 := Tryz.zeroValue147, i64 := by kernel_rfl,
    t66 := Tryz.underlying149, a66 := Tryz.isAgg149, z66 := Tryz.sizeOf149,
    v66 := Tryz.zeroValue149, i66 := by kernel_rfl,
    t67 := Tryz.underlying150, a67 := Tryz.isAgg150, z67 := Tryz.sizeOf150,
    v67 := Tryz.zeroValue150,
    i67 :=
      Eq.refl
        (Option.some
          (Option.some (Go.Value.tuple #[Go.Value.int Go.IntKind.i64 0, Go.Value.int Go.IntKind.i64 0]), 1, 0)),
    t75 := Tryz.underlying158, a75 := Tryz.isAgg158, z75 := Tryz.sizeOf158,
    v75 := Tryz.zeroValue158, i75 := by kernel_rfl,
    t76 := Tryz.underlying159, a76 := Tryz.isAgg159, z76 := Tryz.sizeOf159,
    v76 := Tryz.zeroValue159, i76 := by kernel_rfl,
    t77 := Tryz.underlying160, a77 := Tryz.isAgg160, z77 := Tryz.sizeOf160,
    v77 := Tryz.zeroValue160, i77 := by kernel_rfl,
    t78 := Tryz.underlying161, a78 := Tryz.isAgg161, z78 := Tryz.sizeOf161,
    v78 := Tryz.zeroValue161, i78 := by kernel_rfl,
    t79 := Tryz.underlying162, a79 := Tryz.isAgg162, z79 := Tryz.sizeOf162,
    v79 := Tryz.zeroValue162, i79 := by kernel_rfl,
    t80 := Tryz.underlying163, a80 := Tryz.isAgg163, z80 := Tryz.sizeOf163,
    v80 := Tryz.zeroValue163, i80 := by kernel_rfl,
    t82 := Tryz.underlying165, a82 := Tryz.isAgg165, z82 := Tryz.sizeOf165,
    v82 := Tryz.zeroValue165,
    i82 :=
      Eq.refl
        (Option.some
          (Option.some
              (Go.Value.agg
                #[Go.Value.int Go.IntKind.u64 0, Go.Value.int Go.IntKind.u64 0, Go.Value.int Go.IntKind.u32 0,
                  Go.Value.int Go.IntKind.u8 0, Go.Value.int Go.IntKind.u8 0, Go.Value.int Go.IntKind.u8 0,
                  Go.Value.int Go.IntKind.u8 0, Go.Value.nilFunc, Go.Value.pointer Option.none,
                  Go.Value.int Go.IntKind.i32 0, Go.Value.int Go.IntKind.i32 0]),
            11, 48)) }
end Go.Proofs.YtlnhbbpmlfaakaaGreat.K
