/- The kit's sort.Slice, laid at this program (plain text, printed by a program). -/
import Derived.Test.YtlnhbbpmlfaakaaGreatDoorRB5
import Derived.Shelf.GgSortFunc.Whole
import Derived.Shelf.GgSortFunc.Tiny
set_option linter.unusedVariables false
namespace Go.Proofs.YtlnhbbpmlfaakaaGreatDoorR.K
open Go Go.Shelf
noncomputable def sa6_ren : Go.Shelf.Ren :=
  {
    f := fun x =>
      match x with
      | 6 => 113
      | 10 => 115
      | 11 => 116
      | 12 => 117
      | 13 => 118
      | 14 => 119
      | 24 => 112
      | 25 => 129
      | 26 => 130
      | 27 => 131
      | 28 => 132
      | 29 => 133
      | 30 => 134
      | 31 => 135
      | 32 => 136
      | 33 => 137
      | 34 => 138
      | 35 => 139
      | 36 => 140
      | 37 => 141
      | 38 => 142
      | 39 => 143
      | n => n,
    t := fun x =>
      match x with
      | 20 => 20
      | 26 => 163
      | 35 => 167
      | 0 => 0
      | 37 => 169
      | 3 => 3
      | 41 => 92
      | 44 => 174
      | 49 => 59
      | 51 => 75
      | 4 => 4
      | 54 => 181
      | 53 => 180
      | 58 => 185
      | 5 => 5
      | 9 => 9
      | 60 => 187
      | 64 => 191
      | 66 => 193
      | 67 => 194
      | 17 => 17
      | 32 => 164
      | 33 => 165
      | 82 => 154
      | 12 => 12
      | 75 => 147
      | 76 => 148
      | 77 => 149
      | 78 => 150
      | 79 => 151
      | 80 => 152
      | n => n,
    g := fun x => x }
set_option maxRecDepth 100000 in
theorem sa6 : LaysGg.n6 Tryz.prog sa6_ren :=
  { mixed := by kernel_rfl,
    f6 :=
      Eq.trans Tryz.func113
        (congrArg Option.some (by kernel_rfl)),
    f10 :=
      Eq.trans Tryz.func115
        (congrArg Option.some (by kernel_rfl)),
    f11 :=
      Eq.trans Tryz.func116
        (congrArg Option.some (by kernel_rfl)),
    f12 :=
      Eq.trans Tryz.func117
        (congrArg Option.some (by kernel_rfl)),
    f13 :=
      Eq.trans Tryz.func118
        (congrArg Option.some (by kernel_rfl)),
    f14 :=
      Eq.trans Tryz.func119
        (congrArg Option.some (by kernel_rfl)),
    f24 :=
      Eq.trans Tryz.func112
        (congrArg Option.some (by kernel_rfl)),
    f25 :=
      Eq.trans Tryz.func129
        (congrArg Option.some (by kernel_rfl)),
    f26 :=
      Eq.trans Tryz.func130
        (congrArg Option.some (by kernel_rfl)),
    f27 :=
      Eq.trans Tryz.func131
        (congrArg Option.some (by kernel_rfl)),
    f28 :=
      Eq.trans Tryz.func132
        (congrArg Option.some (by kernel_rfl)),
    f29 :=
      Eq.trans Tryz.func133
        (congrArg Option.some (by kernel_rfl)),
    f30 :=
      Eq.trans Tryz.func134
        (congrArg Option.some (by kernel_rfl)),
    f31 :=
      Eq.trans Tryz.func135
        (congrArg Option.some (by kernel_rfl)),
    f32 :=
      Eq.trans Tryz.func136
        (congrArg Option.some (by kernel_rfl)),
    f33 :=
      Eq.trans Tryz.func137
        (congrArg Option.some (by kernel_rfl)),
    f34 :=
      Eq.trans Tryz.func138
        (congrArg Option.some (by kernel_rfl)),
    f35 :=
      Eq.trans Tryz.func139
        (congrArg Option.some (by kernel_rfl)),
    f36 :=
      Eq.trans Tryz.func140
        (congrArg Option.some (by kernel_rfl)),
    f37 :=
      Eq.trans Tryz.func141
        (congrArg Option.some (by kernel_rfl)),
    f38 :=
      Eq.trans Tryz.func142
        (congrArg Option.some (by kernel_rfl)),
    f39 :=
      Eq.trans Tryz.func143
        (congrArg Option.some (by kernel_rfl)),
    t0 := Tryz.underlying0, a0 := Tryz.isAgg0, z0 := Tryz.sizeOf0,
    v0 := Tryz.zeroValue0, i0 := by kernel_rfl,
    t3 := Tryz.underlying3, a3 := Tryz.isAgg3, z3 := Tryz.sizeOf3,
    v3 := Tryz.zeroValue3, i3 := by kernel_rfl,
    t4 := Tryz.underlying4, a4 := Tryz.isAgg4, z4 := Tryz.sizeOf4,
    v4 := Tryz.zeroValue4, i4 := by kernel_rfl,
    t5 := Tryz.underlying5, a5 := Tryz.isAgg5, z5 := Tryz.sizeOf5,
    v5 := Tryz.zeroValue5, i5 := by kernel_rfl,
    t9 := Tryz.underlying9, a9 := Tryz.isAgg9, z9 := Tryz.sizeOf9,
    v9 := Tryz.zeroValue9, i9 := by kernel_rfl,
    t12 := Tryz.underlying12, a12 := Tryz.isAgg12, z12 := Tryz.sizeOf12,
    v12 := Tryz.zeroValue12, i12 := by kernel_rfl,
    t17 := Tryz.underlying17, a17 := Tryz.isAgg17, z17 := Tryz.sizeOf17,
    v17 := Tryz.zeroValue17, i17 := by kernel_rfl,
    t20 := Tryz.underlying20, a20 := Tryz.isAgg20, z20 := Tryz.sizeOf20,
    v20 := Tryz.zeroValue20, i20 := by kernel_rfl,
    t26 := Tryz.underlying163, a26 := Tryz.isAgg163, z26 := Tryz.sizeOf163,
    v26 := Tryz.zeroValue163, i26 := by kernel_rfl,
    t32 := Tryz.underlying164, a32 := Tryz.isAgg164, z32 := Tryz.sizeOf164,
    v32 := Tryz.zeroValue164, i32 := by kernel_rfl,
    t33 := Tryz.underlying165, a33 := Tryz.isAgg165, z33 := Tryz.sizeOf165,
    v33 := Tryz.zeroValue165, i33 := by kernel_rfl,
    t35 := Tryz.underlying167, a35 := Tryz.isAgg167, z35 := Tryz.sizeOf167,
    v35 := Tryz.zeroValue167,
    i35 :=
      Eq.refl
        (Option.some
          (Option.some
              (Go.Value.agg #[Go.Value.pointer Option.none, Go.Value.pointer Option.none, Go.Value.int Go.IntKind.u64 0]),
            3, 24)),
    t37 := Tryz.underlying169, a37 := Tryz.isAgg169, z37 := Tryz.sizeOf169,
    v37 := Tryz.zeroValue169, i37 := by kernel_rfl,
    t41 := Tryz.underlying92, a41 := Tryz.isAgg92, z41 := Tryz.sizeOf92,
    v41 := Tryz.zeroValue92, i41 := by kernel_rfl,
    t44 := Tryz.underlying174, a44 := Tryz.isAgg174, z44 := Tryz.sizeOf174,
    v44 := Tryz.zeroValue174,
    i44 := by kernel_rfl,
    t49 := Tryz.underlying59, a49 := Tryz.isAgg59, z49 := Tryz.sizeOf59,
    v49 := Tryz.zeroValue59, i49 := by kernel_rfl,
    t51 := Tryz.underlying75, a51 := Tryz.isAgg75, z51 := Tryz.sizeOf75,
    v51 := Tryz.zeroValue75, i51 := by kernel_rfl,
    t53 := Tryz.underlying180, a53 := Tryz.isAgg180, z53 := Tryz.sizeOf180,
    v53 := Tryz.zeroValue180, i53 := by kernel_rfl,
    t54 := Tryz.underlying181, a54 := Tryz.isAgg181, z54 := Tryz.sizeOf181,
    v54 := Tryz.zeroValue181,
    i54 :=
      Eq.refl
        (Option.some
          (Option.some (Go.Value.tuple #[Go.Value.int Go.IntKind.i64 0, Go.Value.int Go.IntKind.i64 0]), 1, 0)),
    t58 := Tryz.underlying185, a58 := Tryz.isAgg185, z58 := Tryz.sizeOf185,
    v58 := Tryz.zeroValue185,
    i58 :=
      Eq.refl
        (Option.some (Option.some (Go.Value.tuple #[Go.Value.int Go.IntKind.i64 0, Go.Value.bool Bool.false]), 1, 0)),
    t60 := Tryz.underlying187, a60 := Tryz.isAgg187, z60 := Tryz.sizeOf187,
    v60 := Tryz.zeroValue187, i60 := by kernel_rfl,
    t64 := Tryz.underlying191, a64 := Tryz.isAgg191, z64 := Tryz.sizeOf191,
    v64 := Tryz.zeroValue191, i64 := by kernel_rfl,
    t66 := Tryz.underlying193, a66 := Tryz.isAgg193, z66 := Tryz.sizeOf193,
    v66 := Tryz.zeroValue193, i66 := by kernel_rfl,
    t67 := Tryz.underlying194, a67 := Tryz.isAgg194, z67 := Tryz.sizeOf194,
    v67 := Tryz.zeroValue194,
    i67 :=
      Eq.refl
        (Option.some
          (Option.some (Go.Value.tuple #[Go.Value.int Go.IntKind.i64 0, Go.Value.int Go.IntKind.i64 0]), 1, 0)),
    t75 := Tryz.underlying147, a75 := Tryz.isAgg147, z75 := Tryz.sizeOf147,
    v75 := Tryz.zeroValue147, i75 := by kernel_rfl,
    t76 := Tryz.underlying148, a76 := Tryz.isAgg148, z76 := Tryz.sizeOf148,
    v76 := Tryz.zeroValue148, i76 := by kernel_rfl,
    t77 := Tryz.underlying149, a77 := Tryz.isAgg149, z77 := Tryz.sizeOf149,
    v77 := Tryz.zeroValue149, i77 := by kernel_rfl,
    t78 := Tryz.underlying150, a78 := Tryz.isAgg150, z78 := Tryz.sizeOf150,
    v78 := Tryz.zeroValue150, i78 := by kernel_rfl,
    t79 := Tryz.underlying151, a79 := Tryz.isAgg151, z79 := Tryz.sizeOf151,
    v79 := Tryz.zeroValue151, i79 := by kernel_rfl,
    t80 := Tryz.underlying152, a80 := Tryz.isAgg152, z80 := Tryz.sizeOf152,
    v80 := Tryz.zeroValue152, i80 := by kernel_rfl,
    t82 := Tryz.underlying154, a82 := Tryz.isAgg154, z82 := Tryz.sizeOf154,
    v82 := Tryz.zeroValue154,
    i82 :=
      Eq.refl
        (Option.some
          (Option.some
              (Go.Value.agg
                #[Go.Value.int Go.IntKind.u64 0, Go.Value.int Go.IntKind.u64 0, Go.Value.int Go.IntKind.u32 0,
                  Go.Value.int Go.IntKind.u8 0, Go.Value.int Go.IntKind.u8 0, Go.Value.int Go.IntKind.u8 0,
                  Go.Value.int Go.IntKind.u8 0, Go.Value.nilFunc, Go.Value.pointer Option.none,
                  Go.Value.int Go.IntKind.i32 0, Go.Value.int Go.IntKind.i32 0]),
            11, 48)) }
end Go.Proofs.YtlnhbbpmlfaakaaGreatDoorR.K
