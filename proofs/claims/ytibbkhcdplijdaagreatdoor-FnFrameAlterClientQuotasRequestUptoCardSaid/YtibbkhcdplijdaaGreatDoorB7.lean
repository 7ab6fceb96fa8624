/- The kit's sort.Slice, laid at this program (plain text, printed by a program). -/
import Derived.Test.YtibbkhcdplijdaaGreatDoorB5
import Derived.Shelf.GgSortFunc.Whole
import Derived.Shelf.GgSortFunc.Tiny
set_option linter.unusedVariables false
namespace Go.Proofs.YtibbkhcdplijdaaGreatDoor.K
open Go Go.Shelf
noncomputable def sa6_ren : Go.Shelf.Ren :=
  {
    f := fun x =>
      match x with
      | 6 => 116
      | 10 => 118
      | 11 => 119
      | 12 => 120
      | 13 => 121
      | 14 => 122
      | 24 => 115
      | 25 => 132
      | 26 => 133
      | 27 => 134
      | 28 => 135
      | 29 => 136
      | 30 => 137
      | 31 => 138
      | 32 => 139
      | 33 => 140
      | 34 => 141
      | 35 => 142
      | 36 => 143
      | 37 => 144
      | 38 => 145
      | 39 => 146
      | n => n,
    t := fun x =>
      match x with
      | 20 => 20
      | 26 => 166
      | 35 => 170
      | 0 => 0
      | 37 => 172
      | 3 => 3
      | 41 => 91
      | 44 => 177
      | 49 => 59
      | 51 => 74
      | 4 => 4
      | 54 => 184
      | 53 => 183
      | 58 => 188
      | 5 => 5
      | 9 => 9
      | 60 => 190
      | 64 => 193
      | 66 => 195
      | 67 => 196
      | 17 => 17
      | 32 => 167
      | 33 => 168
      | 82 => 156
      | 12 => 12
      | 75 => 149
      | 76 => 150
      | 77 => 151
      | 78 => 152
      | 79 => 153
      | 80 => 154
      | n => n,
    g := fun x => x }
set_option maxRecDepth 100000 in
theorem sa6 : LaysGg.n6 Tryz.prog sa6_ren :=
  { mixed := by kernel_rfl,
    f6 :=
      Eq.trans Tryz.func116
        (congrArg Option.some (by kernel_rfl)),
    f10 :=
      Eq.trans Tryz.func118
        (congrArg Option.some (by kernel_rfl)),
    f11 :=
      Eq.trans Tryz.func119
        (congrArg Option.some (by kernel_rfl)),
    f12 :=
      Eq.trans Tryz.func120
        (congrArg Option.some (by kernel_rfl)),
    f13 :=
      Eq.trans Tryz.func121
        (congrArg Option.some (by kernel_rfl)),
    f14 :=
      Eq.trans Tryz.func122
        (congrArg Option.some (by kernel_rfl)),
    f24 :=
      Eq.trans Tryz.func115
        (congrArg Option.some (by kernel_rfl)),
    f25 :=
      Eq.trans Tryz.func132
        (congrArg Option.some (by kernel_rfl)),
    f26 :=
      Eq.trans Tryz.func133
        (congrArg Option.some (by kernel_rfl)),
    f27 :=
      Eq.trans Tryz.func134
        (congrArg Option.some (by kernel_rfl)),
    f28 :=
      Eq.trans Tryz.func135
        (congrArg Option.some (by kernel_rfl)),
    f29 :=
      Eq.trans Tryz.func136
        (congrArg Option.some (by kernel_rfl)),
    f30 :=
      Eq.trans Tryz.func137
        (congrArg Option.some (by kernel_rfl)),
    f31 :=
      Eq.trans Tryz.func138
        (congrArg Option.some (by kernel_rfl)),
    f32 :=
      Eq.trans Tryz.func139
        (congrArg Option.some (by kernel_rfl)),
    f33 :=
      Eq.trans Tryz.func140
        (congrArg Option.some (by kernel_rfl)),
    f34 :=
      Eq.trans Tryz.func141
        (congrArg Option.some (by kernel_rfl)),
    f35 :=
      Eq.trans Tryz.func142
        (congrArg Option.some (by kernel_rfl)),
    f36 :=
      Eq.trans Tryz.func143
        (congrArg Option.some (by kernel_rfl)),
    f37 :=
      Eq.trans Tryz.func144
        (congrArg Option.some (by kernel_rfl)),
    f38 :=
      Eq.trans Tryz.func145
        (congrArg Option.some (by kernel_rfl)),
    f39 :=
      Eq.trans Tryz.func146
        (congrArg Option.some (by kernel_rfl)),
    t0 := Tryz.underlying0, a0 := Tryz.isAgg0, z0 := Tryz.sizeOf0,
    v0 := Tryz.zeroValue0, i0 := by kernel_rfl,
    t3 := Tryz.underlying3, a3 := Tryz.isAgg3, z3 := Tryz.sizeOf3,
    v3 := Tryz.zeroValue3, i3 := by kernel_rfl,
    t4 := Tryz.underlying4, a4 := Tryz.isAgg4, z4 := Tryz.sizeOf4,
    v4 := Tryz.zeroValue4, i4 := by kernel_rfl,
    t5 := Tryz.underlying5, a5 := Tryz.isAgg5, z5 := Tryz.sizeOf5,
    v5 := Tryz.zeroValue5, i5 := by kernel_rfl,
    t9 := Tryz.underlying9, a9 := Tryz.isAgg9, z9 := Tryz.sizeOf9,
    v9 := Tryz.zeroValue9, i9 := by kernel_rfl,
    t12 := Tryz.underlying12, a12 := Tryz.isAgg12, z12 := Tryz.sizeOf12,
    v12 := Tryz.zeroValue12, i12 := by kernel_rfl,
    t17 := Tryz.underlying17, a17 := Tryz.isAgg17, z17 := Tryz.sizeOf17,
    v17 := Tryz.zeroValue17, i17 := by kernel_rfl,
    t20 := Tryz.underlying20, a20 := Tryz.isAgg20, z20 := Tryz.sizeOf20,
    v20 := Tryz.zeroValue20, i20 := by kernel_rfl,
    t26 := Tryz.underlying166, a26 := Tryz.isAgg166, z26 := Tryz.sizeOf166,
    v26 := Tryz.zeroValue166, i26 := by kernel_rfl,
    t32 := Tryz.underlying167, a32 := Tryz.isAgg167, z32 := Tryz.sizeOf167,
    v32 := Tryz.zeroValue167, i32 := by kernel_rfl,
    t33 := Tryz.underlying168, a33 := Tryz.isAgg168, z33 := Tryz.sizeOf168,
    v33 := Tryz.zeroValue168, i33 := by kernel_rfl,
    t35 := Tryz.underlying170, a35 := Tryz.isAgg170, z35 := Tryz.sizeOf170,
    v35 := Tryz.zeroValue170,
    i35 :=
      Eq.refl
        (Option.some
          (Option.some
              (Go.Value.agg #[Go.Value.pointer Option.none, Go.Value.pointer Option.none, Go.Value.int Go.IntKind.u64 0]),
            3, 24)),
    t37 := Tryz.underlying172, a37 := Tryz.isAgg172, z37 := Tryz.sizeOf172,
    v37 := Tryz.zeroValue172, i37 := by kernel_rfl,
    t41 := Tryz.underlying91, a41 := Tryz.isAgg91, z41 := Tryz.sizeOf91,
    v41 := Tryz.zeroValue91, i41 := by kernel_rfl,
    t44 := Tryz.underlying177, a44 := Tryz.isAgg177, z44 := Tryz.sizeOf177,
    v44 := Tryz.zeroValue177,
    i44 := by kernel_rfl,
    t49 := Tryz.underlying59, a49 := Tryz.isAgg59, z49 := Tryz.sizeOf59,
    v49 := Tryz.zeroValue59, i49 := by kernel_rfl,
    t51 := Tryz.underlying74, a51 := Tryz.isAgg74, z51 := Tryz.sizeOf74,
    v51 := Tryz.zeroValue74, i51 := by kernel_rfl,
    t53 := Tryz.underlying183, a53 := Tryz.isAgg183, z53 := Tryz.sizeOf183,
    v53 := Tryz.zeroValue183, i53 := by kernel_rfl,
    t54 := Tryz.underlying184, a54 := Tryz.isAgg184, z54 := Tryz.sizeOf184,
    v54 := Tryz.zeroValue184,
    i54 :=
      Eq.refl
        (Option.some
          (Option.some (Go.Value.tuple #[Go.Value.int Go.IntKind.i64 0, Go.Value.int Go.IntKind.i64 0]), 1, 0)),
    t58 := Tryz.underlying188, a58 := Tryz.isAgg188, z58 := Tryz.sizeOf188,
    v58 := Tryz.zeroValue188,
    i58 :=
      Eq.refl
        (Option.some (Option.some (Go.Value.tuple #[Go.Value.int Go.IntKind.i64 0, Go.Value.bool Bool.false]), 1, 0)),
    t60 := Tryz.underlying190, a60 := Tryz.isAgg190, z60 := Tryz.sizeOf190,
    v60 := Tryz.zeroValue190, i60 := by kernel_rfl,
    t64 := Tryz.underlying193, a64 := Tryz.isAgg193, z64 := Tryz.sizeOf193,
    v64 := Tryz.zeroValue193, i64 := by kernel_rfl,
    t66 := Tryz.underlying195, a66 := Tryz.isAgg195, z66 := Tryz.sizeOf195,
    v66 := Tryz.zeroValue195, i66 := by kernel_rfl,
    t67 := Tryz.underlying196, a67 := Tryz.isAgg196, z67 := Tryz.sizeOf196,
    v67 := Tryz.zeroValue196,
    i67 :=
      Eq.refl
        (Option.some
          (Option.some (Go.Value.tuple #[Go.Value.int Go.IntKind.i64 0, Go.Value.int Go.IntKind.i64 0]), 1, 0)),
    t75 := Tryz.underlying149, a75 := Tryz.isAgg149, z75 := Tryz.sizeOf149,
    v75 := Tryz.zeroValue149, i75 := by kernel_rfl,
    t76 := Tryz.underlying150, a76 := Tryz.isAgg150, z76 := Tryz.sizeOf150,
    v76 := Tryz.zeroValue150, i76 := by kernel_rfl,
    t77 := Tryz.underlying151, a77 := Tryz.isAgg151, z77 := Tryz.sizeOf151,
    v77 := Tryz.zeroValue151, i77 := by kernel_rfl,
    t78 := Tryz.underlying152, a78 := Tryz.isAgg152, z78 := Tryz.sizeOf152,
    v78 := Tryz.zeroValue152, i78 := by kernel_rfl,
    t79 := Tryz.underlying153, a79 := Tryz.isAgg153, z79 := Tryz.sizeOf153,
    v79 := Tryz.zeroValue153, i79 := by kernel_rfl,
    t80 := Tryz.underlying154, a80 := Tryz.isAgg154, z80 := Tryz.sizeOf154,
    v80 := Tryz.zeroValue154, i80 := by kernel_rfl,
    t82 := Tryz.underlying156, a82 := Tryz.isAgg156, z82 := Tryz.sizeOf156,
    v82 := Tryz.zeroValue156,
    i82 :=
      Eq.refl
        (Option.some
          (Option.some
              (Go.Value.agg
                #[Go.Value.int Go.IntKind.u64 0, Go.Value.int Go.IntKind.u64 0, Go.Value.int Go.IntKind.u32 0,
                  Go.Value.int Go.IntKind.u8 0, Go.Value.int Go.IntKind.u8 0, Go.Value.int Go.IntKind.u8 0,
                  Go.Value.int Go.IntKind.u8 0, Go.Value.nilFunc, Go.Value.pointer Option.none,
                  Go.Value.int Go.IntKind.i32 0, Go.Value.int Go.IntKind.i32 0]),
            11, 48)) }
end Go.Proofs.YtibbkhcdplijdaaGreatDoor.K
