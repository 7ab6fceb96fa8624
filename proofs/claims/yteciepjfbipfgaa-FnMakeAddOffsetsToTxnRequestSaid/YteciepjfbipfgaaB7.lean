/- The kit's sort.Slice, laid at this program (plain text, printed by a program). -/
import Derived.Test.YteciepjfbipfgaaB5
import Derived.Shelf.GgSortFunc.Whole
import Derived.Shelf.GgSortFunc.Tiny
set_option linter.unusedVariables false
namespace Go.Proofs.Yteciepjfbipfgaa.K
open Go Go.Shelf
noncomputable def sa6_ren : Go.Shelf.Ren :=
  {
    f := fun x =>
      match x with
      | 6 => 99
      | 10 => 101
      | 11 => 102
      | 12 => 103
      | 13 => 104
      | 14 => 105
      | 24 => 98
      | 25 => 115
      | 26 => 116
      | 27 => 117
      | 28 => 118
      | 29 => 119
      | 30 => 120
      | 31 => 121
      | 32 => 122
      | 33 => 123
      | 34 => 124
      | 35 => 125
      | 36 => 126
      | 37 => 127
      | 38 => 128
      | 39 => 129
      | n => n,
    t := fun x =>
      match x with
      | 20 => 20
      | 26 => 121
      | 35 => 125
      | 0 => 0
      | 37 => 127
      | 3 => 3
      | 41 => 110
      | 44 => 132
      | 49 => 60
      | 51 => 101
      | 4 => 4
      | 54 => 139
      | 53 => 138
      | 58 => 143
      | 5 => 5
      | 9 => 9
      | 60 => 145
      | 64 => 149
      | 66 => 151
      | 67 => 152
      | 17 => 17
      | 32 => 122
      | 33 => 123
      | 82 => 167
      | 12 => 12
      | 75 => 160
      | 76 => 161
      | 77 => 162
      | 78 => 163
      | 79 => 164
      | 80 => 165
      | n => n,
    g := fun x => x }
set_option maxRecDepth 100000 in
theorem sa6 : LaysGg.n6 Try.prog sa6_ren :=
  { mixed := by kernel_rfl,
    f6 :=
      Eq.trans Try.func99
        (congrArg Option.some (by kernel_rfl)),
    f10 :=
      Eq.trans Try.func101
        (congrArg Option.some (by kernel_rfl)),
    f11 :=
      Eq.trans Try.func102
        (congrArg Option.some (by kernel_rfl)),
    f12 :=
      Eq.trans Try.func103
        (congrArg Option.some (by kernel_rfl)),
    f13 :=
      Eq.trans Try.func104
        (congrArg Option.some (by kernel_rfl)),
    f14 :=
      Eq.trans Try.func105
        (congrArg Option.some (by kernel_rfl)),
    f24 :=
      Eq.trans Try.func98
        (congrArg Option.some (by kernel_rfl)),
    f25 :=
      Eq.trans Try.func115
        (congrArg Option.some (by kernel_rfl)),
    f26 :=
      Eq.trans Try.func116
        (congrArg Option.some (by kernel_rfl)),
    f27 :=
      Eq.trans Try.func117
        (congrArg Option.some (by kernel_rfl)),
    f28 :=
      Eq.trans Try.func118
        (congrArg Option.some (by kernel_rfl)),
    f29 :=
      Eq.trans Try.func119
        (congrArg Option.some (by kernel_rfl)),
    f30 :=
      Eq.trans Try.func120
        (congrArg Option.some (by kernel_rfl)),
    f31 :=
      Eq.trans Try.func121
        (congrArg Option.some (by kernel_rfl)),
    f32 :=
      Eq.trans Try.func122
        (congrArg Option.some (by kernel_rfl)),
    f33 :=
      Eq.trans Try.func123
        (congrArg Option.some (by kernel_rfl)),
    f34 :=
      Eq.trans Try.func124
        (congrArg Option.some (by kernel_rfl)),
    f35 :=
      Eq.trans Try.func125
        (congrArg Option.some (by kernel_rfl)),
    f36 :=
      Eq.trans Try.func126
        (congrArg Option.some (by kernel_rfl)),
    f37 :=
      Eq.trans Try.func127
        (congrArg Option.some (by kernel_rfl)),
    f38 :=
      Eq.trans Try.func128
        (congrArg Option.some (by kernel_rfl)),
    f39 :=
      Eq.trans Try.func129
        (congrArg Option.some (by kernel_rfl)),
    t0 := Try.underlying0, a0 := Try.isAgg0, z0 := Try.sizeOf0,
    v0 := Try.zeroValue0, i0 := by kernel_rfl,
    t3 := Try.underlying3, a3 := Try.isAgg3, z3 := Try.sizeOf3,
    v3 := Try.zeroValue3, i3 := by kernel_rfl,
    t4 := Try.underlying4, a4 := Try.isAgg4, z4 := Try.sizeOf4,
    v4 := Try.zeroValue4, i4 := by kernel_rfl,
    t5 := Try.underlying5, a5 := Try.isAgg5, z5 := Try.sizeOf5,
    v5 := Try.zeroValue5, i5 := by kernel_rfl,
    t9 := Try.underlying9, a9 := Try.isAgg9, z9 := Try.sizeOf9,
    v9 := Try.zeroValue9, i9 := by kernel_rfl,
    t12 := Try.underlying12, a12 := Try.isAgg12, z12 := Try.sizeOf12,
    v12 := Try.zeroValue12, i12 := by kernel_rfl,
    t17 := Try.underlying17, a17 := Try.isAgg17, z17 := Try.sizeOf17,
    v17 := Try.zeroValue17, i17 := by kernel_rfl,
    t20 := Try.underlying20, a20 := Try.isAgg20, z20 := Try.sizeOf20,
    v20 := Try.zeroValue20, i20 := by kernel_rfl,
    t26 := Try.underlying121, a26 := Try.isAgg121, z26 := Try.sizeOf121,
    v26 := Try.zeroValue121, i26 := by kernel_rfl,
    t32 := Try.underlying122, a32 := Try.isAgg122, z32 := Try.sizeOf122,
    v32 := Try.zeroValue122, i32 := by kernel_rfl,
    t33 := Try.underlying123, a33 := Try.isAgg123, z33 := Try.sizeOf123,
    v33 := Try.zeroValue123, i33 := by kernel_rfl,
    t35 := Try.underlying125, a35 := Try.isAgg125, z35 := Try.sizeOf125,
    v35 := Try.zeroValue125,
    i35 :=
      Eq.refl
        (Option.some
          (Option.some
              (Go.Value.agg #[Go.Value.pointer Option.none, Go.Value.pointer Option.none, Go.Value.int Go.IntKind.u64 0]),
            3, 24)),
    t37 := Try.underlying127, a37 := Try.isAgg127, z37 := Try.sizeOf127,
    v37 := Try.zeroValue127, i37 := by kernel_rfl,
    t41 := Try.underlying110, a41 := Try.isAgg110, z41 := Try.sizeOf110,
    v41 := Try.zeroValue110, i41 := by kernel_rfl,
    t44 := Try.underlying132, a44 := Try.isAgg132, z44 := Try.sizeOf132,
    v44 := Try.zeroValue132,
    i44 := by kernel_rfl,
    t49 := Try.underlying60, a49 := Try.isAgg60, z49 := Try.sizeOf60,
    v49 := Try.zeroValue60, i49 := by kernel_rfl,
    t51 := Try.underlying101, a51 := Try.isAgg101, z51 := Try.sizeOf101,
    v51 := Try.zeroValue101, i51 := by kernel_rfl,
    t53 := Try.underlying138, a53 := Try.isAgg138, z53 := Try.sizeOf138,
    v53 := Try.zeroValue138, i53 := by kernel_rfl,
    t54 := Try.underlying139, a54 := Try.isAgg139, z54 := Try.sizeOf139,
    v54 := Try.zeroValue139,
    i54 :=
      Eq.refl
        (Option.some
          (Option.some (Go.Value.tuple #[Go.Value.int Go.IntKind.i64 0, Go.Value.int Go.IntKind.i64 0]), 1, 0)),
    t58 := Try.underlying143, a58 := Try.isAgg143, z58 := Try.sizeOf143,
    v58 := Try.zeroValue143,
    i58 :=
      Eq.refl
        (Option.some (Option.some (Go.Value.tuple #[Go.Value.int Go.IntKind.i64 0, Go.Value.bool Bool.false]), 1, 0)),
    t60 := Try.underlying145, a60 := Try.isAgg145, z60 := Try.sizeOf145,
    v60 := Try.zeroValue145, i60 := by kernel_rfl,
    t64 := Try.underlying149, a64 := Try.isAgg149, z64 := Try.sizeOf149,
    v64 := Try.zeroValue149, i64 := by kernel_rfl,
    t66 := Try.underlying151, a66 := Try.isAgg151, z66 := Try.sizeOf151,
    v66 := Try.zeroValue151, i66 := by kernel_rfl,
    t67 := Try.underlying152, a67 := Try.isAgg152, z67 := Try.sizeOf152,
    v67 := Try.zeroValue152,
    i67 :=
      Eq.refl
        (Option.some
          (Option.some (Go.Value.tuple #[Go.Value.int Go.IntKind.i64 0, Go.Value.int Go.IntKind.i64 0]), 1, 0)),
    t75 := Try.underlying160, a75 := Try.isAgg160, z75 := Try.sizeOf160,
    v75 := Try.zeroValue160, i75 := by kernel_rfl,
    t76 := Try.underlying161, a76 := Try.isAgg161, z76 := Try.sizeOf161,
    v76 := Try.zeroValue161, i76 := by kernel_rfl,
    t77 := Try.underlying162, a77 := Try.isAgg162, z77 := Try.sizeOf162,
    v77 := Try.zeroValue162, i77 := by kernel_rfl,
    t78 := Try.underlying163, a78 := Try.isAgg163, z78 := Try.sizeOf163,
    v78 := Try.zeroValue163, i78 := by kernel_rfl,
    t79 := Try.underlying164, a79 := Try.isAgg164, z79 := Try.sizeOf164,
    v79 := Try.zeroValue164, i79 := by kernel_rfl,
    t80 := Try.underlying165, a80 := Try.isAgg165, z80 := Try.sizeOf165,
    v80 := Try.zeroValue165, i80 := by kernel_rfl,
    t82 := Try.underlying167, a82 := Try.isAgg167, z82 := Try.sizeOf167,
    v82 := Try.zeroValue167,
    i82 :=
      Eq.refl
        (Option.some
          (Option.some
              (Go.Value.agg
                #[Go.Value.int Go.IntKind.u64 0, Go.Value.int Go.IntKind.u64 0, Go.Value.int Go.IntKind.u32 0,
                  Go.Value.int Go.IntKind.u8 0, Go.Value.int Go.IntKind.u8 0, Go.Value.int Go.IntKind.u8 0,
                  Go.Value.int Go.IntKind.u8 0, Go.Value.nilFunc, Go.Value.pointer Option.none,
                  Go.Value.int Go.IntKind.i32 0, Go.Value.int Go.IntKind.i32 0]),
            11, 48)) }
end Go.Proofs.Yteciepjfbipfgaa.K
