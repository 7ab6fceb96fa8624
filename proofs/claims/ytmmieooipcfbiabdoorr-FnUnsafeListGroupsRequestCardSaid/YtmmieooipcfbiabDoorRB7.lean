/- The kit's sort.Slice, laid at this program (plain text, printed by a program). -/
import Derived.Test.YtmmieooipcfbiabDoorRB5
import Derived.Shelf.GgSortFunc.Whole
import Derived.Shelf.GgSortFunc.Tiny
set_option linter.unusedVariables false
namespace Go.Proofs.YtmmieooipcfbiabDoorR.K
open Go Go.Shelf
noncomputable def sa6_ren : Go.Shelf.Ren :=
  {
    f := fun x =>
      match x with
      | 6 => 69
      | 10 => 95
      | 11 => 96
      | 12 => 97
      | 13 => 98
      | 14 => 99
      | 24 => 113
      | 25 => 114
      | 26 => 115
      | 27 => 116
      | 28 => 117
      | 29 => 118
      | 30 => 119
      | 31 => 120
      | 32 => 121
      | 33 => 122
      | 34 => 123
      | 35 => 124
      | 36 => 125
      | 37 => 126
      | 38 => 127
      | 39 => 128
      | n => n,
    t := fun x =>
      match x with
      | 20 => 20
      | 26 => 102
      | 35 => 123
      | 0 => 0
      | 37 => 125
      | 3 => 3
      | 41 => 128
      | 44 => 131
      | 49 => 48
      | 51 => 116
      | 4 => 4
      | 54 => 143
      | 53 => 142
      | 58 => 147
      | 5 => 5
      | 9 => 9
      | 60 => 149
      | 64 => 152
      | 66 => 154
      | 67 => 155
      | 17 => 17
      | 32 => 120
      | 33 => 121
      | 82 => 170
      | 12 => 12
      | 75 => 163
      | 76 => 164
      | 77 => 165
      | 78 => 166
      | 79 => 167
      | 80 => 168
      | n => n,
    g := fun x => x }
set_option maxRecDepth 100000 in
theorem sa6 : LaysGg.n6 Tryd.prog sa6_ren :=
  { mixed := by kernel_rfl,
    f6 :=
      Eq.trans Tryd.func69
        (congrArg Option.some (by kernel_rfl)),
    f10 :=
      Eq.trans Tryd.func95
        (congrArg Option.some (by kernel_rfl)),
    f11 :=
      Eq.trans Tryd.func96
        (congrArg Option.some (by kernel_rfl)),
    f12 :=
      Eq.trans Tryd.func97
        (congrArg Option.some (by kernel_rfl)),
    f13 :=
      Eq.trans Tryd.func98
        (congrArg Option.some (by kernel_rfl)),
    f14 :=
      Eq.trans Tryd.func99
        (congrArg Option.some (by kernel_rfl)),
    f24 :=
      Eq.trans Tryd.func113
        (congrArg Option.some (by kernel_rfl)),
    f25 :=
      Eq.trans Tryd.func114
        (congrArg Option.some (by kernel_rfl)),
    f26 :=
      Eq.trans Tryd.func115
        (congrArg Option.some (by kernel_rfl)),
    f27 :=
      Eq.trans Tryd.func116
        (congrArg Option.some (by kernel_rfl)),
    f28 :=
      Eq.trans Tryd.func117
        (congrArg Option.some (by kernel_rfl)),
    f29 :=
      Eq.trans Tryd.func118
        (congrArg Option.some (by kernel_rfl)),
    f30 :=
      Eq.trans Tryd.func119
        (congrArg Option.some (by kernel_rfl)),
    f31 :=
      Eq.trans Tryd.func120
        (congrArg Option.some (by kernel_rfl)),
    f32 :=
      Eq.trans Tryd.func121
        (congrArg Option.some (by kernel_rfl)),
    f33 :=
      Eq.trans Tryd.func122
        (congrArg Option.some (by kernel_rfl)),
    f34 :=
      Eq.trans Tryd.func123
        (congrArg Option.some (by kernel_rfl)),
    f35 :=
      Eq.trans Tryd.func124
        (congrArg Option.some (by kernel_rfl)),
    f36 :=
      Eq.trans Tryd.func125
        (congrArg Option.some (by kernel_rfl)),
    f37 :=
      Eq.trans Tryd.func126
        (congrArg Option.some (by kernel_rfl)),
    f38 :=
      Eq.trans Tryd.func127
        (congrArg Option.some (by kernel_rfl)),
    f39 :=
      Eq.trans Tryd.func128
        (congrArg Option.some (by kernel_rfl)),
    t0 := Tryd.underlying0, a0 := Tryd.isAgg0, z0 := Tryd.sizeOf0,
    v0 := Tryd.zeroValue0, i0 := by kernel_rfl,
    t3 := Tryd.underlying3, a3 := Tryd.isAgg3, z3 := Tryd.sizeOf3,
    v3 := Tryd.zeroValue3, i3 := by kernel_rfl,
    t4 := Tryd.underlying4, a4 := Tryd.isAgg4, z4 := Tryd.sizeOf4,
    v4 := Tryd.zeroValue4, i4 := by kernel_rfl,
    t5 := Tryd.underlying5, a5 := Tryd.isAgg5, z5 := Tryd.sizeOf5,
    v5 := Tryd.zeroValue5, i5 := by kernel_rfl,
    t9 := Tryd.underlying9, a9 := Tryd.isAgg9, z9 := Tryd.sizeOf9,
    v9 := Tryd.zeroValue9, i9 := by kernel_rfl,
    t12 := Tryd.underlying12, a12 := Tryd.isAgg12, z12 := Tryd.sizeOf12,
    v12 := Tryd.zeroValue12, i12 := by kernel_rfl,
    t17 := Tryd.underlying17, a17 := Tryd.isAgg17, z17 := Tryd.sizeOf17,
    v17 := Tryd.zeroValue17, i17 := by kernel_rfl,
    t20 := Tryd.underlying20, a20 := Tryd.isAgg20, z20 := Tryd.sizeOf20,
    v20 := Tryd.zeroValue20, i20 := by kernel_rfl,
    t26 := Tryd.underlying102, a26 := Tryd.isAgg102, z26 := Tryd.sizeOf102,
    v26 := Tryd.zeroValue102, i26 := by kernel_rfl,
    t32 := Tryd.underlying120, a32 := Tryd.isAgg120, z32 := Tryd.sizeOf120,
    v32 := Tryd.zeroValue120, i32 := by kernel_rfl,
    t33 := Tryd.underlying121, a33 := Tryd.isAgg121, z33 := Tryd.sizeOf121,
    v33 := Tryd.zeroValue121, i33 := by kernel_rfl,
    t35 := Tryd.underlying123, a35 := Tryd.isAgg123, z35 := Tryd.sizeOf123,
    v35 := Tryd.zeroValue123,
    i35 :=
      Eq.refl
        (Option.some
          (Option.some
              (Go.Value.agg #[Go.Value.pointer Option.none, Go.Value.pointer Option.none, Go.Value.int Go.IntKind.u64 0]),
            3, 24)),
    t37 := Tryd.underlying125, a37 := Tryd.isAgg125, z37 := Tryd.sizeOf125,
    v37 := Tryd.zeroValue125, i37 := by kernel_rfl,
    t41 := Tryd.underlying128, a41 := Tryd.isAgg128, z41 := Tryd.sizeOf128,
    v41 := Tryd.zeroValue128, i41 := by kernel_rfl,
    t44 := Tryd.underlying131, a44 := Tryd.isAgg131, z44 := Tryd.sizeOf131,
    v44 := Tryd.zeroValue131,
    i44 := by kernel_rfl,
    t49 := Tryd.underlying48, a49 := Tryd.isAgg48, z49 := Tryd.sizeOf48,
    v49 := Tryd.zeroValue48, i49 := by kernel_rfl,
    t51 := Tryd.underlying116, a51 := Tryd.isAgg116, z51 := Tryd.sizeOf116,
    v51 := Tryd.zeroValue116, i51 := by kernel_rfl,
    t53 := Tryd.underlying142, a53 := Tryd.isAgg142, z53 := Tryd.sizeOf142,
    v53 := Tryd.zeroValue142, i53 := by kernel_rfl,
    t54 := Tryd.underlying143, a54 := Tryd.isAgg143, z54 := Tryd.sizeOf143,
    v54 := Tryd.zeroValue143,
    i54 :=
      Eq.refl
        (Option.some
          (Option.some (Go.Value.tuple #[Go.Value.int Go.IntKind.i64 0, Go.Value.int Go.IntKind.i64 0]), 1, 0)),
    t58 := Tryd.underlying147, a58 := Tryd.isAgg147, z58 := Tryd.sizeOf147,
    v58 := Tryd.zeroValue147,
    i58 :=
      Eq.refl
        (Option.some (Option.some (Go.Value.tuple #[Go.Value.int Go.IntKind.i64 0, Go.Value.bool Bool.false]), 1, 0)),
    t60 := Tryd.underlying149, a60 := Tryd.isAgg149, z60 := Tryd.sizeOf149,
    v60 := Tryd.zeroValue149, i60 := by kernel_rfl,
    t64 := Tryd.underlying152, a64 := Tryd.isAgg152, z64 := Tryd.sizeOf152,
    v64 := Tryd.zeroValue152, i64 := by kernel_rfl,
    t66 := Tryd.underlying154, a66 := Tryd.isAgg154, z66 := Tryd.sizeOf154,
    v66 := Tryd.zeroValue154, i66 := by kernel_rfl,
    t67 := Tryd.underlying155, a67 := Tryd.isAgg155, z67 := Tryd.sizeOf155,
    v67 := Tryd.zeroValue155,
    i67 :=
      Eq.refl
        (Option.some
          (Option.some (Go.Value.tuple #[Go.Value.int Go.IntKind.i64 0, Go.Value.int Go.IntKind.i64 0]), 1, 0)),
    t75 := Tryd.underlying163, a75 := Tryd.isAgg163, z75 := Tryd.sizeOf163,
    v75 := Tryd.zeroValue163, i75 := by kernel_rfl,
    t76 := Tryd.underlying164, a76 := Tryd.isAgg164, z76 := Tryd.sizeOf164,
    v76 := Tryd.zeroValue164, i76 := by kernel_rfl,
    t77 := Tryd.underlying165, a77 := Tryd.isAgg165, z77 := Tryd.sizeOf165,
    v77 := Tryd.zeroValue165, i77 := by kernel_rfl,
    t78 := Tryd.underlying166, a78 := Tryd.isAgg166, z78 := Tryd.sizeOf166,
    v78 := Tryd.zeroValue166, i78 := by kernel_rfl,
    t79 := Tryd.underlying167, a79 := Tryd.isAgg167, z79 := Tryd.sizeOf167,
    v79 := Tryd.zeroValue167, i79 := by kernel_rfl,
    t80 := Tryd.underlying168, a80 := Tryd.isAgg168, z80 := Tryd.sizeOf168,
    v80 := Tryd.zeroValue168, i80 := by kernel_rfl,
    t82 := Tryd.underlying170, a82 := Tryd.isAgg170, z82 := Tryd.sizeOf170,
    v82 := Tryd.zeroValue170,
    i82 :=
      Eq.refl
        (Option.some
          (Option.some
              (Go.Value.agg
                #[Go.Value.int Go.IntKind.u64 0, Go.Value.int Go.IntKind.u64 0, Go.Value.int Go.IntKind.u32 0,
                  Go.Value.int Go.IntKind.u8 0, Go.Value.int Go.IntKind.u8 0, Go.Value.int Go.IntKind.u8 0,
                  Go.Value.int Go.IntKind.u8 0, Go.Value.nilFunc, Go.Value.pointer Option.none,
                  Go.Value.int Go.IntKind.i32 0, Go.Value.int Go.IntKind.i32 0]),
            11, 48)) }
end Go.Proofs.YtmmieooipcfbiabDoorR.K
