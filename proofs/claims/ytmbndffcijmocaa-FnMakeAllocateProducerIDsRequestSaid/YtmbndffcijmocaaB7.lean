/- The kit's sort.Slice, laid at this program (plain text, printed by a program). -/
import Derived.Test.YtmbndffcijmocaaB5
import Derived.Shelf.GgSortFunc.Whole
import Derived.Shelf.GgSortFunc.Tiny
set_option linter.unusedVariables false
namespace Go.Proofs.Ytmbndffcijmocaa.K
open Go Go.Shelf
noncomputable def sa6_ren : Go.Shelf.Ren :=
  {
    f := fun x =>
      match x with
      | 6 => 50
      | 10 => 52
      | 11 => 53
      | 12 => 54
      | 13 => 55
      | 14 => 56
      | 24 => 49
      | 25 => 66
      | 26 => 67
      | 27 => 68
      | 28 => 69
      | 29 => 70
      | 30 => 71
      | 31 => 72
      | 32 => 73
      | 33 => 74
      | 34 => 75
      | 35 => 76
      | 36 => 77
      | 37 => 78
      | 38 => 79
      | 39 => 80
      | n => n,
    t := fun x =>
      match x with
      | 20 => 20
      | 26 => 92
      | 35 => 96
      | 0 => 0
      | 37 => 98
      | 3 => 3
      | 41 => 84
      | 44 => 103
      | 49 => 59
      | 51 => 80
      | 4 => 4
      | 54 => 110
      | 53 => 109
      | 58 => 114
      | 5 => 5
      | 9 => 9
      | 60 => 116
      | 64 => 120
      | 66 => 122
      | 67 => 123
      | 17 => 17
      | 32 => 93
      | 33 => 94
      | 82 => 138
      | 12 => 12
      | 75 => 131
      | 76 => 132
      | 77 => 133
      | 78 => 134
      | 79 => 135
      | 80 => 136
      | n => n,
    g := fun x => x }
set_option maxRecDepth 100000 in
theorem sa6 : LaysGg.n6 Try.prog sa6_ren :=
  { mixed := by kernel_rfl,
    f6 :=
      Eq.trans Try.func50
        (congrArg Option.some (by kernel_rfl)),
    f10 :=
      Eq.trans Try.func52
        (congrArg Option.some (by kernel_rfl)),
    f11 :=
      Eq.trans Try.func53
        (congrArg Option.some (by kernel_rfl)),
    f12 :=
      Eq.trans Try.func54
        (congrArg Option.some (by kernel_rfl)),
    f13 :=
      Eq.trans Try.func55
        (congrArg Option.some (by kernel_rfl)),
    f14 :=
      Eq.trans Try.func56
        (congrArg Option.some (by kernel_rfl)),
    f24 :=
      Eq.trans Try.func49
        (congrArg Option.some (by kernel_rfl)),
    f25 :=
      Eq.trans Try.func66
        (congrArg Option.some (by kernel_rfl)),
    f26 :=
      Eq.trans Try.func67
        (congrArg Option.some (by kernel_rfl)),
    f27 :=
      Eq.trans Try.func68
        (congrArg Option.some (by kernel_rfl)),
    f28 :=
      Eq.trans Try.func69
        (congrArg Option.some (by kernel_rfl)),
    f29 :=
      Eq.trans Try.func70
        (congrArg Option.some (by kernel_rfl)),
    f30 :=
      Eq.trans Try.func71
        (congrArg Option.some (by kernel_rfl)),
    f31 :=
      Eq.trans Try.func72
        (congrArg Option.some (by kernel_rfl)),
    f32 :=
      Eq.trans Try.func73
        (congrArg Option.some (by kernel_rfl)),
    f33 :=
      Eq.trans Try.func74
        (congrArg Option.some (by kernel_rfl)),
    f34 :=
      Eq.trans Try.func75
        (congrArg Option.some (by kernel_rfl)),
    f35 :=
      Eq.trans Try.func76
        (congrArg Option.some (by kernel_rfl)),
    f36 :=
      Eq.trans Try.func77
        (congrArg Option.some (by kernel_rfl)),
    f37 :=
      Eq.trans Try.func78
        (congrArg Option.some (by kernel_rfl)),
    f38 :=
      Eq.trans Try.func79
        (congrArg Option.some (by kernel_rfl)),
    f39 :=
      Eq.trans Try.func80
        (congrArg Option.some (by kernel_rfl)),
    t0 := Try.underlying0, a0 := Try.isAgg0, z0 := Try.sizeOf0,
    v0 := Try.zeroValue0, i0 := by kernel_rfl,
    t3 := Try.underlying3, a3 := Try.isAgg3, z3 := Try.sizeOf3,
    v3 := Try.zeroValue3, i3 := by kernel_rfl,
    t4 := Try.underlying4, a4 := Try.isAgg4, z4 := Try.sizeOf4,
    v4 := Try.zeroValue4, i4 := by kernel_rfl,
    t5 := Try.underlying5, a5 := Try.isAgg5, z5 := Try.sizeOf5,
    v5 := Try.zeroValue5, i5 := by kernel_rfl,
    t9 := Try.underlying9, a9 := Try.isAgg9, z9 := Try.sizeOf9,
    v9 := Try.zeroValue9, i9 := by kernel_rfl,
    t12 := Try.underlying12, a12 := Try.isAgg12, z12 := Try.sizeOf12,
    v12 := Try.zeroValue12, i12 := by kernel_rfl,
    t17 := Try.underlying17, a17 := Try.isAgg17, z17 := Try.sizeOf17,
    v17 := Try.zeroValue17, i17 := by kernel_rfl,
    t20 := Try.underlying20, a20 := Try.isAgg20, z20 := Try.sizeOf20,
    v20 := Try.zeroValue20, i20 := by kernel_rfl,
    t26 := Try.underlying92, a26 := Try.isAgg92, z26 := Try.sizeOf92,
    v26 := Try.zeroValue92, i26 := by kernel_rfl,
    t32 := Try.underlying93, a32 := Try.isAgg93, z32 := Try.sizeOf93,
    v32 := Try.zeroValue93, i32 := by kernel_rfl,
    t33 := Try.underlying94, a33 := Try.isAgg94, z33 := Try.sizeOf94,
    v33 := Try.zeroValue94, i33 := by kernel_rfl,
    t35 := Try.underlying96, a35 := Try.isAgg96, z35 := Try.sizeOf96,
    v35 := Try.zeroValue96,
    i35 :=
      Eq.refl
        (Option.some
          (Option.some
              (Go.Value.agg #[Go.Value.pointer Option.none, Go.Value.pointer Option.none, Go.Value.int Go.IntKind.u64 0]),
            3, 24)),
    t37 := Try.underlying98, a37 := Try.isAgg98, z37 := Try.sizeOf98,
    v37 := Try.zeroValue98, i37 := by kernel_rfl,
    t41 := Try.underlying84, a41 := Try.isAgg84, z41 := Try.sizeOf84,
    v41 := Try.zeroValue84, i41 := by kernel_rfl,
    t44 := Try.underlying103, a44 := Try.isAgg103, z44 := Try.sizeOf103,
    v44 := Try.zeroValue103,
    i44 := by kernel_rfl,
    t49 := Try.underlying59, a49 := Try.isAgg59, z49 := Try.sizeOf59,
    v49 := Try.zeroValue59, i49 := by kernel_rfl,
    t51 := Try.underlying80, a51 := Try.isAgg80, z51 := Try.sizeOf80,
    v51 := Try.zeroValue80, i51 := by kernel_rfl,
    t53 := Try.underlying109, a53 := Try.isAgg109, z53 := Try.sizeOf109,
    v53 := Try.zeroValue109, i53 := by kernel_rfl,
    t54 := Try.underlying110, a54 := Try.isAgg110, z54 := Try.sizeOf110,
    v54 := Try.zeroValue110,
    i54 :=
      Eq.refl
        (Option.some
          (Option.some (Go.Value.tuple #[Go.Value.int Go.IntKind.i64 0, Go.Value.int Go.IntKind.i64 0]), 1, 0)),
    t58 := Try.underlying114, a58 := Try.isAgg114, z58 := Try.sizeOf114,
    v58 := Try.zeroValue114,
    i58 :=
      Eq.refl
        (Option.some (Option.some (Go.Value.tuple #[Go.Value.int Go.IntKind.i64 0, Go.Value.bool Bool.false]), 1, 0)),
    t60 := Try.underlying116, a60 := Try.isAgg116, z60 := Try.sizeOf116,
    v60 := Try.zeroValue116, i60 := by kernel_rfl,
    t64 := Try.underlying120, a64 := Try.isAgg120, z64 := Try.sizeOf120,
    v64 := Try.zeroValue120, i64 := by kernel_rfl,
    t66 := Try.underlying122, a66 := Try.isAgg122, z66 := Try.sizeOf122,
    v66 := Try.zeroValue122, i66 := by kernel_rfl,
    t67 := Try.underlying123, a67 := Try.isAgg123, z67 := Try.sizeOf123,
    v67 := Try.zeroValue123,
    i67 :=
      Eq.refl
        (Option.some
          (Option.some (Go.Value.tuple #[Go.Value.int Go.IntKind.i64 0, Go.Value.int Go.IntKind.i64 0]), 1, 0)),
    t75 := Try.underlying131, a75 := Try.isAgg131, z75 := Try.sizeOf131,
    v75 := Try.zeroValue131, i75 := by kernel_rfl,
    t76 := Try.underlying132, a76 := Try.isAgg132, z76 := Try.sizeOf132,
    v76 := Try.zeroValue132, i76 := by kernel_rfl,
    t77 := Try.underlying133, a77 := Try.isAgg133, z77 := Try.sizeOf133,
    v77 := Try.zeroValue133, i77 := by kernel_rfl,
    t78 := Try.underlying134, a78 := Try.isAgg134, z78 := Try.sizeOf134,
    v78 := Try.zeroValue134, i78 := by kernel_rfl,
    t79 := Try.underlying135, a79 := Try.isAgg135, z79 := Try.sizeOf135,
    v79 := Try.zeroValue135, i79 := by kernel_rfl,
    t80 := Try.underlying136, a80 := Try.isAgg136, z80 := Try.sizeOf136,
    v80 := Try.zeroValue136, i80 := by kernel_rfl,
    t82 := Try.underlying138, a82 := Try.isAgg138, z82 := Try.sizeOf138,
    v82 := Try.zeroValue138,
    i82 :=
      Eq.refl
        (Option.some
          (Option.some
              (Go.Value.agg
                #[Go.Value.int Go.IntKind.u64 0, Go.Value.int Go.IntKind.u64 0, Go.Value.int Go.IntKind.u32 0,
                  Go.Value.int Go.IntKind.u8 0, Go.Value.int Go.IntKind.u8 0, Go.Value.int Go.IntKind.u8 0,
                  Go.Value.int Go.IntKind.u8 0, Go.Value.nilFunc, Go.Value.pointer Option.none,
                  Go.Value.int Go.IntKind.i32 0, Go.Value.int Go.IntKind.i32 0]),
            11, 48)) }
end Go.Proofs.Ytmbndffcijmocaa.K
