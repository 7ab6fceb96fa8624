/- The kit's sort.Slice, laid at this program (plain text, printed by a program). -/
import Derived.Test.YtabhhkdgfdjicaaDoorB5
import Derived.Shelf.GgSortFunc.Whole
import Derived.Shelf.GgSortFunc.Tiny
set_option linter.unusedVariables false
namespace Go.Proofs.YtabhhkdgfdjicaaDoor.K
open Go Go.Shelf
noncomputable def sa6_ren : Go.Shelf.Ren :=
  {
    f := fun x =>
      match x with
      | 6 => 48
      | 10 => 55
      | 11 => 56
      | 12 => 57
      | 13 => 58
      | 14 => 59
      | 24 => 70
      | 25 => 71
      | 26 => 72
      | 27 => 73
      | 28 => 74
      | 29 => 75
      | 30 => 76
      | 31 => 77
      | 32 => 78
      | 33 => 79
      | 34 => 80
      | 35 => 81
      | 36 => 82
      | 37 => 83
      | 38 => 84
      | 39 => 85
      | n => n,
    t := fun x =>
      match x with
      | 20 => 20
      | 26 => 91
      | 35 => 105
      | 0 => 0
      | 37 => 107
      | 3 => 3
      | 41 => 110
      | 44 => 113
      | 49 => 48
      | 51 => 100
      | 4 => 4
      | 54 => 122
      | 53 => 121
      | 58 => 126
      | 5 => 5
      | 9 => 9
      | 60 => 128
      | 64 => 131
      | 66 => 133
      | 67 => 134
      | 17 => 17
      | 32 => 102
      | 33 => 103
      | 82 => 149
      | 12 => 12
      | 75 => 142
      | 76 => 143
      | 77 => 144
      | 78 => 145
      | 79 => 146
      | 80 => 147
      | n => n,
    g := fun x => x }
set_option maxRecDepth 100000 in
theorem sa6 : LaysGg.n6 Tryd.prog sa6_ren :=
  { mixed := by kernel_rfl,
    f6 :=
      Eq.trans Tryd.func48
        (congrArg Option.some (by kernel_rfl)),
    f10 :=
      Eq.trans Tryd.func55
        (congrArg Option.some (by kernel_rfl)),
    f11 :=
      Eq.trans Tryd.func56
        (congrArg Option.some (by kernel_rfl)),
    f12 :=
      Eq.trans Tryd.func57
        (congrArg Option.some (by kernel_rfl)),
    f13 :=
      Eq.trans Tryd.func58
        (congrArg Option.some (by kernel_rfl)),
    f14 :=
      Eq.trans Tryd.func59
        (congrArg Option.some (by kernel_rfl)),
    f24 :=
      Eq.trans Tryd.func70
        (congrArg Option.some (by kernel_rfl)),
    f25 :=
      Eq.trans Tryd.func71
        (congrArg Option.some (by kernel_rfl)),
    f26 :=
      Eq.trans Tryd.func72
        (congrArg Option.some (by kernel_rfl)),
    f27 :=
      Eq.trans Tryd.func73
        (congrArg Option.some (by kernel_rfl)),
    f28 :=
      Eq.trans Tryd.func74
        (congrArg Option.some (by kernel_rfl)),
    f29 :=
      Eq.trans Tryd.func75
        (congrArg Option.some (by kernel_rfl)),
    f30 :=
      Eq.trans Tryd.func76
        (congrArg Option.some (by kernel_rfl)),
    f31 :=
      Eq.trans Tryd.func77
        (congrArg Option.some (by kernel_rfl)),
    f32 :=
      Eq.trans Tryd.func78
        (congrArg Option.some (by kernel_rfl)),
    f33 :=
      Eq.trans Tryd.func79
        (congrArg Option.some (by kernel_rfl)),
    f34 :=
      Eq.trans Tryd.func80
        (congrArg Option.some (by kernel_rfl)),
    f35 :=
      Eq.trans Tryd.func81
        (congrArg Option.some (by kernel_rfl)),
    f36 :=
      Eq.trans Tryd.func82
        (congrArg Option.some (by kernel_rfl)),
    f37 :=
      Eq.trans Tryd.func83
        (congrArg Option.some (by kernel_rfl)),
    f38 :=
      Eq.trans Tryd.func84
        (congrArg Option.some (by kernel_rfl)),
    f39 :=
      Eq.trans Tryd.func85
        (congrArg Option.some (by kernel_rfl)),
    t0 := Tryd.underlying0, a0 := Tryd.isAgg0, z0 := Tryd.sizeOf0,
    v0 := Tryd.zeroValue0, i0 := by kernel_rfl,
    t3 := Tryd.underlying3, a3 := Tryd.isAgg3, z3 := Tryd.sizeOf3,
    v3 := Tryd.zeroValue3, i3 := by kernel_rfl,
    t4 := Tryd.underlying4, a4 := Tryd.isAgg4, z4 := Tryd.sizeOf4,
    v4 := Tryd.zeroValue4, i4 := by kernel_rfl,
    t5 := Tryd.underlying5, a5 := Tryd.isAgg5, z5 := Tryd.sizeOf5,
    v5 := Tryd.zeroValue5, i5 := by kernel_rfl,
    t9 := Tryd.underlying9, a9 := Tryd.isAgg9, z9 := Tryd.sizeOf9,
    v9 := Tryd.zeroValue9, i9 := by kernel_rfl,
    t12 := Tryd.underlying12, a12 := Tryd.isAgg12, z12 := Tryd.sizeOf12,
    v12 := Tryd.zeroValue12, i12 := by kernel_rfl,
    t17 := Tryd.underlying17, a17 := Tryd.isAgg17, z17 := Tryd.sizeOf17,
    v17 := Tryd.zeroValue17, i17 := by kernel_rfl,
    t20 := Tryd.underlying20, a20 := Tryd.isAgg20, z20 := Tryd.sizeOf20,
    v20 := Tryd.zeroValue20, i20 := by kernel_rfl,
    t26 := Tryd.underlying91, a26 := Tryd.isAgg91, z26 := Tryd.sizeOf91,
    v26 := Tryd.zeroValue91, i26 := by kernel_rfl,
    t32 := Tryd.underlying102, a32 := Tryd.isAgg102, z32 := Tryd.sizeOf102,
    v32 := Tryd.zeroValue102, i32 := by kernel_rfl,
    t33 := Tryd.underlying103, a33 := Tryd.isAgg103, z33 := Tryd.sizeOf103,
    v33 := Tryd.zeroValue103, i33 := by kernel_rfl,
    t35 := Tryd.underlying105, a35 := Tryd.isAgg105, z35 := Tryd.sizeOf105,
    v35 := Tryd.zeroValue105,
    i35 :=
      Eq.refl
        (Option.some
          (Option.some
              (Go.Value.agg #[Go.Value.pointer Option.none, Go.Value.pointer Option.none, Go.Value.int Go.IntKind.u64 0]),
            3, 24)),
    t37 := Tryd.underlying107, a37 := Tryd.isAgg107, z37 := Tryd.sizeOf107,
    v37 := Tryd.zeroValue107, i37 := by kernel_rfl,
    t41 := Tryd.underlying110, a41 := Tryd.isAgg110, z41 := Tryd.sizeOf110,
    v41 := Tryd.zeroValue110, i41 := by kernel_rfl,
    t44 := Tryd.underlying113, a44 := Tryd.isAgg113, z44 := Tryd.sizeOf113,
    v44 := Tryd.zeroValue113,
    i44 := by kernel_rfl,
    t49 := Tryd.underlying48, a49 := Tryd.isAgg48, z49 := Tryd.sizeOf48,
    v49 := Tryd.zeroValue48, i49 := by kernel_rfl,
    t51 := Tryd.underlying100, a51 := Tryd.isAgg100, z51 := Tryd.sizeOf100,
    v51 := Tryd.zeroValue100, i51 := by kernel_rfl,
    t53 := Tryd.underlying121, a53 := Tryd.isAgg121, z53 := Tryd.sizeOf121,
    v53 := Tryd.zeroValue121, i53 := by kernel_rfl,
    t54 := Tryd.underlying122, a54 := Tryd.isAgg122, z54 := Tryd.sizeOf122,
    v54 := Tryd.zeroValue122,
    i54 :=
      Eq.refl
        (Option.some
          (Option.some (Go.Value.tuple #[Go.Value.int Go.IntKind.i64 0, Go.Value.int Go.IntKind.i64 0]), 1, 0)),
    t58 := Tryd.underlying126, a58 := Tryd.isAgg126, z58 := Tryd.sizeOf126,
    v58 := Tryd.zeroValue126,
    i58 :=
      Eq.refl
        (Option.some (Option.some (Go.Value.tuple #[Go.Value.int Go.IntKind.i64 0, Go.Value.bool Bool.false]), 1, 0)),
    t60 := Tryd.underlying128, a60 := Tryd.isAgg128, z60 := Tryd.sizeOf128,
    v60 := Tryd.zeroValue128, i60 := by kernel_rfl,
    t64 := Tryd.underlying131, a64 := Tryd.isAgg131, z64 := Tryd.sizeOf131,
    v64 := Tryd.zeroValue131, i64 := by kernel_rfl,
    t66 := Tryd.underlying133, a66 := Tryd.isAgg133, z66 := Tryd.sizeOf133,
    v66 := Tryd.zeroValue133, i66 := by kernel_rfl,
    t67 := Tryd.underlying134, a67 := Tryd.isAgg134, z67 := Tryd.sizeOf134,
    v67 := Tryd.zeroValue134,
    i67 :=
      Eq.refl
        (Option.some
          (Option.some (Go.Value.tuple #[Go.Value.int Go.IntKind.i64 0, Go.Value.int Go.IntKind.i64 0]), 1, 0)),
    t75 := Tryd.underlying142, a75 := Tryd.isAgg142, z75 := Tryd.sizeOf142,
    v75 := Tryd.zeroValue142, i75 := by kernel_rfl,
    t76 := Tryd.underlying143, a76 := Tryd.isAgg143, z76 := Tryd.sizeOf143,
    v76 := Tryd.zeroValue143, i76 := by kernel_rfl,
    t77 := Tryd.underlying144, a77 := Tryd.isAgg144, z77 := Tryd.sizeOf144,
    v77 := Tryd.zeroValue144, i77 := by kernel_rfl,
    t78 := Tryd.underlying145, a78 := Tryd.isAgg145, z78 := Tryd.sizeOf145,
    v78 := Tryd.zeroValue145, i78 := by kernel_rfl,
    t79 := Tryd.underlying146, a79 := Tryd.isAgg146, z79 := Tryd.sizeOf146,
    v79 := Tryd.zeroValue146, i79 := by kernel_rfl,
    t80 := Tryd.underlying147, a80 := Tryd.isAgg147, z80 := Tryd.sizeOf147,
    v80 := Tryd.zeroValue147, i80 := by kernel_rfl,
    t82 := Tryd.underlying149, a82 := Tryd.isAgg149, z82 := Tryd.sizeOf149,
    v82 := Tryd.zeroValue149,
    i82 :=
      Eq.refl
        (Option.some
          (Option.some
              (Go.Value.agg
                #[Go.Value.int Go.IntKind.u64 0, Go.Value.int Go.IntKind.u64 0, Go.Value.int Go.IntKind.u32 0,
                  Go.Value.int Go.IntKind.u8 0, Go.Value.int Go.IntKind.u8 0, Go.Value.int Go.IntKind.u8 0,
                  Go.Value.int Go.IntKind.u8 0, Go.Value.nilFunc, Go.Value.pointer Option.none,
                  Go.Value.int Go.IntKind.i32 0, Go.Value.int Go.IntKind.i32 0]),
            11, 48)) }
end Go.Proofs.YtabhhkdgfdjicaaDoor.K
