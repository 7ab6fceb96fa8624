/- The kit's sort.Slice, laid at this program (plain text, printed by a program). -/
import Derived.Test.YtjepglidlblmlaaDoorB5
import Derived.Shelf.GgSortFunc.Whole
import Derived.Shelf.GgSortFunc.Tiny
set_option linter.unusedVariables false
namespace Go.Proofs.YtjepglidlblmlaaDoor.K
open Go Go.Shelf
noncomputable def sa6_ren : Go.Shelf.Ren :=
  {
    f := fun x =>
      match x with
      | 6 => 46
      | 10 => 55
      | 11 => 56
      | 12 => 57
      | 13 => 58
      | 14 => 59
      | 24 => 72
      | 25 => 73
      | 26 => 74
      | 27 => 75
      | 28 => 76
      | 29 => 77
      | 30 => 78
      | 31 => 79
      | 32 => 80
      | 33 => 81
      | 34 => 82
      | 35 => 83
      | 36 => 84
      | 37 => 85
      | 38 => 86
      | 39 => 87
      | n => n,
    t := fun x =>
      match x with
      | 20 => 20
      | 26 => 94
      | 35 => 106
      | 0 => 0
      | 37 => 108
      | 3 => 3
      | 41 => 111
      | 44 => 114
      | 49 => 48
      | 51 => 98
      | 4 => 4
      | 54 => 127
      | 53 => 126
      | 58 => 131
      | 5 => 5
      | 9 => 9
      | 60 => 133
      | 64 => 136
      | 66 => 138
      | 67 => 139
      | 17 => 17
      | 32 => 103
      | 33 => 104
      | 82 => 154
      | 12 => 12
      | 75 => 147
      | 76 => 148
      | 77 => 149
      | 78 => 150
      | 79 => 151
      | 80 => 152
      | n => n,
    g := fun x => x }
set_option maxRecDepth 100000 in
theorem sa6 : LaysGg.n6 Tryd.prog sa6_ren :=
  { mixed := by kernel_rfl,
    f6 :=
      Eq.trans Tryd.func46
        (congrArg Option.some (by kernel_rfl)),
    f10 :=
      Eq.trans Tryd.func55
        (congrArg Option.some (by kernel_rfl)),
    f11 :=
      Eq.trans Tryd.func56
        (congrArg Option.some (by kernel_rfl)),
    f12 :=
      Eq.trans Tryd.func57
        (congrArg Option.some (by kernel_rfl)),
    f13 :=
      Eq.trans Tryd.func58
        (congrArg Option.some (by kernel_rfl)),
    f14 :=
      Eq.trans Tryd.func59
        (congrArg Option.some (by kernel_rfl)),
    f24 :=
      Eq.trans Tryd.func72
        (congrArg Option.some (by kernel_rfl)),
    f25 :=
      Eq.trans Tryd.func73
        (congrArg Option.some (by kernel_rfl)),
    f26 :=
      Eq.trans Tryd.func74
        (congrArg Option.some (by kernel_rfl)),
    f27 :=
      Eq.trans Tryd.func75
        (congrArg Option.some (by kernel_rfl)),
    f28 :=
      Eq.trans Tryd.func76
        (congrArg Option.some (by kernel_rfl)),
    f29 :=
      Eq.trans Tryd.func77
        (congrArg Option.some (by kernel_rfl)),
    f30 :=
      Eq.trans Tryd.func78
        (congrArg Option.some (by kernel_rfl)),
    f31 :=
      Eq.trans Tryd.func79
        (congrArg Option.some (by kernel_rfl)),
    f32 :=
      Eq.trans Tryd.func80
        (congrArg Option.some (by kernel_rfl)),
    f33 :=
      Eq.trans Tryd.func81
        (congrArg Option.some (by kernel_rfl)),
    f34 :=
      Eq.trans Tryd.func82
        (congrArg Option.some (by kernel_rfl)),
    f35 :=
      Eq.trans Tryd.func83
        (congrArg Option.some (by kernel_rfl)),
    f36 :=
      Eq.trans Tryd.func84
        (congrArg Option.some (by kernel_rfl)),
    f37 :=
      Eq.trans Tryd.func85
        (congrArg Option.some (by kernel_rfl)),
    f38 :=
      Eq.trans Tryd.func86
        (congrArg Option.some (by kernel_rfl)),
    f39 :=
      Eq.trans Tryd.func87
        (congrArg Option.some (by kernel_rfl)),
    t0 := Tryd.underlying0, a0 := Tryd.isAgg0, z0 := Tryd.sizeOf0,
    v0 := Tryd.zeroValue0, i0 := by kernel_rfl,
    t3 := Tryd.underlying3, a3 := Tryd.isAgg3, z3 := Tryd.sizeOf3,
    v3 := Tryd.zeroValue3, i3 := by kernel_rfl,
    t4 := Tryd.underlying4, a4 := Tryd.isAgg4, z4 := Tryd.sizeOf4,
    v4 := Tryd.zeroValue4, i4 := by kernel_rfl,
    t5 := Tryd.underlying5, a5 := Tryd.isAgg5, z5 := Tryd.sizeOf5,
    v5 := Tryd.zeroValue5, i5 := by kernel_rfl,
    t9 := Tryd.underlying9, a9 := Tryd.isAgg9, z9 := Tryd.sizeOf9,
    v9 := Tryd.zeroValue9, i9 := by kernel_rfl,
    t12 := Tryd.underlying12, a12 := Tryd.isAgg12, z12 := Tryd.sizeOf12,
    v12 := Tryd.zeroValue12, i12 := by kernel_rfl,
    t17 := Tryd.underlying17, a17 := Tryd.isAgg17, z17 := Tryd.sizeOf17,
    v17 := Tryd.zeroValue17, i17 := by kernel_rfl,
    t20 := Tryd.underlying20, a20 := Tryd.isAgg20, z20 := Tryd.sizeOf20,
    v20 := Tryd.zeroValue20, i20 := by kernel_rfl,
    t26 := Tryd.underlying94, a26 := Tryd.isAgg94, z26 := Tryd.sizeOf94,
    v26 := Tryd.zeroValue94, i26 := by kernel_rfl,
    t32 := Tryd.underlying103, a32 := Tryd.isAgg103, z32 := Tryd.sizeOf103,
    v32 := Tryd.zeroValue103, i32 := by kernel_rfl,
    t33 := Tryd.underlying104, a33 := Tryd.isAgg104, z33 := Tryd.sizeOf104,
    v33 := Tryd.zeroValue104, i33 := by kernel_rfl,
    t35 := Tryd.underlying106, a35 := Tryd.isAgg106, z35 := Tryd.sizeOf106,
    v35 := Tryd.zeroValue106,
    i35 :=
      Eq.refl
        (Option.some
          (Option.some
              (Go.Value.agg #[Go.Value.pointer Option.none, Go.Value.pointer Option.none, Go.Value.int Go.IntKind.u64 0]),
            3, 24)),
    t37 := Tryd.underlying108, a37 := Tryd.isAgg108, z37 := Tryd.sizeOf108,
    v37 := Tryd.zeroValue108, i37 := by kernel_rfl,
    t41 := Tryd.underlying111, a41 := Tryd.isAgg111, z41 := Tryd.sizeOf111,
    v41 := Tryd.zeroValue111, i41 := by kernel_rfl,
    t44 := Tryd.underlying114, a44 := Tryd.isAgg114, z44 := Tryd.sizeOf114,
    v44 := Tryd.zeroValue114,
    i44 := by kernel_rfl,
    t49 := Tryd.underlying48, a49 := Tryd.isAgg48, z49 := Tryd.sizeOf48,
    v49 := Tryd.zeroValue48, i49 := by kernel_rfl,
    t51 := Tryd.underlying98, a51 := Tryd.isAgg98, z51 := Tryd.sizeOf98,
    v51 := Tryd.zeroValue98, i51 := by kernel_rfl,
    t53 := Tryd.underlying126, a53 := Tryd.isAgg126, z53 := Tryd.sizeOf126,
    v53 := Tryd.zeroValue126, i53 := by kernel_rfl,
    t54 := Tryd.underlying127, a54 := Tryd.isAgg127, z54 := Tryd.sizeOf127,
    v54 := Tryd.zeroValue127,
    i54 :=
      Eq.refl
        (Option.some
          (Option.some (Go.Value.tuple #[Go.Value.int Go.IntKind.i64 0, Go.Value.int Go.IntKind.i64 0]), 1, 0)),
    t58 := Tryd.underlying131, a58 := Tryd.isAgg131, z58 := Tryd.sizeOf131,
    v58 := Tryd.zeroValue131,
    i58 :=
      Eq.refl
        (Option.some (Option.some (Go.Value.tuple #[Go.Value.int Go.IntKind.i64 0, Go.Value.bool Bool.false]), 1, 0)),
    t60 := Tryd.underlying133, a60 := Tryd.isAgg133, z60 := Tryd.sizeOf133,
    v60 := Tryd.zeroValue133, i60 := by kernel_rfl,
    t64 := Tryd.underlying136, a64 := Tryd.isAgg136, z64 := Tryd.sizeOf136,
    v64 := Tryd.zeroValue136, i64 := by kernel_rfl,
    t66 := Tryd.underlying138, a66 := Tryd.isAgg138, z66 := Tryd.sizeOf138,
    v66 := Tryd.zeroValue138, i66 := by kernel_rfl,
    t67 := Tryd.underlying139, a67 := Tryd.isAgg139, z67 := Tryd.sizeOf139,
    v67 := Tryd.zeroValue139,
    i67 :=
      Eq.refl
        (Option.some
          (Option.some (Go.Value.tuple #[Go.Value.int Go.IntKind.i64 0, Go.Value.int Go.IntKind.i64 0]), 1, 0)),
    t75 := Tryd.underlying147, a75 := Tryd.isAgg147, z75 := Tryd.sizeOf147,
    v75 := Tryd.zeroValue147, i75 := by kernel_rfl,
    t76 := Tryd.underlying148, a76 := Tryd.isAgg148, z76 := Tryd.sizeOf148,
    v76 := Tryd.zeroValue148, i76 := by kernel_rfl,
    t77 := Tryd.underlying149, a77 := Tryd.isAgg149, z77 := Tryd.sizeOf149,
    v77 := Tryd.zeroValue149, i77 := by kernel_rfl,
    t78 := Tryd.underlying150, a78 := Tryd.isAgg150, z78 := Tryd.sizeOf150,
    v78 := Tryd.zeroValue150, i78 := by kernel_rfl,
    t79 := Tryd.underlying151, a79 := Tryd.isAgg151, z79 := Tryd.sizeOf151,
    v79 := Tryd.zeroValue151, i79 := by kernel_rfl,
    t80 := Tryd.underlying152, a80 := Tryd.isAgg152, z80 := Tryd.sizeOf152,
    v80 := Tryd.zeroValue152, i80 := by kernel_rfl,
    t82 := Tryd.underlying154, a82 := Tryd.isAgg154, z82 := Tryd.sizeOf154,
    v82 := Tryd.zeroValue154,
    i82 :=
      Eq.refl
        (Option.some
          (Option.some
              (Go.Value.agg
                #[Go.Value.int Go.IntKind.u64 0, Go.Value.int Go.IntKind.u64 0, Go.Value.int Go.IntKind.u32 0,
                  Go.Value.int Go.IntKind.u8 0, Go.Value.int Go.IntKind.u8 0, Go.Value.int Go.IntKind.u8 0,
                  Go.Value.int Go.IntKind.u8 0, Go.Value.nilFunc, Go.Value.pointer Option.none,
                  Go.Value.int Go.IntKind.i32 0, Go.Value.int Go.IntKind.i32 0]),
            11, 48)) }
end Go.Proofs.YtjepglidlblmlaaDoor.K
