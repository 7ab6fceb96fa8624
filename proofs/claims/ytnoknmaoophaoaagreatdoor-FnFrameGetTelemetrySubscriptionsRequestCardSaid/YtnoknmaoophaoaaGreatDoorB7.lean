/- The kit's sort.Slice, laid at this program (plain text, printed by a program). -/
import Derived.Test.YtnoknmaoophaoaaGreatDoorB5
import Derived.Shelf.GgSortFunc.Whole
import Derived.Shelf.GgSortFunc.Tiny
set_option linter.unusedVariables false
namespace Go.Proofs.YtnoknmaoophaoaaGreatDoor.K
open Go Go.Shelf
noncomputable def sa6_ren : Go.Shelf.Ren :=
  {
    f := fun x =>
      match x with
      | 6 => 83
      | 10 => 85
      | 11 => 86
      | 12 => 87
      | 13 => 88
      | 14 => 89
      | 24 => 82
      | 25 => 99
      | 26 => 100
      | 27 => 101
      | 28 => 102
      | 29 => 103
      | 30 => 104
      | 31 => 105
      | 32 => 106
      | 33 => 107
      | 34 => 108
      | 35 => 109
      | 36 => 110
      | 37 => 111
      | 38 => 112
      | 39 => 113
      | n => n,
    t := fun x =>
      match x with
      | 20 => 20
      | 26 => 139
      | 35 => 143
      | 0 => 0
      | 37 => 145
      | 3 => 3
      | 41 => 90
      | 44 => 150
      | 49 => 58
      | 51 => 73
      | 4 => 4
      | 54 => 157
      | 53 => 156
      | 58 => 161
      | 5 => 5
      | 9 => 9
      | 60 => 163
      | 64 => 167
      | 66 => 169
      | 67 => 170
      | 17 => 17
      | 32 => 140
      | 33 => 141
      | 82 => 133
      | 12 => 12
      | 75 => 126
      | 76 => 127
      | 77 => 128
      | 78 => 129
      | 79 => 130
      | 80 => 131
      | n => n,
    g := fun x => x }
set_option maxRecDepth 100000 in
theorem sa6 : LaysGg.n6 Tryz.prog sa6_ren :=
  { mixed := by kernel_rfl,
    f6 :=
      Eq.trans Tryz.func83
        (congrArg Option.some (by kernel_rfl)),
    f10 :=
      Eq.trans Tryz.func85
        (congrArg Option.some (by kernel_rfl)),
    f11 :=
      Eq.trans Tryz.func86
        (congrArg Option.some (by kernel_rfl)),
    f12 :=
      Eq.trans Tryz.func87
        (congrArg Option.some (by kernel_rfl)),
    f13 :=
      Eq.trans Tryz.func88
        (congrArg Option.some (by kernel_rfl)),
    f14 :=
      Eq.trans Tryz.func89
        (congrArg Option.some (by kernel_rfl)),
    f24 :=
      Eq.trans Tryz.func82
        (congrArg Option.some (by kernel_rfl)),
    f25 :=
      Eq.trans Tryz.func99
        (congrArg Option.some (by kernel_rfl)),
    f26 :=
      Eq.trans Tryz.func100
        (congrArg Option.some (by kernel_rfl)),
    f27 :=
      Eq.trans Tryz.func101
        (congrArg Option.some (by kernel_rfl)),
    f28 :=
      Eq.trans Tryz.func102
        (congrArg Option.some (by kernel_rfl)),
    f29 :=
      Eq.trans Tryz.func103
        (congrArg Option.some (by kernel_rfl)),
    f30 :=
      Eq.trans Tryz.func104
        (congrArg Option.some (by kernel_rfl)),
    f31 :=
      Eq.trans Tryz.func105
        (congrArg Option.some (by kernel_rfl)),
    f32 :=
      Eq.trans Tryz.func106
        (congrArg Option.some (by kernel_rfl)),
    f33 :=
      Eq.trans Tryz.func107
        (congrArg Option.some (by kernel_rfl)),
    f34 :=
      Eq.trans Tryz.func108
        (congrArg Option.some (by kernel_rfl)),
    f35 :=
      Eq.trans Tryz.func109
        (congrArg Option.some (by kernel_rfl)),
    f36 :=
      Eq.trans Tryz.func110
        (congrArg Option.some (by kernel_rfl)),
    f37 :=
      Eq.trans Tryz.func111
        (congrArg Option.some (by kernel_rfl)),
    f38 :=
      Eq.trans Tryz.func112
        (congrArg Option.some (by kernel_rfl)),
    f39 :=
      Eq.trans Tryz.func113
        (congrArg Option.some (by kernel_rfl)),
    t0 := Tryz.underlying0, a0 := Tryz.isAgg0, z0 := Tryz.sizeOf0,
    v0 := Tryz.zeroValue0, i0 := by kernel_rfl,
    t3 := Tryz.underlying3, a3 := Tryz.isAgg3, z3 := Tryz.sizeOf3,
    v3 := Tryz.zeroValue3, i3 := by kernel_rfl,
    t4 := Tryz.underlying4, a4 := Tryz.isAgg4, z4 := Tryz.sizeOf4,
    v4 := Tryz.zeroValue4, i4 := by kernel_rfl,
    t5 := Tryz.underlying5, a5 := Tryz.isAgg5, z5 := Tryz.sizeOf5,
    v5 := Tryz.zeroValue5, i5 := by kernel_rfl,
    t9 := Tryz.underlying9, a9 := Tryz.isAgg9, z9 := Tryz.sizeOf9,
    v9 := Tryz.zeroValue9, i9 := by kernel_rfl,
    t12 := Tryz.underlying12, a12 := Tryz.isAgg12, z12 := Tryz.sizeOf12,
    v12 := Tryz.zeroValue12, i12 := by kernel_rfl,
    t17 := Tryz.underlying17, a17 := Tryz.isAgg17, z17 := Tryz.sizeOf17,
    v17 := Tryz.zeroValue17, i17 := by kernel_rfl,
    t20 := Tryz.underlying20, a20 := Tryz.isAgg20, z20 := Tryz.sizeOf20,
    v20 := Tryz.zeroValue20, i20 := by kernel_rfl,
    t26 := Tryz.underlying139, a26 := Tryz.isAgg139, z26 := Tryz.sizeOf139,
    v26 := Tryz.zeroValue139, i26 := by kernel_rfl,
    t32 := Tryz.underlying140, a32 := Tryz.isAgg140, z32 := Tryz.sizeOf140,
    v32 := Tryz.zeroValue140, i32 := by kernel_rfl,
    t33 := Tryz.underlying141, a33 := Tryz.isAgg141, z33 := Tryz.sizeOf141,
    v33 := Tryz.zeroValue141, i33 := by kernel_rfl,
    t35 := Tryz.underlying143, a35 := Tryz.isAgg143, z35 := Tryz.sizeOf143,
    v35 := Tryz.zeroValue143,
    i35 :=
      Eq.refl
        (Option.some
          (Option.some
              (Go.Value.agg #[Go.Value.pointer Option.none, Go.Value.pointer Option.none, Go.Value.int Go.IntKind.u64 0]),
            3, 24)),
    t37 := Tryz.underlying145, a37 := Tryz.isAgg145, z37 := Tryz.sizeOf145,
    v37 := Tryz.zeroValue145, i37 := by kernel_rfl,
    t41 := Tryz.underlying90, a41 := Tryz.isAgg90, z41 := Tryz.sizeOf90,
    v41 := Tryz.zeroValue90, i41 := by kernel_rfl,
    t44 := Tryz.underlying150, a44 := Tryz.isAgg150, z44 := Tryz.sizeOf150,
    v44 := Tryz.zeroValue150,
    i44 := by kernel_rfl,
    t49 := Tryz.underlying58, a49 := Tryz.isAgg58, z49 := Tryz.sizeOf58,
    v49 := Tryz.zeroValue58, i49 := by kernel_rfl,
    t51 := Tryz.underlying73, a51 := Tryz.isAgg73, z51 := Tryz.sizeOf73,
    v51 := Tryz.zeroValue73, i51 := by kernel_rfl,
    t53 := Tryz.underlying156, a53 := Tryz.isAgg156, z53 := Tryz.sizeOf156,
    v53 := Tryz.zeroValue156, i53 := by kernel_rfl,
    t54 := Tryz.underlying157, a54 := Tryz.isAgg157, z54 := Tryz.sizeOf157,
    v54 := Tryz.zeroValue157,
    i54 :=
      Eq.refl
        (Option.some
          (Option.some (Go.Value.tuple #[Go.Value.int Go.IntKind.i64 0, Go.Value.int Go.IntKind.i64 0]), 1, 0)),
    t58 := Tryz.underlying161, a58 := Tryz.isAgg161, z58 := Tryz.sizeOf161,
    v58 := Tryz.zeroValue161,
    i58 :=
      Eq.refl
        (Option.some (Option.some (Go.Value.tuple #[Go.Value.int Go.IntKind.i64 0, Go.Value.bool Bool.false]), 1, 0)),
    t60 := Tryz.underlying163, a60 := Tryz.isAgg163, z60 := Tryz.sizeOf163,
    v60 := Tryz.zeroValue163, i60 := by kernel_rfl,
    t64 := Tryz.underlying167, a64 := Tryz.isAgg167, z64 := Tryz.sizeOf167,
    v64 := Tryz.zeroValue167, i64 := by kernel_rfl,
    t66 := Tryz.underlying169, a66 := Tryz.isAgg169, z66 := Tryz.sizeOf169,
    v66 := Tryz.zeroValue169, i66 := by kernel_rfl,
    t67 := Tryz.underlying170, a67 := Tryz.isAgg170, z67 := Tryz.sizeOf170,
    v67 := Tryz.zeroValue170,
    i67 :=
      Eq.refl
        (Option.some
          (Option.some (Go.Value.tuple #[Go.Value.int Go.IntKind.i64 0, Go.Value.int Go.IntKind.i64 0]), 1, 0)),
    t75 := Tryz.underlying126, a75 := Tryz.isAgg126, z75 := Tryz.sizeOf126,
    v75 := Tryz.zeroValue126, i75 := by kernel_rfl,
    t76 := Tryz.underlying127, a76 := Tryz.isAgg127, z76 := Tryz.sizeOf127,
    v76 := Tryz.zeroValue127, i76 := by kernel_rfl,
    t77 := Tryz.underlying128, a77 := Tryz.isAgg128, z77 := Tryz.sizeOf128,
    v77 := Tryz.zeroValue128, i77 := by kernel_rfl,
    t78 := Tryz.underlying129, a78 := Tryz.isAgg129, z78 := Tryz.sizeOf129,
    v78 := Tryz.zeroValue129, i78 := by kernel_rfl,
    t79 := Tryz.underlying130, a79 := Tryz.isAgg130, z79 := Tryz.sizeOf130,
    v79 := Tryz.zeroValue130, i79 := by kernel_rfl,
    t80 := Tryz.underlying131, a80 := Tryz.isAgg131, z80 := Tryz.sizeOf131,
    v80 := Tryz.zeroValue131, i80 := by kernel_rfl,
    t82 := Tryz.underlying133, a82 := Tryz.isAgg133, z82 := Tryz.sizeOf133,
    v82 := Tryz.zeroValue133,
    i82 :=
      Eq.refl
        (Option.some
          (Option.some
              (Go.Value.agg
                #[Go.Value.int Go.IntKind.u64 0, Go.Value.int Go.IntKind.u64 0, Go.Value.int Go.IntKind.u32 0,
                  Go.Value.int Go.IntKind.u8 0, Go.Value.int Go.IntKind.u8 0, Go.Value.int Go.IntKind.u8 0,
                  Go.Value.int Go.IntKind.u8 0, Go.Value.nilFunc, Go.Value.pointer Option.none,
                  Go.Value.int Go.IntKind.i32 0, Go.Value.int Go.IntKind.i32 0]),
            11, 48)) }
end Go.Proofs.YtnoknmaoophaoaaGreatDoor.K
