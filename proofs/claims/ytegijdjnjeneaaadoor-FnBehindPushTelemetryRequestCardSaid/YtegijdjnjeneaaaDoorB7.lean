/- The kit's sort.Slice, laid at this program (plain text, printed by a program). -/
import Derived.Test.YtegijdjnjeneaaaDoorB5
import Derived.Shelf.GgSortFunc.Whole
import Derived.Shelf.GgSortFunc.Tiny
set_option linter.unusedVariables false
namespace Go.Proofs.YtegijdjnjeneaaaDoor.K
open Go Go.Shelf
noncomputable def sa6_ren : Go.Shelf.Ren :=
  {
    f := fun x =>
      match x with
      | 6 => 61
      | 10 => 64
      | 11 => 65
      | 12 => 66
      | 13 => 67
      | 14 => 68
      | 24 => 60
      | 25 => 78
      | 26 => 79
      | 27 => 80
      | 28 => 81
      | 29 => 82
      | 30 => 83
      | 31 => 84
      | 32 => 85
      | 33 => 86
      | 34 => 87
      | 35 => 88
      | 36 => 89
      | 37 => 90
      | 38 => 91
      | 39 => 92
      | n => n,
    t := fun x =>
      match x with
      | 20 => 20
      | 26 => 106
      | 35 => 112
      | 0 => 0
      | 37 => 114
      | 3 => 3
      | 41 => 84
      | 44 => 119
      | 49 => 52
      | 51 => 69
      | 4 => 4
      | 54 => 126
      | 53 => 125
      | 58 => 130
      | 5 => 5
      | 9 => 9
      | 60 => 132
      | 64 => 136
      | 66 => 138
      | 67 => 139
      | 17 => 17
      | 32 => 109
      | 33 => 110
      | 82 => 155
      | 12 => 12
      | 75 => 148
      | 76 => 149
      | 77 => 150
      | 78 => 151
      | 79 => 152
      | 80 => 153
      | n => n,
    g := fun x => x }
set_option maxRecDepth 100000 in
theorem sa6 : LaysGg.n6 Tryd.prog sa6_ren :=
  { mixed := by kernel_rfl,
    f6 :=
      Eq.trans Tryd.func61
        (congrArg Option.some (by kernel_rfl)),
    f10 :=
      Eq.trans Tryd.func64
        (congrArg Option.some (by kernel_rfl)),
    f11 :=
      Eq.trans Tryd.func65
        (congrArg Option.some (by kernel_rfl)),
    f12 :=
      Eq.trans Tryd.func66
        (congrArg Option.some (by kernel_rfl)),
    f13 :=
      Eq.trans Tryd.func67
        (congrArg Option.some (by kernel_rfl)),
    f14 :=
      Eq.trans Tryd.func68
        (congrArg Option.some (by kernel_rfl)),
    f24 :=
      Eq.trans Tryd.func60
        (congrArg Option.some (by kernel_rfl)),
    f25 :=
      Eq.trans Tryd.func78
        (congrArg Option.some (by kernel_rfl)),
    f26 :=
      Eq.trans Tryd.func79
        (congrArg Option.some (by kernel_rfl)),
    f27 :=
      Eq.trans Tryd.func80
        (congrArg Option.some (by kernel_rfl)),
    f28 :=
      Eq.trans Tryd.func81
        (congrArg Option.some (by kernel_rfl)),
    f29 :=
      Eq.trans Tryd.func82
        (congrArg Option.some (by kernel_rfl)),
    f30 :=
      Eq.trans Tryd.func83
        (congrArg Option.some (by kernel_rfl)),
    f31 :=
      Eq.trans Tryd.func84
        (congrArg Option.some (by kernel_rfl)),
    f32 :=
      Eq.trans Tryd.func85
        (congrArg Option.some (by kernel_rfl)),
    f33 :=
      Eq.trans Tryd.func86
        (congrArg Option.some (by kernel_rfl)),
    f34 :=
      Eq.trans Tryd.func87
        (congrArg Option.some (by kernel_rfl)),
    f35 :=
      Eq.trans Tryd.func88
        (congrArg Option.some (by kernel_rfl)),
    f36 :=
      Eq.trans Tryd.func89
        (congrArg Option.some (by kernel_rfl)),
    f37 :=
      Eq.trans Tryd.func90
        (congrArg Option.some (by kernel_rfl)),
    f38 :=
      Eq.trans Tryd.func91
        (congrArg Option.some (by kernel_rfl)),
    f39 :=
      Eq.trans Tryd.func92
        (congrArg Option.some (by kernel_rfl)),
    t0 := Tryd.underlying0, a0 := Tryd.isAgg0, z0 := Tryd.sizeOf0,
    v0 := Tryd.zeroValue0, i0 := by kernel_rfl,
    t3 := Tryd.underlying3, a3 := Tryd.isAgg3, z3 := Tryd.sizeOf3,
    v3 := Tryd.zeroValue3, i3 := by kernel_rfl,
    t4 := Tryd.underlying4, a4 := Tryd.isAgg4, z4 := Tryd.sizeOf4,
    v4 := Tryd.zeroValue4, i4 := by kernel_rfl,
    t5 := Tryd.underlying5, a5 := Tryd.isAgg5, z5 := Tryd.sizeOf5,
    v5 := Tryd.zeroValue5, i5 := by kernel_rfl,
    t9 := Tryd.underlying9, a9 := Tryd.isAgg9, z9 := Tryd.sizeOf9,
    v9 := Tryd.zeroValue9, i9 := by kernel_rfl,
    t12 := Tryd.underlying12, a12 := Tryd.isAgg12, z12 := Tryd.sizeOf12,
    v12 := Tryd.zeroValue12, i12 := by kernel_rfl,
    t17 := Tryd.underlying17, a17 := Tryd.isAgg17, z17 := Tryd.sizeOf17,
    v17 := Tryd.zeroValue17, i17 := by kernel_rfl,
    t20 := Tryd.underlying20, a20 := Tryd.isAgg20, z20 := Tryd.sizeOf20,
    v20 := Tryd.zeroValue20, i20 := by kernel_rfl,
    t26 := Tryd.underlying106, a26 := Tryd.isAgg106, z26 := Tryd.sizeOf106,
    v26 := Tryd.zeroValue106, i26 := by kernel_rfl,
    t32 := Tryd.underlying109, a32 := Tryd.isAgg109, z32 := Tryd.sizeOf109,
    v32 := Tryd.zeroValue109, i32 := by kernel_rfl,
    t33 := Tryd.underlying110, a33 := Tryd.isAgg110, z33 := Tryd.sizeOf110,
    v33 := Tryd.zeroValue110, i33 := by kernel_rfl,
    t35 := Tryd.underlying112, a35 := Tryd.isAgg112, z35 := Tryd.sizeOf112,
    v35 := Tryd.zeroValue112,
    i35 :=
      Eq.refl
        (Option.some
          (Option.some
              (Go.Value.agg #[Go.Value.pointer Option.none, Go.Value.pointer Option.none, Go.Value.int Go.IntKind.u64 0]),
            3, 24)),
    t37 := Tryd.underlying114, a37 := Tryd.isAgg114, z37 := Tryd.sizeOf114,
    v37 := Tryd.zeroValue114, i37 := by kernel_rfl,
    t41 := Tryd.underlying84, a41 := Tryd.isAgg84, z41 := Tryd.sizeOf84,
    v41 := Tryd.zeroValue84, i41 := by kernel_rfl,
    t44 := Tryd.underlying119, a44 := Tryd.isAgg119, z44 := Tryd.sizeOf119,
    v44 := Tryd.zeroValue119,
    i44 := by kernel_rfl,
    t49 := Tryd.underlying52, a49 := Tryd.isAgg52, z49 := Tryd.sizeOf52,
    v49 := Tryd.zeroValue52, i49 := by kernel_rfl,
    t51 := Tryd.underlying69, a51 := Tryd.isAgg69, z51 := Tryd.sizeOf69,
    v51 := Tryd.zeroValue69, i51 := by kernel_rfl,
    t53 := Tryd.underlying125, a53 := Tryd.isAgg125, z53 := Tryd.sizeOf125,
    v53 := Tryd.zeroValue125, i53 := by kernel_rfl,
    t54 := Tryd.underlying126, a54 := Tryd.isAgg126, z54 := Tryd.sizeOf126,
    v54 := Tryd.zeroValue126,
    i54 :=
      Eq.refl
        (Option.some
          (Option.some (Go.Value.tuple #[Go.Value.int Go.IntKind.i64 0, Go.Value.int Go.IntKind.i64 0]), 1, 0)),
    t58 := Tryd.underlying130, a58 := Tryd.isAgg130, z58 := Tryd.sizeOf130,
    v58 := Tryd.zeroValue130,
    i58 :=
      Eq.refl
        (Option.some (Option.some (Go.Value.tuple #[Go.Value.int Go.IntKind.i64 0, Go.Value.bool Bool.false]), 1, 0)),
    t60 := Tryd.underlying132, a60 := Tryd.isAgg132, z60 := Tryd.sizeOf132,
    v60 := Tryd.zeroValue132, i60 := by kernel_rfl,
    t64 := Tryd.underlying136, a64 := Tryd.isAgg136, z64 := Tryd.sizeOf136,
    v64 := Tryd.zeroValue136, i64 := by kernel_rfl,
    t66 := Tryd.underlying138, a66 := Tryd.isAgg138, z66 := Tryd.sizeOf138,
    v66 := Tryd.zeroValue138, i66 := by kernel_rfl,
    t67 := Tryd.underlying139, a67 := Tryd.isAgg139, z67 := Tryd.sizeOf139,
    v67 := Tryd.zeroValue139,
    i67 :=
      Eq.refl
        (Option.some
          (Option.some (Go.Value.tuple #[Go.Value.int Go.IntKind.i64 0, Go.Value.int Go.IntKind.i64 0]), 1, 0)),
    t75 := Tryd.underlying148, a75 := Tryd.isAgg148, z75 := Tryd.sizeOf148,
    v75 := Tryd.zeroValue148, i75 := by kernel_rfl,
    t76 := Tryd.underlying149, a76 := Tryd.isAgg149, z76 := Tryd.sizeOf149,
    v76 := Tryd.zeroValue149, i76 := by kernel_rfl,
    t77 := Tryd.underlying150, a77 := Tryd.isAgg150, z77 := Tryd.sizeOf150,
    v77 := Tryd.zeroValue150, i77 := by kernel_rfl,
    t78 := Tryd.underlying151, a78 := Tryd.isAgg151, z78 := Tryd.sizeOf151,
    v78 := Tryd.zeroValue151, i78 := by kernel_rfl,
    t79 := Tryd.underlying152, a79 := Tryd.isAgg152, z79 := Tryd.sizeOf152,
    v79 := Tryd.zeroValue152, i79 := by kernel_rfl,
    t80 := Tryd.underlying153, a80 := Tryd.isAgg153, z80 := Tryd.sizeOf153,
    v80 := Tryd.zeroValue153, i80 := by kernel_rfl,
    t82 := Tryd.underlying155, a82 := Tryd.isAgg155, z82 := Tryd.sizeOf155,
    v82 := Tryd.zeroValue155,
    i82 :=
      Eq.refl
        (Option.some
          (Option.some
              (Go.Value.agg
                #[Go.Value.int Go.IntKind.u64 0, Go.Value.int Go.IntKind.u64 0, Go.Value.int Go.IntKind.u32 0,
                  Go.Value.int Go.IntKind.u8 0, Go.Value.int Go.IntKind.u8 0, Go.Value.int Go.IntKind.u8 0,
                  Go.Value.int Go.IntKind.u8 0, Go.Value.nilFunc, Go.Value.pointer Option.none,
                  Go.Value.int Go.IntKind.i32 0, Go.Value.int Go.IntKind.i32 0]),
            11, 48)) }
end Go.Proofs.YtegijdjnjeneaaaDoor.K
