/- The kit's sort.Slice, laid at this program (plain text, printed by a program). -/
import Derived.Test.YteofeendidabgaaGreatDoorB5
import Derived.Shelf.GgSortFunc.Whole
import Derived.Shelf.GgSortFunc.Tiny
set_option linter.unusedVariables false
namespace Go.Proofs.YteofeendidabgaaGreatDoor.K
open Go Go.Shelf
noncomputable def sa6_ren : Go.Shelf.Ren :=
  {
    f := fun x =>
      match x with
      | 6 => 133
      | 10 => 160
      | 11 => 161
      | 12 => 162
      | 13 => 163
      | 14 => 164
      | 24 => 178
      | 25 => 179
      | 26 => 180
      | 27 => 181
      | 28 => 182
      | 29 => 183
      | 30 => 184
      | 31 => 185
      | 32 => 186
      | 33 => 187
      | 34 => 189
      | 35 => 190
      | 36 => 191
      | 37 => 192
      | 38 => 193
      | 39 => 194
      | n => n,
    t := fun x =>
      match x with
      | 20 => 20
      | 26 => 163
      | 35 => 191
      | 0 => 0
      | 37 => 193
      | 3 => 3
      | 41 => 166
      | 44 => 198
      | 49 => 64
      | 51 => 104
      | 4 => 4
      | 54 => 209
      | 53 => 208
      | 58 => 213
      | 5 => 5
      | 9 => 9
      | 60 => 216
      | 64 => 219
      | 66 => 221
      | 67 => 222
      | 17 => 17
      | 32 => 188
      | 33 => 189
      | 82 => 237
      | 12 => 12
      | 75 => 230
      | 76 => 231
      | 77 => 232
      | 78 => 233
      | 79 => 234
      | 80 => 235
      | n => n,
    g := fun x => x }
set_option maxRecDepth 100000 in
theorem sa6 : LaysGg.n6 Tryz.prog sa6_ren :=
  { mixed := by kernel_rfl,
    f6 :=
      Eq.trans Tryz.func133
        (congrArg Option.some (by kernel_rfl)),
    f10 :=
      Eq.trans Tryz.func160
        (congrArg Option.some (by kernel_rfl)),
    f11 :=
      Eq.trans Tryz.func161
        (congrArg Option.some (by kernel_rfl)),
    f12 :=
      Eq.trans Tryz.func162
        (congrArg Option.some (by kernel_rfl)),
    f13 :=
      Eq.trans Tryz.func163
        (congrArg Option.some (by kernel_rfl)),
    f14 :=
      Eq.trans Tryz.func164
        (congrArg Option.some (by kernel_rfl)),
    f24 :=
      Eq.trans Tryz.func178
        (congrArg Option.some (by kernel_rfl)),
    f25 :=
      Eq.trans Tryz.func179
        (congrArg Option.some (by kernel_rfl)),
    f26 :=
      Eq.trans Tryz.func180
        (congrArg Option.some (by kernel_rfl)),
    f27 :=
      Eq.trans Tryz.func181
        (congrArg Option.some (by kernel_rfl)),
    f28 :=
      Eq.trans Tryz.func182
        (congrArg Option.some (by kernel_rfl)),
    f29 :=
      Eq.trans Tryz.func183
        (congrArg Option.some (by kernel_rfl)),
    f30 :=
      Eq.trans Tryz.func184
        (congrArg Option.some (by kernel_rfl)),
    f31 :=
      Eq.trans Tryz.func185
        (congrArg Option.some (by kernel_rfl)),
    f32 :=
      Eq.trans Tryz.func186
        (congrArg Option.some (by kernel_rfl)),
    f33 :=
      Eq.trans Tryz.func187
        (congrArg Option.some (by kernel_rfl)),
    f34 :=
      Eq.trans Tryz.func189
        (congrArg Option.some (by kernel_rfl)),
    f35 :=
      Eq.trans Tryz.func190
        (congrArg Option.some (by kernel_rfl)),
    f36 :=
      Eq.trans Tryz.func191
        (congrArg Option.some (by kernel_rfl)),
    f37 :=
      Eq.trans Tryz.func192
        (congrArg Option.some (by kernel_rfl)),
    f38 :=
      Eq.trans Tryz.func193
        (congrArg Option.some (by kernel_rfl)),
    f39 :=
      Eq.trans Tryz.func194
        (congrArg Option.some (by kernel_rfl)),
    t0 := Tryz.underlying0, a0 := Tryz.isAgg0, z0 := Tryz.sizeOf0,
    v0 := Tryz.zeroValue0, i0 := by kernel_rfl,
    t3 := Tryz.underlying3, a3 := Tryz.isAgg3, z3 := Tryz.sizeOf3,
    v3 := Tryz.zeroValue3, i3 := by kernel_rfl,
    t4 := Tryz.underlying4, a4 := Tryz.isAgg4, z4 := Tryz.sizeOf4,
    v4 := Tryz.zeroValue4, i4 := by kernel_rfl,
    t5 := Tryz.underlying5, a5 := Tryz.isAgg5, z5 := Tryz.sizeOf5,
    v5 := Tryz.zeroValue5, i5 := by kernel_rfl,
    t9 := Tryz.underlying9, a9 := Tryz.isAgg9, z9 := Tryz.sizeOf9,
    v9 := Tryz.zeroValue9, i9 := by kernel_rfl,
    t12 := Tryz.underlying12, a12 := Tryz.isAgg12, z12 := Tryz.sizeOf12,
    v12 := Tryz.zeroValue12, i12 := by kernel_rfl,
    t17 := Tryz.underlying17, a17 := Tryz.isAgg17, z17 := Tryz.sizeOf17,
    v17 := Tryz.zeroValue17, i17 := by kernel_rfl,
    t20 := Tryz.underlying20, a20 := Tryz.isAgg20, z20 := Tryz.sizeOf20,
    v20 := Tryz.zeroValue20, i20 := by kernel_rfl,
    t26 := Tryz.underlying163, a26 := Tryz.isAgg163, z26 := Tryz.sizeOf163,
    v26 := Tryz.zeroValue163, i26 := by kernel_rfl,
    t32 := Tryz.underlying188, a32 := Tryz.isAgg188, z32 := Tryz.sizeOf188,
    v32 := Tryz.zeroValue188, i32 := by kernel_rfl,
    t33 := Tryz.underlying189, a33 := Tryz.isAgg189, z33 := Tryz.sizeOf189,
    v33 := Tryz.zeroValue189, i33 := by kernel_rfl,
    t35 := Tryz.underlying191, a35 := Tryz.isAgg191, z35 := Tryz.sizeOf191,
    v35 := Tryz.zeroValue191,
    i35 :=
      Eq.refl
        (Option.some
          (Option.some
              (Go.Value.agg #[Go.Value.pointer Option.none, Go.Value.pointer Option.none, Go.Value.int Go.IntKind.u64 0]),
            3, 24)),
    t37 := Tryz.underlying193, a37 := Tryz.isAgg193, z37 := Tryz.sizeOf193,
    v37 := Tryz.zeroValue193, i37 := by kernel_rfl,
    t41 := Tryz.underlying166, a41 := Tryz.isAgg166, z41 := Tryz.sizeOf166,
    v41 := Tryz.zeroValue166, i41 := by kernel_rfl,
    t44 := Tryz.underlying198, a44 := Tryz.isAgg198, z44 := Tryz.sizeOf198,
    v44 := Tryz.zeroValue198,
    i44 := by kernel_rfl,
    t49 := Tryz.underlying64, a49 := Tryz.isAgg64, z49 := Tryz.sizeOf64,
    v49 := Tryz.zeroValue64, i49 := by kernel_rfl,
    t51 := Tryz.underlying104, a51 := Tryz.isAgg104, z51 := Tryz.sizeOf104,
    v51 := Tryz.zeroValue104, i51 := by kernel_rfl,
    t53 := Tryz.underlying208, a53 := Tryz.isAgg208, z53 := Tryz.sizeOf208,
    v53 := Tryz.zeroValue208, i53 := by kernel_rfl,
    t54 := Tryz.underlying209, a54 := Tryz.isAgg209, z54 := Tryz.sizeOf209,
    v54 := Tryz.zeroValue209,
    i54 :=
      Eq.refl
        (Option.some
          (Option.some (Go.Value.tuple #[Go.Value.int Go.IntKind.i64 0, Go.Value.int Go.IntKind.i64 0]), 1, 0)),
    t58 := Tryz.underlying213, a58 := Tryz.isAgg213, z58 := Tryz.sizeOf213,
    v58 := Tryz.zeroValue213,
    i58 :=
      Eq.refl
        (Option.some (Option.some (Go.Value.tuple #[Go.Value.int Go.IntKind.i64 0, Go.Value.bool Bool.false]), 1, 0)),
    t60 := Tryz.underlying216, a60 := Tryz.isAgg216, z60 := Tryz.sizeOf216,
    v60 := Tryz.zeroValue216, i60 := by kernel_rfl,
    t64 := Tryz.underlying219, a64 := Tryz.isAgg219, z64 := Tryz.sizeOf219,
    v64 := Tryz.zeroValue219, i64 := by kernel_rfl,
    t66 := Tryz.underlying221, a66 := Tryz.isAgg221, z66 := Tryz.sizeOf221,
    v66 := Tryz.zeroValue221, i66 := by kernel_rfl,
    t67 := Tryz.underlying222, a67 := Tryz.isAgg222, z67 := Tryz.sizeOf222,
    v67 := Tryz.zeroValue222,
    i67 :=
      Eq.refl
        (Option.some
          (Option.some (Go.Value.tuple #[Go.Value.int Go.IntKind.i64 0, Go.Value.int Go.IntKind.i64 0]), 1, 0)),
    t75 := Tryz.underlying230, a75 := Tryz.isAgg230, z75 := Tryz.sizeOf230,
    v75 := Tryz.zeroValue230, i75 := by kernel_rfl,
    t76 := Tryz.underlying231, a76 := Tryz.isAgg231, z76 := Tryz.sizeOf231,
    v76 := Tryz.zeroValue231, i76 := by kernel_rfl,
    t77 := Tryz.underlying232, a77 := Tryz.isAgg232, z77 := Tryz.sizeOf232,
    v77 := Tryz.zeroValue232, i77 := by kernel_rfl,
    t78 := Tryz.underlying233, a78 := Tryz.isAgg233, z78 := Tryz.sizeOf233,
    v78 := Tryz.zeroValue233, i78 := by kernel_rfl,
    t79 := Tryz.underlying234, a79 := Tryz.isAgg234, z79 := Tryz.sizeOf234,
    v79 := Tryz.zeroValue234, i79 := by kernel_rfl,
    t80 := Tryz.underlying235, a80 := Tryz.isAgg235, z80 := Tryz.sizeOf235,
    v80 := Tryz.zeroValue235, i80 := by kernel_rfl,
    t82 := Tryz.underlying237, a82 := Tryz.isAgg237, z82 := Tryz.sizeOf237,
    v82 := Tryz.zeroValue237,
    i82 :=
      Eq.refl
        (Option.some
          (Option.some
              (Go.Value.agg
                #[Go.Value.int Go.IntKind.u64 0, Go.Value.int Go.IntKind.u64 0, Go.Value.int Go.IntKind.u32 0,
                  Go.Value.int Go.IntKind.u8 0, Go.Value.int Go.IntKind.u8 0, Go.Value.int Go.IntKind.u8 0,
                  Go.Value.int Go.IntKind.u8 0, Go.Value.nilFunc, Go.Value.pointer Option.none,
                  Go.Value.int Go.IntKind.i32 0, Go.Value.int Go.IntKind.i32 0]),
            11, 48)) }
end Go.Proofs.YteofeendidabgaaGreatDoor.K
