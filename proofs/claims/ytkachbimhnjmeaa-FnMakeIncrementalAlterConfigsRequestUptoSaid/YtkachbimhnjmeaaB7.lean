/- The kit's sort.Slice, laid at this program (plain text, printed by a program). -/
import Derived.Test.YtkachbimhnjmeaaB5
import Derived.Shelf.GgSortFunc.Whole
import Derived.Shelf.GgSortFunc.Tiny
set_option linter.unusedVariables false
namespace Go.Proofs.Ytkachbimhnjmeaa.K
open Go Go.Shelf
noncomputable def sa6_ren : Go.Shelf.Ren :=
  {
    f := fun x =>
      match x with
      | 6 => 143
      | 10 => 145
      | 11 => 146
      | 12 => 147
      | 13 => 148
      | 14 => 149
      | 24 => 142
      | 25 => 159
      | 26 => 160
      | 27 => 161
      | 28 => 162
      | 29 => 163
      | 30 => 164
      | 31 => 165
      | 32 => 166
      | 33 => 167
      | 34 => 168
      | 35 => 169
      | 36 => 170
      | 37 => 171
      | 38 => 172
      | 39 => 173
      | n => n,
    t := fun x =>
      match x with
      | 20 => 20
      | 26 => 190
      | 35 => 194
      | 0 => 0
      | 37 => 196
      | 3 => 3
      | 41 => 175
      | 44 => 201
      | 49 => 60
      | 51 => 119
      | 4 => 4
      | 54 => 208
      | 53 => 207
      | 58 => 212
      | 5 => 5
      | 9 => 9
      | 60 => 214
      | 64 => 218
      | 66 => 220
      | 67 => 221
      | 17 => 17
      | 32 => 191
      | 33 => 192
      | 82 => 236
      | 12 => 12
      | 75 => 229
      | 76 => 230
      | 77 => 231
      | 78 => 232
      | 79 => 233
      | 80 => 234
      | n => n,
    g := fun x => x }
set_option maxRecDepth 100000 in
theorem sa6 : LaysGg.n6 Try.prog sa6_ren :=
  { mixed := by kernel_rfl,
    f6 :=
      Eq.trans Try.func143
        (congrArg Option.some (by kernel_rfl)),
    f10 :=
      Eq.trans Try.func145
        (congrArg Option.some (by kernel_rfl)),
    f11 :=
      Eq.trans Try.func146
        (congrArg Option.some (by kernel_rfl)),
    f12 :=
      Eq.trans Try.func147
        (congrArg Option.some (by kernel_rfl)),
    f13 :=
      Eq.trans Try.func148
        (congrArg Option.some (by kernel_rfl)),
    f14 :=
      Eq.trans Try.func149
        (congrArg Option.some (by kernel_rfl)),
    f24 :=
      Eq.trans Try.func142
        (congrArg Option.some (by kernel_rfl)),
    f25 :=
      Eq.trans Try.func159
        (congrArg Option.some (by kernel_rfl)),
    f26 :=
      Eq.trans Try.func160
        (congrArg Option.some (by kernel_rfl)),
    f27 :=
      Eq.trans Try.func161
        (congrArg Option.some (by kernel_rfl)),
    f28 :=
      Eq.trans Try.func162
        (congrArg Option.some (by kernel_rfl)),
    f29 :=
      Eq.trans Try.func163
        (congrArg Option.some (by kernel_rfl)),
    f30 :=
      Eq.trans Try.func164
        (congrArg Option.some (by kernel_rfl)),
    f31 :=
      Eq.trans Try.func165
        (congrArg Option.some (by kernel_rfl)),
    f32 :=
      Eq.trans Try.func166
        (congrArg Option.some (by kernel_rfl)),
    f33 :=
      Eq.trans Try.func167
        (congrArg Option.some (by kernel_rfl)),
    f34 :=
      Eq.trans Try.func168
        (congrArg Option.some (by kernel_rfl)),
    f35 :=
      Eq.trans Try.func169
        (congrArg Option.some (by kernel_rfl)),
    f36 :=
      Eq.trans Try.func170
        (congrArg Option.some (by kernel_rfl)),
    f37 :=
      Eq.trans Try.func171
        (congrArg Option.some (by kernel_rfl)),
    f38 :=
      Eq.trans Try.func172
        (congrArg Option.some (by kernel_rfl)),
    f39 :=
      Eq.trans Try.func173
        (congrArg Option.some (by kernel_rfl)),
    t0 := Try.underlying0, a0 := Try.isAgg0, z0 := Try.sizeOf0,
    v0 := Try.zeroValue0, i0 := by kernel_rfl,
    t3 := Try.underlying3, a3 := Try.isAgg3, z3 := Try.sizeOf3,
    v3 := Try.zeroValue3, i3 := by kernel_rfl,
    t4 := Try.underlying4, a4 := Try.isAgg4, z4 := Try.sizeOf4,
    v4 := Try.zeroValue4, i4 := by kernel_rfl,
    t5 := Try.underlying5, a5 := Try.isAgg5, z5 := Try.sizeOf5,
    v5 := Try.zeroValue5, i5 := by kernel_rfl,
    t9 := Try.underlying9, a9 := Try.isAgg9, z9 := Try.sizeOf9,
    v9 := Try.zeroValue9, i9 := by kernel_rfl,
    t12 := Try.underlying12, a12 := Try.isAgg12, z12 := Try.sizeOf12,
    v12 := Try.zeroValue12, i12 := by kernel_rfl,
    t17 := Try.underlying17, a17 := Try.isAgg17, z17 := Try.sizeOf17,
    v17 := Try.zeroValue17, i17 := by kernel_rfl,
    t20 := Try.underlying20, a20 := Try.isAgg20, z20 := Try.sizeOf20,
    v20 := Try.zeroValue20, i20 := by kernel_rfl,
    t26 := Try.underlying190, a26 := Try.isAgg190, z26 := Try.sizeOf190,
    v26 := Try.zeroValue190, i26 := by kernel_rfl,
    t32 := Try.underlying191, a32 := Try.isAgg191, z32 := Try.sizeOf191,
    v32 := Try.zeroValue191, i32 := by kernel_rfl,
    t33 := Try.underlying192, a33 := Try.isAgg192, z33 := Try.sizeOf192,
    v33 := Try.zeroValue192, i33 := by kernel_rfl,
    t35 := Try.underlying194, a35 := Try.isAgg194, z35 := Try.sizeOf194,
    v35 := Try.zeroValue194,
    i35 :=
      Eq.refl
        (Option.some
          (Option.some
              (Go.Value.agg #[Go.Value.pointer Option.none, Go.Value.pointer Option.none, Go.Value.int Go.IntKind.u64 0]),
            3, 24)),
    t37 := Try.underlying196, a37 := Try.isAgg196, z37 := Try.sizeOf196,
    v37 := Try.zeroValue196, i37 := by kernel_rfl,
    t41 := Try.underlying175, a41 := Try.isAgg175, z41 := Try.sizeOf175,
    v41 := Try.zeroValue175, i41 := by kernel_rfl,
    t44 := Try.underlying201, a44 := Try.isAgg201, z44 := Try.sizeOf201,
    v44 := Try.zeroValue201,
    i44 := by kernel_rfl,
    t49 := Try.underlying60, a49 := Try.isAgg60, z49 := Try.sizeOf60,
    v49 := Try.zeroValue60, i49 := by kernel_rfl,
    t51 := Try.underlying119, a51 := Try.isAgg119, z51 := Try.sizeOf119,
    v51 := Try.zeroValue119, i51 := by kernel_rfl,
    t53 := Try.underlying207, a53 := Try.isAgg207, z53 := Try.sizeOf207,
    v53 := Try.zeroValue207, i53 := by kernel_rfl,
    t54 := Try.underlying208, a54 := Try.isAgg208, z54 := Try.sizeOf208,
    v54 := Try.zeroValue208,
    i54 :=
      Eq.refl
        (Option.some
          (Option.some (Go.Value.tuple #[Go.Value.int Go.IntKind.i64 0, Go.Value.int Go.IntKind.i64 0]), 1, 0)),
    t58 := Try.underlying212, a58 := Try.isAgg212, z58 := Try.sizeOf212,
    v58 := Try.zeroValue212,
    i58 :=
      Eq.refl
        (Option.some (Option.some (Go.Value.tuple #[Go.Value.int Go.IntKind.i64 0, Go.Value.bool Bool.false]), 1, 0)),
    t60 := Try.underlying214, a60 := Try.isAgg214, z60 := Try.sizeOf214,
    v60 := Try.zeroValue214, i60 := by kernel_rfl,
    t64 := Try.underlying218, a64 := Try.isAgg218, z64 := Try.sizeOf218,
    v64 := Try.zeroValue218, i64 := by kernel_rfl,
    t66 := Try.underlying220, a66 := Try.isAgg220, z66 := Try.sizeOf220,
    v66 := Try.zeroValue220, i66 := by kernel_rfl,
    t67 := Try.underlying221, a67 := Try.isAgg221, z67 := Try.sizeOf221,
    v67 := Try.zeroValue221,
    i67 :=
      Eq.refl
        (Option.some
          (Option.some (Go.Value.tuple #[Go.Value.int Go.IntKind.i64 0, Go.Value.int Go.IntKind.i64 0]), 1, 0)),
    t75 := Try.underlying229, a75 := Try.isAgg229, z75 := Try.sizeOf229,
    v75 := Try.zeroValue229, i75 := by kernel_rfl,
    t76 := Try.underlying230, a76 := Try.isAgg230, z76 := Try.sizeOf230,
    v76 := Try.zeroValue230, i76 := by kernel_rfl,
    t77 := Try.underlying231, a77 := Try.isAgg231, z77 := Try.sizeOf231,
    v77 := Try.zeroValue231, i77 := by kernel_rfl,
    t78 := Try.underlying232, a78 := Try.isAgg232, z78 := Try.sizeOf232,
    v78 := Try.zeroValue232, i78 := by kernel_rfl,
    t79 := Try.underlying233, a79 := Try.isAgg233, z79 := Try.sizeOf233,
    v79 := Try.zeroValue233, i79 := by kernel_rfl,
    t80 := Try.underlying234, a80 := Try.isAgg234, z80 := Try.sizeOf234,
    v80 := Try.zeroValue234, i80 := by kernel_rfl,
    t82 := Try.underlying236, a82 := Try.isAgg236, z82 := Try.sizeOf236,
    v82 := Try.zeroValue236,
    i82 :=
      Eq.refl
        (Option.some
          (Option.some
              (Go.Value.agg
                #[Go.Value.int Go.IntKind.u64 0, Go.Value.int Go.IntKind.u64 0, Go.Value.int Go.IntKind.u32 0,
                  Go.Value.int Go.IntKind.u8 0, Go.Value.int Go.IntKind.u8 0, Go.Value.int Go.IntKind.u8 0,
                  Go.Value.int Go.IntKind.u8 0, Go.Value.nilFunc, Go.Value.pointer Option.none,
                  Go.Value.int Go.IntKind.i32 0, Go.Value.int Go.IntKind.i32 0]),
            11, 48)) }
end Go.Proofs.Ytkachbimhnjmeaa.K
