/- The kit's sort.Slice, laid at this program (plain text, printed by a program). -/
import Derived.Test.YtmhodiipnljemaaGreatDoorB5
import Derived.Shelf.GgSortFunc.Whole
import Derived.Shelf.GgSortFunc.Tiny
set_option linter.unusedVariables false
namespace Go.Proofs.YtmhodiipnljemaaGreatDoor.K
open Go Go.Shelf
noncomputable def sa6_ren : Go.Shelf.Ren :=
  {
    f := fun x =>
      match x with
      | 6 => 169
      | 10 => 171
      | 11 => 172
      | 12 => 173
      | 13 => 174
      | 14 => 175
      | 24 => 168
      | 25 => 185
      | 26 => 186
      | 27 => 187
      | 28 => 188
      | 29 => 189
      | 30 => 190
      | 31 => 191
      | 32 => 192
      | 33 => 193
      | 34 => 194
      | 35 => 195
      | 36 => 196
      | 37 => 197
      | 38 => 198
      | 39 => 199
      | n => n,
    t := fun x =>
      match x with
      | 20 => 20
      | 26 => 190
      | 35 => 194
      | 0 => 0
      | 37 => 196
      | 3 => 3
      | 41 => 124
      | 44 => 201
      | 49 => 71
      | 51 => 85
      | 4 => 4
      | 54 => 208
      | 53 => 207
      | 58 => 212
      | 5 => 5
      | 9 => 9
      | 60 => 214
      | 64 => 217
      | 66 => 219
      | 67 => 220
      | 17 => 17
      | 32 => 191
      | 33 => 192
      | 82 => 185
      | 12 => 12
      | 75 => 178
      | 76 => 179
      | 77 => 180
      | 78 => 181
      | 79 => 182
      | 80 => 183
      | n => n,
    g := fun x => x }
set_option maxRecDepth 100000 in
theorem sa6 : LaysGg.n6 Tryz.prog sa6_ren :=
  { mixed := by kernel_rfl,
    f6 :=
      Eq.trans Tryz.func169
        (congrArg Option.some (by kernel_rfl)),
    f10 :=
      Eq.trans Tryz.func171
        (congrArg Option.some (by kernel_rfl)),
    f11 :=
      Eq.trans Tryz.func172
        (congrArg Option.some (by kernel_rfl)),
    f12 :=
      Eq.trans Tryz.func173
        (congrArg Option.some (by kernel_rfl)),
    f13 :=
      Eq.trans Tryz.func174
        (congrArg Option.some (by kernel_rfl)),
    f14 :=
      Eq.trans Tryz.func175
        (congrArg Option.some (by kernel_rfl)),
    f24 :=
      Eq.trans Tryz.func168
        (congrArg Option.some (by kernel_rfl)),
    f25 :=
      Eq.trans Tryz.func185
        (congrArg Option.some (by kernel_rfl)),
    f26 :=
      Eq.trans Tryz.func186
        (congrArg Option.some (by kernel_rfl)),
    f27 :=
      Eq.trans Tryz.func187
        (congrArg Option.some (by kernel_rfl)),
    f28 :=
      Eq.trans Tryz.func188
        (congrArg Option.some (by kernel_rfl)),
    f29 :=
      Eq.trans Tryz.func189
        (congrArg Option.some (by kernel_rfl)),
    f30 :=
      Eq.trans Tryz.func190
        (congrArg Option.some (by kernel_rfl)),
    f31 :=
      Eq.trans Tryz.func191
        (congrArg Option.some (by kernel_rfl)),
    f32 :=
      Eq.trans Tryz.func192
        (congrArg Option.some (by kernel_rfl)),
    f33 :=
      Eq.trans Tryz.func193
        (congrArg Option.some (by kernel_rfl)),
    f34 :=
      Eq.trans Tryz.func194
        (congrArg Option.some (by kernel_rfl)),
    f35 :=
      Eq.trans Tryz.func195
        (congrArg Option.some (by kernel_rfl)),
    f36 :=
      Eq.trans Tryz.func196
        (congrArg Option.some (by kernel_rfl)),
    f37 :=
      Eq.trans Tryz.func197
        (congrArg Option.some (by kernel_rfl)),
    f38 :=
      Eq.trans Tryz.func198
        (congrArg Option.some (by kernel_rfl)),
    f39 :=
      Eq.trans Tryz.func199
        (congrArg Option.some (by kernel_rfl)),
    t0 := Tryz.underlying0, a0 := Tryz.isAgg0, z0 := Tryz.sizeOf0,
    v0 := Tryz.zeroValue0, i0 := by kernel_rfl,
    t3 := Tryz.underlying3, a3 := Tryz.isAgg3, z3 := Tryz.sizeOf3,
    v3 := Tryz.zeroValue3, i3 := by kernel_rfl,
    t4 := Tryz.underlying4, a4 := Tryz.isAgg4, z4 := Tryz.sizeOf4,
    v4 := Tryz.zeroValue4, i4 := by kernel_rfl,
    t5 := Tryz.underlying5, a5 := Tryz.isAgg5, z5 := Tryz.sizeOf5,
    v5 := Tryz.zeroValue5, i5 := by kernel_rfl,
    t9 := Tryz.underlying9, a9 := Tryz.isAgg9, z9 := Tryz.sizeOf9,
    v9 := Tryz.zeroValue9, i9 := by kernel_rfl,
    t12 := Tryz.underlying12, a12 := Tryz.isAgg12, z12 := Tryz.sizeOf12,
    v12 := Tryz.zeroValue12, i12 := by kernel_rfl,
    t17 := Tryz.underlying17, a17 := Tryz.isAgg17, z17 := Tryz.sizeOf17,
    v17 := Tryz.zeroValue17, i17 := by kernel_rfl,
    t20 := Tryz.underlying20, a20 := Tryz.isAgg20, z20 := Tryz.sizeOf20,
    v20 := Tryz.zeroValue20, i20 := by kernel_rfl,
    t26 := Tryz.underlying190, a26 := Tryz.isAgg190, z26 := Tryz.sizeOf190,
    v26 := Tryz.zeroValue190, i26 := by kernel_rfl,
    t32 := Tryz.underlying191, a32 := Tryz.isAgg191, z32 := Tryz.sizeOf191,
    v32 := Tryz.zeroValue191, i32 := by kernel_rfl,
    t33 := Tryz.underlying192, a33 := Tryz.isAgg192, z33 := Tryz.sizeOf192,
    v33 := Tryz.zeroValue192, i33 := by kernel_rfl,
    t35 := Tryz.underlying194, a35 := Tryz.isAgg194, z35 := Tryz.sizeOf194,
    v35 := Tryz.zeroValue194,
    i35 :=
      Eq.refl
        (Option.some
          (Option.some
              (Go.Value.agg #[Go.Value.pointer Option.none, Go.Value.pointer Option.none, Go.Value.int Go.IntKind.u64 0]),
            3, 24)),
    t37 := Tryz.underlying196, a37 := Tryz.isAgg196, z37 := Tryz.sizeOf196,
    v37 := Tryz.zeroValue196, i37 := by kernel_rfl,
    t41 := Tryz.underlying124, a41 := Tryz.isAgg124, z41 := Tryz.sizeOf124,
    v41 := Tryz.zeroValue124, i41 := by kernel_rfl,
    t44 := Tryz.underlying201, a44 := Tryz.isAgg201, z44 := Tryz.sizeOf201,
    v44 := Tryz.zeroValue201,
    i44 := by kernel_rfl,
    t49 := Tryz.underlying71, a49 := Tryz.isAgg71, z49 := Tryz.sizeOf71,
    v49 := Tryz.zeroValue71, i49 := by kernel_rfl,
    t51 := Tryz.underlying85, a51 := Tryz.isAgg85, z51 := Tryz.sizeOf85,
    v51 := Tryz.zeroValue85, i51 := by kernel_rfl,
    t53 := Tryz.underlying207, a53 := Tryz.isAgg207, z53 := Tryz.sizeOf207,
    v53 := Tryz.zeroValue207, i53 := by kernel_rfl,
    t54 := Tryz.underlying208, a54 := Tryz.isAgg208, z54 := Tryz.sizeOf208,
    v54 := Tryz.zeroValue208,
    i54 :=
      Eq.refl
        (Option.some
          (Option.some (Go.Value.tuple #[Go.Value.int Go.IntKind.i64 0, Go.Value.int Go.IntKind.i64 0]), 1, 0)),
    t58 := Tryz.underlying212, a58 := Tryz.isAgg212, z58 := Tryz.sizeOf212,
    v58 := Tryz.zeroValue212,
    i58 :=
      Eq.refl
        (Option.some (Option.some (Go.Value.tuple #[Go.Value.int Go.IntKind.i64 0, Go.Value.bool Bool.false]), 1, 0)),
    t60 := Tryz.underlying214, a60 := Tryz.isAgg214, z60 := Tryz.sizeOf214,
    v60 := Tryz.zeroValue214, i60 := by kernel_rfl,
    t64 := Tryz.underlying217, a64 := Tryz.isAgg217, z64 := Tryz.sizeOf217,
    v64 := Tryz.zeroValue217, i64 := by kernel_rfl,
    t66 := Tryz.underlying219, a66 := Tryz.isAgg219, z66 := Tryz.sizeOf219,
    v66 := Tryz.zeroValue219, i66 := by kernel_rfl,
    t67 := Tryz.underlying220, a67 := Tryz.isAgg220, z67 := Tryz.sizeOf220,
    v67 := Tryz.zeroValue220,
    i67 :=
      Eq.refl
        (Option.some
          (Option.some (Go.Value.tuple #[Go.Value.int Go.IntKind.i64 0, Go.Value.int Go.IntKind.i64 0]), 1, 0)),
    t75 := Tryz.underlying178, a75 := Tryz.isAgg178, z75 := Tryz.sizeOf178,
    v75 := Tryz.zeroValue178, i75 := by kernel_rfl,
    t76 := Tryz.underlying179, a76 := Tryz.isAgg179, z76 := Tryz.sizeOf179,
    v76 := Tryz.zeroValue179, i76 := by kernel_rfl,
    t77 := Tryz.underlying180, a77 := Tryz.isAgg180, z77 := Tryz.sizeOf180,
    v77 := Tryz.zeroValue180, i77 := by kernel_rfl,
    t78 := Tryz.underlying181, a78 := Tryz.isAgg181, z78 := Tryz.sizeOf181,
    v78 := Tryz.zeroValue181, i78 := by kernel_rfl,
    t79 := Tryz.underlying182, a79 := Tryz.isAgg182, z79 := Tryz.sizeOf182,
    v79 := Tryz.zeroValue182, i79 := by kernel_rfl,
    t80 := Tryz.underlying183, a80 := Tryz.isAgg183, z80 := Tryz.sizeOf183,
    v80 := Tryz.zeroValue183, i80 := by kernel_rfl,
    t82 := Tryz.underlying185, a82 := Tryz.isAgg185, z82 := Tryz.sizeOf185,
    v82 := Tryz.zeroValue185,
    i82 :=
      Eq.refl
        (Option.some
          (Option.some
              (Go.Value.agg
                #[Go.Value.int Go.IntKind.u64 0, Go.Value.int Go.IntKind.u64 0, Go.Value.int Go.IntKind.u32 0,
                  Go.Value.int Go.IntKind.u8 0, Go.Value.int Go.IntKind.u8 0, Go.Value.int Go.IntKind.u8 0,
                  Go.Value.int Go.IntKind.u8 0, Go.Value.nilFunc, Go.Value.pointer Option.none,
                  Go.Value.int Go.IntKind.i32 0, Go.Value.int Go.IntKind.i32 0]),
            11, 48)) }
end Go.Proofs.YtmhodiipnljemaaGreatDoor.K
