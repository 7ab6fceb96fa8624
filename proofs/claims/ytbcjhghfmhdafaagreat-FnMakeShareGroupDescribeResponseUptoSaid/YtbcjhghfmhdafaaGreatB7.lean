/- The kit's sort.Slice, laid at this program (plain text, printed by a program). -/
import Derived.Test.YtbcjhghfmhdafaaGreatB5
import Derived.Shelf.GgSortFunc.Whole
import Derived.Shelf.GgSortFunc.Tiny
set_option linter.unusedVariables false
namespace Go.Proofs.YtbcjhghfmhdafaaGreat.K
open Go Go.Shelf
noncomputable def sa6_ren : Go.Shelf.Ren :=
  {
    f := fun x =>
      match x with
      | 6 => 118
      | 10 => 124
      | 11 => 125
      | 12 => 126
      | 13 => 127
      | 14 => 128
      | 24 => 117
      | 25 => 139
      | 26 => 140
      | 27 => 141
      | 28 => 142
      | 29 => 143
      | 30 => 144
      | 31 => 145
      | 32 => 146
      | 33 => 147
      | 34 => 148
      | 35 => 149
      | 36 => 150
      | 37 => 151
      | 38 => 152
      | 39 => 153
      | n => n,
    t := fun x =>
      match x with
      | 20 => 20
      | 26 => 195
      | 35 => 202
      | 0 => 0
      | 37 => 204
      | 3 => 3
      | 41 => 181
      | 44 => 209
      | 49 => 61
      | 51 => 121
      | 4 => 4
      | 54 => 217
      | 53 => 216
      | 58 => 221
      | 5 => 5
      | 9 => 9
      | 60 => 223
      | 64 => 227
      | 66 => 229
      | 67 => 230
      | 17 => 17
      | 32 => 199
      | 33 => 200
      | 82 => 245
      | 12 => 12
      | 75 => 238
      | 76 => 239
      | 77 => 240
      | 78 => 241
      | 79 => 242
      | 80 => 243
      | n => n,
    g := fun x => x }
set_option maxRecDepth 100000 in
theorem sa6 : LaysGg.n6 Tryz.prog sa6_ren :=
  { mixed := by kernel_rfl,
    f6 :=
      Eq.trans Tryz.func118
        (congrArg Option.some (by kernel_rfl)),
    f10 :=
      Eq.trans Tryz.func124
        (congrArg Option.some (by kernel_rfl)),
    f11 :=
      Eq.trans Tryz.func125
        (congrArg Option.some (by kernel_rfl)),
    f12 :=
      Eq.trans Tryz.func126
        (congrArg Option.some (by kernel_rfl)),
    f13 :=
      Eq.trans Tryz.func127
        (congrArg Option.some (by kernel_rfl)),
    f14 :=
      Eq.trans Tryz.func128
        (congrArg Option.some (by kernel_rfl)),
    f24 :=
      Eq.trans Tryz.func117
        (congrArg Option.some (by kernel_rfl)),
    f25 :=
      Eq.trans Tryz.func139
        (congrArg Option.some (by kernel_rfl)),
    f26 :=
      Eq.trans Tryz.func140
        (congrArg Option.some (by kernel_rfl)),
    f27 :=
      Eq.trans Tryz.func141
        (congrArg Option.some (by kernel_rfl)),
    f28 :=
      Eq.trans Tryz.func142
        (congrArg Option.some (by kernel_rfl)),
    f29 :=
      Eq.trans Tryz.func143
        (congrArg Option.some (by kernel_rfl)),
    f30 :=
      Eq.trans Tryz.func144
        (congrArg Option.some (by kernel_rfl)),
    f31 :=
      Eq.trans Tryz.func145
        (congrArg Option.some (by kernel_rfl)),
    f32 :=
      Eq.trans Tryz.func146
        (congrArg Option.some (by kernel_rfl)),
    f33 :=
      Eq.trans Tryz.func147
        (congrArg Option.some (by kernel_rfl)),
    f34 :=
      Eq.trans Tryz.func148
        (congrArg Option.some (by kernel_rfl)),
    f35 :=
      Eq.trans Tryz.func149
        (congrArg Option.some (by kernel_rfl)),
    f36 :=
      Eq.trans Tryz.func150
        (congrArg Option.some (by kernel_rfl)),
    f37 :=
      Eq.trans Tryz.func151
        (congrArg Option.some (by kernel_rfl)),
    f38 :=
      Eq.trans Tryz.func152
        (congrArg Option.some (by kernel_rfl)),
    f39 :=
      Eq.trans Tryz.func153
        (congrArg Option.some (by kernel_rfl)),
    t0 := Tryz.underlying0, a0 := Tryz.isAgg0, z0 := Tryz.sizeOf0,
    v0 := Tryz.zeroValue0, i0 := by kernel_rfl,
    t3 := Tryz.underlying3, a3 := Tryz.isAgg3, z3 := Tryz.sizeOf3,
    v3 := Tryz.zeroValue3, i3 := by kernel_rfl,
    t4 := Tryz.underlying4, a4 := Tryz.isAgg4, z4 := Tryz.sizeOf4,
    v4 := Tryz.zeroValue4, i4 := by kernel_rfl,
    t5 := Tryz.underlying5, a5 := Tryz.isAgg5, z5 := Tryz.sizeOf5,
    v5 := Tryz.zeroValue5, i5 := by kernel_rfl,
    t9 := Tryz.underlying9, a9 := Tryz.isAgg9, z9 := Tryz.sizeOf9,
    v9 := Tryz.zeroValue9, i9 := by kernel_rfl,
    t12 := Tryz.underlying12, a12 := Tryz.isAgg12, z12 := Tryz.sizeOf12,
    v12 := Tryz.zeroValue12, i12 := by kernel_rfl,
    t17 := Tryz.underlying17, a17 := Tryz.isAgg17, z17 := Tryz.sizeOf17,
    v17 := Tryz.zeroValue17, i17 := by kernel_rfl,
    t20 := Tryz.underlying20, a20 := Tryz.isAgg20, z20 := Tryz.sizeOf20,
    v20 := Tryz.zeroValue20, i20 := by kernel_rfl,
    t26 := Tryz.underlying195, a26 := Tryz.isAgg195, z26 := Tryz.sizeOf195,
    v26 := Tryz.zeroValue195, i26 := by kernel_rfl,
    t32 := Tryz.underlying199, a32 := Tryz.isAgg199, z32 := Tryz.sizeOf199,
    v32 := Tryz.zeroValue199, i32 := by kernel_rfl,
    t33 := Tryz.underlying200, a33 := Tryz.isAgg200, z33 := Tryz.sizeOf200,
    v33 := Tryz.zeroValue200, i33 := by kernel_rfl,
    t35 := Tryz.underlying202, a35 := Tryz.isAgg202, z35 := Tryz.sizeOf202,
    v35 := Tryz.zeroValue202,
    i35 :=
      Eq.refl
        (Option.some
          (Option.some
              (Go.Value.agg #[Go.Value.pointer Option.none, Go.Value.pointer Option.none, Go.Value.int Go.IntKind.u64 0]),
            3, 24)),
    t37 := Tryz.underlying204, a37 := Tryz.isAgg204, z37 := Tryz.sizeOf204,
    v37 := Tryz.zeroValue204, i37 := by kernel_rfl,
    t41 := Tryz.underlying181, a41 := Tryz.isAgg181, z41 := Tryz.sizeOf181,
    v41 := Tryz.zeroValue181, i41 := by kernel_rfl,
    t44 := Tryz.underlying209, a44 := Tryz.isAgg209, z44 := Tryz.sizeOf209,
    v44 := Tryz.zeroValue209,
    i44 := by kernel_rfl,
    t49 := Tryz.underlying61, a49 := Tryz.isAgg61, z49 := Tryz.sizeOf61,
    v49 := Tryz.zeroValue61, i49 := by kernel_rfl,
    t51 := Tryz.underlying121, a51 := Tryz.isAgg121, z51 := Tryz.sizeOf121,
    v51 := Tryz.zeroValue121, i51 := by kernel_rfl,
    t53 := Tryz.underlying216, a53 := Tryz.isAgg216, z53 := Tryz.sizeOf216,
    v53 := Tryz.zeroValue216, i53 := by kernel_rfl,
    t54 := Tryz.underlying217, a54 := Tryz.isAgg217, z54 := Tryz.sizeOf217,
    v54 := Tryz.zeroValue217,
    i54 :=
      Eq.refl
        (Option.some
          (Option.some (Go.Value.tuple #[Go.Value.int Go.IntKind.i64 0, Go.Value.int Go.IntKind.i64 0]), 1, 0)),
    t58 := Tryz.underlying221, a58 := Tryz.isAgg221, z58 := Tryz.sizeOf221,
    v58 := Tryz.zeroValue221,
    i58 :=
      Eq.refl
        (Option.some (Option.some (Go.Value.tuple #[Go.Value.int Go.IntKind.i64 0, Go.Value.bool Bool.false]), 1, 0)),
    t60 := Tryz.underlying223, a60 := Tryz.isAgg223, z60 := Tryz.sizeOf223,
    v60 := Tryz.zeroValue223, i60 := by kernel_rfl,
    t64 := Tryz.underlying227, a64 := Tryz.isAgg227, z64 := Tryz.sizeOf227,
    v64 := Tryz.zeroValue227, i64 := by kernel_rfl,
    t66 := Tryz.underlying229, a66 := Tryz.isAgg229, z66 := Tryz.sizeOf229,
    v66 := Tryz.zeroValue229, i66 := by kernel_rfl,
    t67 := Tryz.underlying230, a67 := Tryz.isAgg230, z67 := Tryz.sizeOf230,
    v67 := Tryz.zeroValue230,
    i67 :=
      Eq.refl
        (Option.some
          (Option.some (Go.Value.tuple #[Go.Value.int Go.IntKind.i64 0, Go.Value.int Go.IntKind.i64 0]), 1, 0)),
    t75 := Tryz.underlying238, a75 := Tryz.isAgg238, z75 := Tryz.sizeOf238,
    v75 := Tryz.zeroValue238, i75 := by kernel_rfl,
    t76 := Tryz.underlying239, a76 := Tryz.isAgg239, z76 := Tryz.sizeOf239,
    v76 := Tryz.zeroValue239, i76 := by kernel_rfl,
    t77 := Tryz.underlying240, a77 := Tryz.isAgg240, z77 := Tryz.sizeOf240,
    v77 := Tryz.zeroValue240, i77 := by kernel_rfl,
    t78 := Tryz.underlying241, a78 := Tryz.isAgg241, z78 := Tryz.sizeOf241,
    v78 := Tryz.zeroValue241, i78 := by kernel_rfl,
    t79 := Tryz.underlying242, a79 := Tryz.isAgg242, z79 := Tryz.sizeOf242,
    v79 := Tryz.zeroValue242, i79 := by kernel_rfl,
    t80 := Tryz.underlying243, a80 := Tryz.isAgg243, z80 := Tryz.sizeOf243,
    v80 := Tryz.zeroValue243, i80 := by kernel_rfl,
    t82 := Tryz.underlying245, a82 := Tryz.isAgg245, z82 := Tryz.sizeOf245,
    v82 := Tryz.zeroValue245,
    i82 :=
      Eq.refl
        (Option.some
          (Option.some
              (Go.Value.agg
                #[Go.Value.int Go.IntKind.u64 0, Go.Value.int Go.IntKind.u64 0, Go.Value.int Go.IntKind.u32 0,
                  Go.Value.int Go.IntKind.u8 0, Go.Value.int Go.IntKind.u8 0, Go.Value.int Go.IntKind.u8 0,
                  Go.Value.int Go.IntKind.u8 0, Go.Value.nilFunc, Go.Value.pointer Option.none,
                  Go.Value.int Go.IntKind.i32 0, Go.Value.int Go.IntKind.i32 0]),
            11, 48)) }
end Go.Proofs.YtbcjhghfmhdafaaGreat.K
