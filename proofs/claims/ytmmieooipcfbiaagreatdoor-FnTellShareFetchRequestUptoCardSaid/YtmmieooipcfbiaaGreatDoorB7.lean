/- The kit's sort.Slice, laid at this program (plain text, printed by a program). -/
import Derived.Test.YtmmieooipcfbiaaGreatDoorB5
import Derived.Shelf.GgSortFunc.Whole
import Derived.Shelf.GgSortFunc.Tiny
set_option linter.unusedVariables false
namespace Go.Proofs.YtmmieooipcfbiaaGreatDoor.K
open Go Go.Shelf
noncomputable def sa6_ren : Go.Shelf.Ren :=
  {
    f := fun x =>
      match x with
      | 6 => 123
      | 10 => 162
      | 11 => 163
      | 12 => 164
      | 13 => 165
      | 14 => 166
      | 24 => 186
      | 25 => 187
      | 26 => 188
      | 27 => 189
      | 28 => 190
      | 29 => 191
      | 30 => 192
      | 31 => 193
      | 32 => 194
      | 33 => 195
      | 34 => 197
      | 35 => 198
      | 36 => 199
      | 37 => 200
      | 38 => 201
      | 39 => 202
      | n => n,
    t := fun x =>
      match x with
      | 20 => 20
      | 26 => 166
      | 35 => 205
      | 0 => 0
      | 37 => 207
      | 3 => 3
      | 41 => 169
      | 44 => 212
      | 49 => 63
      | 51 => 99
      | 4 => 4
      | 54 => 228
      | 53 => 227
      | 58 => 232
      | 5 => 5
      | 9 => 9
      | 60 => 234
      | 64 => 237
      | 66 => 239
      | 67 => 240
      | 17 => 17
      | 32 => 202
      | 33 => 203
      | 82 => 255
      | 12 => 12
      | 75 => 248
      | 76 => 249
      | 77 => 250
      | 78 => 251
      | 79 => 252
      | 80 => 253
      | n => n,
    g := fun x => x }
set_option maxRecDepth 100000 in
theorem sa6 : LaysGg.n6 Tryz.prog sa6_ren :=
  { mixed := by kernel_rfl,
    f6 :=
      Eq.trans Tryz.func123
        (congrArg Option.some (by kernel_rfl)),
    f10 :=
      Eq.trans Tryz.func162
        (congrArg Option.some (by kernel_rfl)),
    f11 :=
      Eq.trans Tryz.func163
        (congrArg Option.some (by kernel_rfl)),
    f12 :=
      Eq.trans Tryz.func164
        (congrArg Option.some (by kernel_rfl)),
    f13 :=
      Eq.trans Tryz.func165
        (congrArg Option.some (by kernel_rfl)),
    f14 :=
      Eq.trans Tryz.func166
        (congrArg Option.some (by kernel_rfl)),
    f24 :=
      Eq.trans Tryz.func186
        (congrArg Option.some (by kernel_rfl)),
    f25 :=
      Eq.trans Tryz.func187
        (congrArg Option.some (by kernel_rfl)),
    f26 :=
      Eq.trans Tryz.func188
        (congrArg Option.some (by kernel_rfl)),
    f27 :=
      Eq.trans Tryz.func189
        (congrArg Option.some (by kernel_rfl)),
    f28 :=
      Eq.trans Tryz.func190
        (congrArg Option.some (by kernel_rfl)),
    f29 :=
      Eq.trans Tryz.func191
        (congrArg Option.some (by kernel_rfl)),
    f30 :=
      Eq.trans Tryz.func192
        (congrArg Option.some (by kernel_rfl)),
    f31 :=
      Eq.trans Tryz.func193
        (congrArg Option.some (by kernel_rfl)),
    f32 :=
      Eq.trans Tryz.func194
        (congrArg Option.some (by kernel_rfl)),
    f33 :=
      Eq.trans Tryz.func195
        (congrArg Option.some (by kernel_rfl)),
    f34 :=
      Eq.trans Tryz.func197
        (congrArg Option.some (by kernel_rfl)),
    f35 :=
      Eq.trans Tryz.func198
        (congrArg Option.some (by kernel_rfl)),
    f36 :=
      Eq.trans Tryz.func199
        (congrArg Option.some (by kernel_rfl)),
    f37 :=
      Eq.trans Tryz.func200
        (congrArg Option.some (by kernel_rfl)),
    f38 :=
      Eq.trans Tryz.func201
        (congrArg Option.some (by kernel_rfl)),
    f39 :=
      Eq.trans Tryz.func202
        (congrArg Option.some (by kernel_rfl)),
    t0 := Tryz.underlying0, a0 := Tryz.isAgg0, z0 := Tryz.sizeOf0,
    v0 := Tryz.zeroValue0, i0 := by kernel_rfl,
    t3 := Tryz.underlying3, a3 := Tryz.isAgg3, z3 := Tryz.sizeOf3,
    v3 := Tryz.zeroValue3, i3 := by kernel_rfl,
    t4 := Tryz.underlying4, a4 := Tryz.isAgg4, z4 := Tryz.sizeOf4,
    v4 := Tryz.zeroValue4, i4 := by kernel_rfl,
    t5 := Tryz.underlying5, a5 := Tryz.isAgg5, z5 := Tryz.sizeOf5,
    v5 := Tryz.zeroValue5, i5 := by kernel_rfl,
    t9 := Tryz.underlying9, a9 := Tryz.isAgg9, z9 := Tryz.sizeOf9,
    v9 := Tryz.zeroValue9, i9 := by kernel_rfl,
    t12 := Tryz.underlying12, a12 := Tryz.isAgg12, z12 := Tryz.sizeOf12,
    v12 := Tryz.zeroValue12, i12 := by kernel_rfl,
    t17 := Tryz.underlying17, a17 := Tryz.isAgg17, z17 := Tryz.sizeOf17,
    v17 := Tryz.zeroValue17, i17 := by kernel_rfl,
    t20 := Tryz.underlying20, a20 := Tryz.isAgg20, z20 := Tryz.sizeOf20,
    v20 := Tryz.zeroValue20, i20 := by kernel_rfl,
    t26 := Tryz.underlying166, a26 := Tryz.isAgg166, z26 := Tryz.sizeOf166,
    v26 := Tryz.zeroValue166, i26 := by kernel_rfl,
    t32 := Tryz.underlying202, a32 := Tryz.isAgg202, z32 := Tryz.sizeOf202,
    v32 := Tryz.zeroValue202, i32 := by kernel_rfl,
    t33 := Tryz.underlying203, a33 := Tryz.isAgg203, z33 := Tryz.sizeOf203,
    v33 := Tryz.zeroValue203, i33 := by kernel_rfl,
    t35 := Tryz.underlying205, a35 := Tryz.isAgg205, z35 := Tryz.sizeOf205,
    v35 := Tryz.zeroValue205,
    i35 :=
      Eq.refl
        (Option.some
          (Option.some
              (Go.Value.agg #[Go.Value.pointer Option.none, Go.Value.pointer Option.none, Go.Value.int Go.IntKind.u64 0]),
            3, 24)),
    t37 := Tryz.underlying207, a37 := Tryz.isAgg207, z37 := Tryz.sizeOf207,
    v37 := Tryz.zeroValue207, i37 := by kernel_rfl,
    t41 := Tryz.underlying169, a41 := Tryz.isAgg169, z41 := Tryz.sizeOf169,
    v41 := Tryz.zeroValue169, i41 := by kernel_rfl,
    t44 := Tryz.underlying212, a44 := Tryz.isAgg212, z44 := Tryz.sizeOf212,
    v44 := Tryz.zeroValue212,
    i44 := by kernel_rfl,
    t49 := Tryz.underlying63, a49 := Tryz.isAgg63, z49 := Tryz.sizeOf63,
    v49 := Tryz.zeroValue63, i49 := by kernel_rfl,
    t51 := Tryz.underlying99, a51 := Tryz.isAgg99, z51 := Tryz.sizeOf99,
    v51 := Tryz.zeroValue99, i51 := by kernel_rfl,
    t53 := Tryz.underlying227, a53 := Tryz.isAgg227, z53 := Tryz.sizeOf227,
    v53 := Tryz.zeroValue227, i53 := by kernel_rfl,
    t54 := Tryz.underlying228, a54 := Tryz.isAgg228, z54 := Tryz.sizeOf228,
    v54 := Tryz.zeroValue228,
    i54 :=
      Eq.refl
        (Option.some
          (Option.some (Go.Value.tuple #[Go.Value.int Go.IntKind.i64 0, Go.Value.int Go.IntKind.i64 0]), 1, 0)),
    t58 := Tryz.underlying232, a58 := Tryz.isAgg232, z58 := Tryz.sizeOf232,
    v58 := Tryz.zeroValue232,
    i58 :=
      Eq.refl
        (Option.some (Option.some (Go.Value.tuple #[Go.Value.int Go.IntKind.i64 0, Go.Value.bool Bool.false]), 1, 0)),
    t60 := Tryz.underlying234, a60 := Tryz.isAgg234, z60 := Tryz.sizeOf234,
    v60 := Tryz.zeroValue234, i60 := by kernel_rfl,
    t64 := Tryz.underlying237, a64 := Tryz.isAgg237, z64 := Tryz.sizeOf237,
    v64 := Tryz.zeroValue237, i64 := by kernel_rfl,
    t66 := Tryz.underlying239, a66 := Tryz.isAgg239, z66 := Tryz.sizeOf239,
    v66 := Tryz.zeroValue239, i66 := by kernel_rfl,
    t67 := Tryz.underlying240, a67 := Tryz.isAgg240, z67 := Tryz.sizeOf240,
    v67 := Tryz.zeroValue240,
    i67 :=
      Eq.refl
        (Option.some
          (Option.some (Go.Value.tuple #[Go.Value.int Go.IntKind.i64 0, Go.Value.int Go.IntKind.i64 0]), 1, 0)),
    t75 := Tryz.underlying248, a75 := Tryz.isAgg248, z75 := Tryz.sizeOf248,
    v75 := Tryz.zeroValue248, i75 := by kernel_rfl,
    t76 := Tryz.underlying249, a76 := Tryz.isAgg249, z76 := Tryz.sizeOf249,
    v76 := Tryz.zeroValue249, i76 := by kernel_rfl,
    t77 := Tryz.underlying250, a77 := Tryz.isAgg250, z77 := Tryz.sizeOf250,
    v77 := Tryz.zeroValue250, i77 := by kernel_rfl,
    t78 := Tryz.underlying251, a78 := Tryz.isAgg251, z78 := Tryz.sizeOf251,
    v78 := Tryz.zeroValue251, i78 := by kernel_rfl,
    t79 := Tryz.underlying252, a79 := Tryz.isAgg252, z79 := Tryz.sizeOf252,
    v79 := Tryz.zeroValue252, i79 := by kernel_rfl,
    t80 := Tryz.underlying253, a80 := Tryz.isAgg253, z80 := Tryz.sizeOf253,
    v80 := Tryz.zeroValue253, i80 := by kernel_rfl,
    t82 := Tryz.underlying255, a82 := Tryz.isAgg255, z82 := Tryz.sizeOf255,
    v82 := Tryz.zeroValue255,
    i82 :=
      Eq.refl
        (Option.some
          (Option.some
              (Go.Value.agg
                #[Go.Value.int Go.IntKind.u64 0, Go.Value.int Go.IntKind.u64 0, Go.Value.int Go.IntKind.u32 0,
                  Go.Value.int Go.IntKind.u8 0, Go.Value.int Go.IntKind.u8 0, Go.Value.int Go.IntKind.u8 0,
                  Go.Value.int Go.IntKind.u8 0, Go.Value.nilFunc, Go.Value.pointer Option.none,
                  Go.Value.int Go.IntKind.i32 0, Go.Value.int Go.IntKind.i32 0]),
            11, 48)) }
end Go.Proofs.YtmmieooipcfbiaaGreatDoor.K
