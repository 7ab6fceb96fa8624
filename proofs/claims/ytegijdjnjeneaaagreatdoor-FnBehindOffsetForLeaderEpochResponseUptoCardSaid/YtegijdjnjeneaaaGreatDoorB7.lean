/- The kit's sort.Slice, laid at this program (plain text, printed by a program). -/
import Derived.Test.YtegijdjnjeneaaaGreatDoorB5
import Derived.Shelf.GgSortFunc.Whole
import Derived.Shelf.GgSortFunc.Tiny
set_option linter.unusedVariables false
namespace Go.Proofs.YtegijdjnjeneaaaGreatDoor.K
open Go Go.Shelf
noncomputable def sa6_ren : Go.Shelf.Ren :=
  {
    f := fun x =>
      match x with
      | 6 => 140
      | 10 => 144
      | 11 => 145
      | 12 => 146
      | 13 => 147
      | 14 => 148
      | 24 => 139
      | 25 => 159
      | 26 => 160
      | 27 => 161
      | 28 => 162
      | 29 => 163
      | 30 => 164
      | 31 => 165
      | 32 => 166
      | 33 => 167
      | 34 => 168
      | 35 => 169
      | 36 => 170
      | 37 => 171
      | 38 => 172
      | 39 => 173
      | n => n,
    t := fun x =>
      match x with
      | 20 => 20
      | 26 => 166
      | 35 => 173
      | 0 => 0
      | 37 => 175
      | 3 => 3
      | 41 => 138
      | 44 => 180
      | 49 => 61
      | 51 => 77
      | 4 => 4
      | 54 => 188
      | 53 => 187
      | 58 => 192
      | 5 => 5
      | 9 => 9
      | 60 => 194
      | 64 => 197
      | 66 => 199
      | 67 => 200
      | 17 => 17
      | 32 => 170
      | 33 => 171
      | 82 => 215
      | 12 => 12
      | 75 => 208
      | 76 => 209
      | 77 => 210
      | 78 => 211
      | 79 => 212
      | 80 => 213
      | n => n,
    g := fun x => x }
set_option maxRecDepth 100000 in
theorem sa6 : LaysGg.n6 Tryz.prog sa6_ren :=
  { mixed := by kernel_rfl,
    f6 :=
      Eq.trans Tryz.func140
        (congrArg Option.some (by kernel_rfl)),
    f10 :=
      Eq.trans Tryz.func144
        (congrArg Option.some (by kernel_rfl)),
    f11 :=
      Eq.trans Tryz.func145
        (congrArg Option.some (by kernel_rfl)),
    f12 :=
      Eq.trans Tryz.func146
        (congrArg Option.some (by kernel_rfl)),
    f13 :=
      Eq.trans Tryz.func147
        (congrArg Option.some (by kernel_rfl)),
    f14 :=
      Eq.trans Tryz.func148
        (congrArg Option.some (by kernel_rfl)),
    f24 :=
      Eq.trans Tryz.func139
        (congrArg Option.some (by kernel_rfl)),
    f25 :=
      Eq.trans Tryz.func159
        (congrArg Option.some (by kernel_rfl)),
    f26 :=
      Eq.trans Tryz.func160
        (congrArg Option.some (by kernel_rfl)),
    f27 :=
      Eq.trans Tryz.func161
        (congrArg Option.some (by kernel_rfl)),
    f28 :=
      Eq.trans Tryz.func162
        (congrArg Option.some (by kernel_rfl)),
    f29 :=
      Eq.trans Tryz.func163
        (congrArg Option.some (by kernel_rfl)),
    f30 :=
      Eq.trans Tryz.func164
        (congrArg Option.some (by kernel_rfl)),
    f31 :=
      Eq.trans Tryz.func165
        (congrArg Option.some (by kernel_rfl)),
    f32 :=
      Eq.trans Tryz.func166
        (congrArg Option.some (by kernel_rfl)),
    f33 :=
      Eq.trans Tryz.func167
        (congrArg Option.some (by kernel_rfl)),
    f34 :=
      Eq.trans Tryz.func168
        (congrArg Option.some (by kernel_rfl)),
    f35 :=
      Eq.trans Tryz.func169
        (congrArg Option.some (by kernel_rfl)),
    f36 :=
      Eq.trans Tryz.func170
        (congrArg Option.some (by kernel_rfl)),
    f37 :=
      Eq.trans Tryz.func171
        (congrArg Option.some (by kernel_rfl)),
    f38 :=
      Eq.trans Tryz.func172
        (congrArg Option.some (by kernel_rfl)),
    f39 :=
      Eq.trans Tryz.func173
        (congrArg Option.some (by kernel_rfl)),
    t0 := Tryz.underlying0, a0 := Tryz.isAgg0, z0 := Tryz.sizeOf0,
    v0 := Tryz.zeroValue0, i0 := by kernel_rfl,
    t3 := Tryz.underlying3, a3 := Tryz.isAgg3, z3 := Tryz.sizeOf3,
    v3 := Tryz.zeroValue3, i3 := by kernel_rfl,
    t4 := Tryz.underlying4, a4 := Tryz.isAgg4, z4 := Tryz.sizeOf4,
    v4 := Tryz.zeroValue4, i4 := by kernel_rfl,
    t5 := Tryz.underlying5, a5 := Tryz.isAgg5, z5 := Tryz.sizeOf5,
    v5 := Tryz.zeroValue5, i5 := by kernel_rfl,
    t9 := Tryz.underlying9, a9 := Tryz.isAgg9, z9 := Tryz.sizeOf9,
    v9 := Tryz.zeroValue9, i9 := by kernel_rfl,
    t12 := Tryz.underlying12, a12 := Tryz.isAgg12, z12 := Tryz.sizeOf12,
    v12 := Tryz.zeroValue12, i12 := by kernel_rfl,
    t17 := Tryz.underlying17, a17 := Tryz.isAgg17, z17 := Tryz.sizeOf17,
    v17 := Tryz.zeroValue17, i17 := by kernel_rfl,
    t20 := Tryz.underlying20, a20 := Tryz.isAgg20, z20 := Tryz.sizeOf20,
    v20 := Tryz.zeroValue20, i20 := by kernel_rfl,
    t26 := Tryz.underlying166, a26 := Tryz.isAgg166, z26 := Tryz.sizeOf166,
    v26 := Tryz.zeroValue166, i26 := by kernel_rfl,
    t32 := Tryz.underlying170, a32 := Tryz.isAgg170, z32 := Tryz.sizeOf170,
    v32 := Tryz.zeroValue170, i32 := by kernel_rfl,
    t33 := Tryz.underlying171, a33 := Tryz.isAgg171, z33 := Tryz.sizeOf171,
    v33 := Tryz.zeroValue171, i33 := by kernel_rfl,
    t35 := Tryz.underlying173, a35 := Tryz.isAgg173, z35 := Tryz.sizeOf173,
    v35 := Tryz.zeroValue173,
    i35 :=
      Eq.refl
        (Option.some
          (Option.some
              (Go.Value.agg #[Go.Value.pointer Option.none, Go.Value.pointer Option.none, Go.Value.int Go.IntKind.u64 0]),
            3, 24)),
    t37 := Tryz.underlying175, a37 := Tryz.isAgg175, z37 := Tryz.sizeOf175,
    v37 := Tryz.zeroValue175, i37 := by kernel_rfl,
    t41 := Tryz.underlying138, a41 := Tryz.isAgg138, z41 := Tryz.sizeOf138,
    v41 := Tryz.zeroValue138, i41 := by kernel_rfl,
    t44 := Tryz.underlying180, a44 := Tryz.isAgg180, z44 := Tryz.sizeOf180,
    v44 := Tryz.zeroValue180,
    i44 := by kernel_rfl,
    t49 := Tryz.underlying61, a49 := Tryz.isAgg61, z49 := Tryz.sizeOf61,
    v49 := Tryz.zeroValue61, i49 := by kernel_rfl,
    t51 := Tryz.underlying77, a51 := Tryz.isAgg77, z51 := Tryz.sizeOf77,
    v51 := Tryz.zeroValue77, i51 := by kernel_rfl,
    t53 := Tryz.underlying187, a53 := Tryz.isAgg187, z53 := Tryz.sizeOf187,
    v53 := Tryz.zeroValue187, i53 := by kernel_rfl,
    t54 := Tryz.underlying188, a54 := Tryz.isAgg188, z54 := Tryz.sizeOf188,
    v54 := Tryz.zeroValue188,
    i54 :=
      Eq.refl
        (Option.some
          (Option.some (Go.Value.tuple #[Go.Value.int Go.IntKind.i64 0, Go.Value.int Go.IntKind.i64 0]), 1, 0)),
    t58 := Tryz.underlying192, a58 := Tryz.isAgg192, z58 := Tryz.sizeOf192,
    v58 := Tryz.zeroValue192,
    i58 :=
      Eq.refl
        (Option.some (Option.some (Go.Value.tuple #[Go.Value.int Go.IntKind.i64 0, Go.Value.bool Bool.false]), 1, 0)),
    t60 := Tryz.underlying194, a60 := Tryz.isAgg194, z60 := Tryz.sizeOf194,
    v60 := Tryz.zeroValue194, i60 := by kernel_rfl,
    t64 := Tryz.underlying197, a64 := Tryz.isAgg197, z64 := Tryz.sizeOf197,
    v64 := Tryz.zeroValue197, i64 := by kernel_rfl,
    t66 := Tryz.underlying199, a66 := Tryz.isAgg199, z66 := Tryz.sizeOf199,
    v66 := Tryz.zeroValue199, i66 := by kernel_rfl,
    t67 := Tryz.underlying200, a67 := Tryz.isAgg200, z67 := Tryz.sizeOf200,
    v67 := Tryz.zeroValue200,
    i67 :=
      Eq.refl
        (Option.some
          (Option.some (Go.Value.tuple #[Go.Value.int Go.IntKind.i64 0, Go.Value.int Go.IntKind.i64 0]), 1, 0)),
    t75 := Tryz.underlying208, a75 := Tryz.isAgg208, z75 := Tryz.sizeOf208,
    v75 := Tryz.zeroValue208, i75 := by kernel_rfl,
    t76 := Tryz.underlying209, a76 := Tryz.isAgg209, z76 := Tryz.sizeOf209,
    v76 := Tryz.zeroValue209, i76 := by kernel_rfl,
    t77 := Tryz.underlying210, a77 := Tryz.isAgg210, z77 := Tryz.sizeOf210,
    v77 := Tryz.zeroValue210, i77 := by kernel_rfl,
    t78 := Tryz.underlying211, a78 := Tryz.isAgg211, z78 := Tryz.sizeOf211,
    v78 := Tryz.zeroValue211, i78 := by kernel_rfl,
    t79 := Tryz.underlying212, a79 := Tryz.isAgg212, z79 := Tryz.sizeOf212,
    v79 := Tryz.zeroValue212, i79 := by kernel_rfl,
    t80 := Tryz.underlying213, a80 := Tryz.isAgg213, z80 := Tryz.sizeOf213,
    v80 := Tryz.zeroValue213, i80 := by kernel_rfl,
    t82 := Tryz.underlying215, a82 := Tryz.isAgg215, z82 := Tryz.sizeOf215,
    v82 := Tryz.zeroValue215,
    i82 :=
      Eq.refl
        (Option.some
          (Option.some
              (Go.Value.agg
                #[Go.Value.int Go.IntKind.u64 0, Go.Value.int Go.IntKind.u64 0, Go.Value.int Go.IntKind.u32 0,
                  Go.Value.int Go.IntKind.u8 0, Go.Value.int Go.IntKind.u8 0, Go.Value.int Go.IntKind.u8 0,
                  Go.Value.int Go.IntKind.u8 0, Go.Value.nilFunc, Go.Value.pointer Option.none,
                  Go.Value.int Go.IntKind.i32 0, Go.Value.int Go.IntKind.i32 0]),
            11, 48)) }
end Go.Proofs.YtegijdjnjeneaaaGreatDoor.K
