/- The kit's sort.Slice, laid at this program (plain text, printed by a program). -/
import Derived.Test.YtabhhkdgfdjicaaGreatDoorB5
import Derived.Shelf.GgSortFunc.Whole
import Derived.Shelf.GgSortFunc.Tiny
set_option linter.unusedVariables false
namespace Go.Proofs.YtabhhkdgfdjicaaGreatDoor.K
open Go Go.Shelf
noncomputable def sa6_ren : Go.Shelf.Ren :=
  {
    f := fun x =>
      match x with
      | 6 => 111
      | 10 => 114
      | 11 => 115
      | 12 => 116
      | 13 => 117
      | 14 => 118
      | 24 => 110
      | 25 => 128
      | 26 => 129
      | 27 => 130
      | 28 => 131
      | 29 => 132
      | 30 => 133
      | 31 => 134
      | 32 => 135
      | 33 => 136
      | 34 => 137
      | 35 => 138
      | 36 => 139
      | 37 => 140
      | 38 => 141
      | 39 => 142
      | n => n,
    t := fun x =>
      match x with
      | 20 => 20
      | 26 => 166
      | 35 => 171
      | 0 => 0
      | 37 => 173
      | 3 => 3
      | 41 => 126
      | 44 => 178
      | 49 => 64
      | 51 => 80
      | 4 => 4
      | 54 => 185
      | 53 => 184
      | 58 => 189
      | 5 => 5
      | 9 => 9
      | 60 => 191
      | 64 => 194
      | 66 => 196
      | 67 => 197
      | 17 => 17
      | 32 => 168
      | 33 => 169
      | 82 => 213
      | 12 => 12
      | 75 => 206
      | 76 => 207
      | 77 => 208
      | 78 => 209
      | 79 => 210
      | 80 => 211
      | n => n,
    g := fun x => x }
set_option maxRecDepth 100000 in
theorem sa6 : LaysGg.n6 Tryz.prog sa6_ren :=
  { mixed := by kernel_rfl,
    f6 :=
      Eq.trans Tryz.func111
        (congrArg Option.some (by kernel_rfl)),
    f10 :=
      Eq.trans Tryz.func114
        (congrArg Option.some (by kernel_rfl)),
    f11 :=
      Eq.trans Tryz.func115
        (congrArg Option.some (by kernel_rfl)),
    f12 :=
      Eq.trans Tryz.func116
        (congrArg Option.some (by kernel_rfl)),
    f13 :=
      Eq.trans Tryz.func117
        (congrArg Option.some (by kernel_rfl)),
    f14 :=
      Eq.trans Tryz.func118
        (congrArg Option.some (by kernel_rfl)),
    f24 :=
      Eq.trans Tryz.func110
        (congrArg Option.some (by kernel_rfl)),
    f25 :=
      Eq.trans Tryz.func128
        (congrArg Option.some (by kernel_rfl)),
    f26 :=
      Eq.trans Tryz.func129
        (congrArg Option.some (by kernel_rfl)),
    f27 :=
      Eq.trans Tryz.func130
        (congrArg Option.some (by kernel_rfl)),
    f28 :=
      Eq.trans Tryz.func131
        (congrArg Option.some (by kernel_rfl)),
    f29 :=
      Eq.trans Tryz.func132
        (congrArg Option.some (by kernel_rfl)),
    f30 :=
      Eq.trans Tryz.func133
        (congrArg Option.some (by kernel_rfl)),
    f31 :=
      Eq.trans Tryz.func134
        (congrArg Option.some (by kernel_rfl)),
    f32 :=
      Eq.trans Tryz.func135
        (congrArg Option.some (by kernel_rfl)),
    f33 :=
      Eq.trans Tryz.func136
        (congrArg Option.some (by kernel_rfl)),
    f34 :=
      Eq.trans Tryz.func137
        (congrArg Option.some (by kernel_rfl)),
    f35 :=
      Eq.trans Tryz.func138
        (congrArg Option.some (by kernel_rfl)),
    f36 :=
      Eq.trans Tryz.func139
        (congrArg Option.some (by kernel_rfl)),
    f37 :=
      Eq.trans Tryz.func140
        (congrArg Option.some (by kernel_rfl)),
    f38 :=
      Eq.trans Tryz.func141
        (congrArg Option.some (by kernel_rfl)),
    f39 :=
      Eq.trans Tryz.func142
        (congrArg Option.some (by kernel_rfl)),
    t0 := Tryz.underlying0, a0 := Tryz.isAgg0, z0 := Tryz.sizeOf0,
    v0 := Tryz.zeroValue0, i0 := by kernel_rfl,
    t3 := Tryz.underlying3, a3 := Tryz.isAgg3, z3 := Tryz.sizeOf3,
    v3 := Tryz.zeroValue3, i3 := by kernel_rfl,
    t4 := Tryz.underlying4, a4 := Tryz.isAgg4, z4 := Tryz.sizeOf4,
    v4 := Tryz.zeroValue4, i4 := by kernel_rfl,
    t5 := Tryz.underlying5, a5 := Tryz.isAgg5, z5 := Tryz.sizeOf5,
    v5 := Tryz.zeroValue5, i5 := by kernel_rfl,
    t9 := Tryz.underlying9, a9 := Tryz.isAgg9, z9 := Tryz.sizeOf9,
    v9 := Tryz.zeroValue9, i9 := by kernel_rfl,
    t12 := Tryz.underlying12, a12 := Tryz.isAgg12, z12 := Tryz.sizeOf12,
    v12 := Tryz.zeroValue12, i12 := by kernel_rfl,
    t17 := Tryz.underlying17, a17 := Tryz.isAgg17, z17 := Tryz.sizeOf17,
    v17 := Tryz.zeroValue17, i17 := by kernel_rfl,
    t20 := Tryz.underlying20, a20 := Tryz.isAgg20, z20 := Tryz.sizeOf20,
    v20 := Tryz.zeroValue20, i20 := by kernel_rfl,
    t26 := Tryz.underlying166, a26 := Tryz.isAgg166, z26 := Tryz.sizeOf166,
    v26 := Tryz.zeroValue166, i26 := by kernel_rfl,
    t32 := Tryz.underlying168, a32 := Tryz.isAgg168, z32 := Tryz.sizeOf168,
    v32 := Tryz.zeroValue168, i32 := by kernel_rfl,
    t33 := Tryz.underlying169, a33 := Tryz.isAgg169, z33 := Tryz.sizeOf169,
    v33 := Tryz.zeroValue169, i33 := by kernel_rfl,
    t35 := Tryz.underlying171, a35 := Tryz.isAgg171, z35 := Tryz.sizeOf171,
    v35 := Tryz.zeroValue171,
    i35 :=
      Eq.refl
        (Option.some
          (Option.some
              (Go.Value.agg #[Go.Value.pointer Option.none, Go.Value.pointer Option.none, Go.Value.int Go.IntKind.u64 0]),
            3, 24)),
    t37 := Tryz.underlying173, a37 := Tryz.isAgg173, z37 := Tryz.sizeOf173,
    v37 := Tryz.zeroValue173, i37 := by kernel_rfl,
    t41 := Tryz.underlying126, a41 := Tryz.isAgg126, z41 := Tryz.sizeOf126,
    v41 := Tryz.zeroValue126, i41 := by kernel_rfl,
    t44 := Tryz.underlying178, a44 := Tryz.isAgg178, z44 := Tryz.sizeOf178,
    v44 := Tryz.zeroValue178,
    i44 := by kernel_rfl,
    t49 := Tryz.underlying64, a49 := Tryz.isAgg64, z49 := Tryz.sizeOf64,
    v49 := Tryz.zeroValue64, i49 := by kernel_rfl,
    t51 := Tryz.underlying80, a51 := Tryz.isAgg80, z51 := Tryz.sizeOf80,
    v51 := Tryz.zeroValue80, i51 := by kernel_rfl,
    t53 := Tryz.underlying184, a53 := Tryz.isAgg184, z53 := Tryz.sizeOf184,
    v53 := Tryz.zeroValue184, i53 := by kernel_rfl,
    t54 := Tryz.underlying185, a54 := Tryz.isAgg185, z54 := Tryz.sizeOf185,
    v54 := Tryz.zeroValue185,
    i54 :=
      Eq.refl
        (Option.some
          (Option.some (Go.Value.tuple #[Go.Value.int Go.IntKind.i64 0, Go.Value.int Go.IntKind.i64 0]), 1, 0)),
    t58 := Tryz.underlying189, a58 := Tryz.isAgg189, z58 := Tryz.sizeOf189,
    v58 := Tryz.zeroValue189,
    i58 :=
      Eq.refl
        (Option.some (Option.some (Go.Value.tuple #[Go.Value.int Go.IntKind.i64 0, Go.Value.bool Bool.false]), 1, 0)),
    t60 := Tryz.underlying191, a60 := Tryz.isAgg191, z60 := Tryz.sizeOf191,
    v60 := Tryz.zeroValue191, i60 := by kernel_rfl,
    t64 := Tryz.underlying194, a64 := Tryz.isAgg194, z64 := Tryz.sizeOf194,
    v64 := Tryz.zeroValue194, i64 := by kernel_rfl,
    t66 := Tryz.underlying196, a66 := Tryz.isAgg196, z66 := Tryz.sizeOf196,
    v66 := Tryz.zeroValue196, i66 := by kernel_rfl,
    t67 := Tryz.underlying197, a67 := Tryz.isAgg197, z67 := Tryz.sizeOf197,
    v67 := Tryz.zeroValue197,
    i67 :=
      Eq.refl
        (Option.some
          (Option.some (Go.Value.tuple #[Go.Value.int Go.IntKind.i64 0, Go.Value.int Go.IntKind.i64 0]), 1, 0)),
    t75 := Tryz.underlying206, a75 := Tryz.isAgg206, z75 := Tryz.sizeOf206,
    v75 := Tryz.zeroValue206, i75 := by kernel_rfl,
    t76 := Tryz.underlying207, a76 := Tryz.isAgg207, z76 := Tryz.sizeOf207,
    v76 := Tryz.zeroValue207, i76 := by kernel_rfl,
    t77 := Tryz.underlying208, a77 := Tryz.isAgg208, z77 := Tryz.sizeOf208,
    v77 := Tryz.zeroValue208, i77 := by kernel_rfl,
    t78 := Tryz.underlying209, a78 := Tryz.isAgg209, z78 := Tryz.sizeOf209,
    v78 := Tryz.zeroValue209, i78 := by kernel_rfl,
    t79 := Tryz.underlying210, a79 := Tryz.isAgg210, z79 := Tryz.sizeOf210,
    v79 := Tryz.zeroValue210, i79 := by kernel_rfl,
    t80 := Tryz.underlying211, a80 := Tryz.isAgg211, z80 := Tryz.sizeOf211,
    v80 := Tryz.zeroValue211, i80 := by kernel_rfl,
    t82 := Tryz.underlying213, a82 := Tryz.isAgg213, z82 := Tryz.sizeOf213,
    v82 := Tryz.zeroValue213,
    i82 :=
      Eq.refl
        (Option.some
          (Option.some
              (Go.Value.agg
                #[Go.Value.int Go.IntKind.u64 0, Go.Value.int Go.IntKind.u64 0, Go.Value.int Go.IntKind.u32 0,
                  Go.Value.int Go.IntKind.u8 0, Go.Value.int Go.IntKind.u8 0, Go.Value.int Go.IntKind.u8 0,
                  Go.Value.int Go.IntKind.u8 0, Go.Value.nilFunc, Go.Value.pointer Option.none,
                  Go.Value.int Go.IntKind.i32 0, Go.Value.int Go.IntKind.i32 0]),
            11, 48)) }
end Go.Proofs.YtabhhkdgfdjicaaGreatDoor.K
