/- The conditions of single operations: that they suffice. -/
import Derived.Test.YtbcjhghfmhdafaaGreatK1
set_option linter.unusedVariables false
set_option linter.unusedSimpArgs false
namespace Go.Proofs.YtbcjhghfmhdafaaGreat.K
open Go
theorem foldSet_spec (off : Nat) : ∀ (vs : List Value) (k : Nat) (cs : Array Value),
    ((vs.zipIdx k).foldl (fun (cs : Array Value) (x : Value × Nat) => cs.setIfInBounds (off + x.2) x.1) cs).toList = foldSet cs.toList (off + k) vs
  | [], k, cs => by simp [foldSet]
  | v :: r, k, cs => by
    simp only [List.zipIdx_cons, List.foldl_cons, foldSet]
    rw [foldSet_spec off r (k + 1)]
    simp [Nat.add_assoc]
theorem fill_step (place : Nat → Option (Nat × Nat)) (cs : Array Value) (f : Nat) (v : Value) (r : List (Nat × Value)) (off size : Nat)
    (hp : place f = some (off, size)) (h1 : v.cells.toList.length = size) (h2 : off + size ≤ cs.toList.length) :
    Instr.fill place cs ((f, v) :: r) = Instr.fill place (foldSet cs.toList off v.cells.toList).toArray r := by
  have hs : v.cells.size = size := by simpa using h1
  have hb : off + size ≤ cs.size := by simpa using h2
  conv => lhs; unfold Instr.fill
  simp only [hp, hs, ne_eq, not_true_eq_false, decide_false, Bool.false_or, gt_iff_lt, decide_eq_true_eq]
  rw [if_neg (by omega)]
  congr 1
  apply Array.ext'
  rw [← Array.foldl_toList]
  have := foldSet_spec off v.cells.toList 0 cs
  simpa using this
section
variable {X : Pr} {N : Nat} {e : Env} {a : Act} {w : World}
theorem places_of {fds : List Field} (h : allKnown X.tab (fds.map fun f => (f.offset, f.type)) = true) :
    ∃ places : List (Nat × Nat), fds.mapM (fun f => (X.P.info? f.type).map fun i => (f.offset, i.size)) = some places ∧
      ∀ (f : Nat) (fd : Field) (i : TI), fds[f]? = some fd → tlook X.tab fd.type = some i → places[f]? = some (fd.offset, i.size) := by
  induction fds with
  | nil => exact ⟨[], by simp, by simp⟩
  | cons fd r ih =>
    simp only [List.map_cons, allKnown, Bool.and_eq_true] at h
    obtain ⟨places, hp, hq⟩ := ih h.2
    obtain ⟨j, hj⟩ := Option.isSome_iff_exists.1 h.1
    obtain ⟨d, inf, z, hr⟩ := X.row hj
    refine ⟨(fd.offset, inf.size) :: places, by simp [hr.info, hp], fun f fd' i hf hi => ?_⟩
    cases f with
    | zero =>
      simp only [List.getElem?_cons_zero, Option.some.injEq] at hf
      subst hf
      rw [hj, Option.some.injEq] at hi
      subst hi
      simp [hr.size]
    | succ f => simpa using hq f fd' i (by simpa using hf) hi
theorem fieldOf_of {s : TypeId} {f off : Nat} {i : TI} {fds : Array Field} (hu : X.P.underlying s = some (.struct fds)) (h : fieldOf X.tab s f = some (off, i)) :
    ∃ fd, fds.toList[f]? = some fd ∧ fd.offset = off ∧ tlook X.tab fd.type = some i := by
  obtain ⟨fs, fd, t, hu', hf, ho, ht, hl, _⟩ := run_field h
  rw [hu, Option.some.injEq, TypeDesc.struct.injEq] at hu'
  subst hu'
  subst ht
  exact ⟨fd, by rw [← nth_nat]; exact hf, ho, hl⟩
theorem buildV_fill (ha : Agree N e a) {s : TypeId} {fds : Array Field} (hu : X.P.underlying s = some (.struct fds)) (places : List (Nat × Nat))
    (hpl : ∀ (f : Nat) (fd : Field) (i : TI), fds.toList[f]? = some fd → tlook X.tab fd.type = some i → places[f]? = some (fd.offset, i.size)) :
    ∀ (parts : List (Nat × Operand)) (cs : List Value) (l : List Value), buildV X.tab e s cs parts = some l →
      Instr.fill (places.toArray[·]?) cs.toArray (parts.map fun (i, x) => (i, a.eval x)) = some l.toArray
  | [], cs, l, h => by simp only [buildV, Option.some.injEq] at h; simp [Instr.fill, h]
  | (f, x) :: r, cs, l, h => by
    simp only [buildV] at h
    split at h
    · rename_i off i v hf hx
      cases hc : (Nat.beq v.cells.toList.length i.size && Nat.ble (off + i.size) cs.length) with
      | false => rw [hc] at h; simp at h
      | true =>
        rw [hc, cond_true] at h
        rw [Bool.and_eq_true] at hc
        obtain ⟨h1, h2⟩ := hc
        have h1 := Nat.eq_of_beq_eq_true h1
        have h2 := Nat.le_of_ble_eq_true h2
        obtain ⟨fd, hfd, ho, hl⟩ := fieldOf_of hu hf
        have hp := hpl f fd i hfd hl
        rw [List.map_cons]
        show Instr.fill _ _ ((f, a.eval x) :: _) = _
        rw [ha.ev hx]
        rw [fill_step _ _ f v _ off i.size (by rw [← ho]; simpa using hp) h1 (by simpa using h2)]
        exact buildV_fill ha hu places hpl r _ l h
    · simp at h
theorem nil_cases {d : TD} {u v : Value} {b : Bool} (h1 : nilOf d v = true) (h2 : kindFits d u = true) (hb : isNil u = some b) :
    (∃ e a n c n' c', d = .slice e ∧ u = .slice a n c ∧ v = .slice none n' c' ∧ b = a.isNone) ∨ (∃ e a, d = .ptr e ∧ u = .pointer a ∧ v = .pointer none ∧ b = a.isNone) ∨
    (∃ k e a, d = .map k e ∧ u = .map a ∧ v = .map none ∧ b = a.isNone) ∨ (d = .iface ∧ v = .nilIface ∧ u = .nilIface ∧ b = true) ∨ (∃ t x, d = .iface ∧ v = .nilIface ∧ u = .iface t x ∧ b = false) := by
  unfold nilOf at h1
  split at h1
  · rename_i e n' c'
    cases u <;> simp [kindFits] at h2
    rename_i a n c
    exact .inl ⟨e, a, n, c, n', c', rfl, rfl, rfl, by simpa [isNil] using hb.symm⟩
  · rename_i e
    cases u <;> simp [kindFits] at h2
    rename_i a
    exact .inr (.inl ⟨e, a, rfl, rfl, rfl, by simpa [isNil] using hb.symm⟩)
  · rename_i k e
    cases u <;> simp [kindFits] at h2
    rename_i a
    exact .inr (.inr (.inl ⟨k, e, a, rfl, rfl, rfl, by simpa [isNil] using hb.symm⟩))
  · cases u <;> simp [kindFits] at h2
    · rename_i t x
      exact .inr (.inr (.inr (.inr ⟨t, x, rfl, rfl, rfl, by simpa [isNil] using hb.symm⟩)))
    · exact .inr (.inr (.inr (.inl ⟨rfl, rfl, rfl, by simpa [isNil] using hb.symm⟩)))
  · simp at h1
theorem run_equalIn_nil (n : Nat) {t : TypeId} {i : TI} (hi : tlook X.tab t = some i) {u v : Value} {b : Bool} (h1 : nilOf i.d v = true) (h2 : kindFits i.d u = true) (hb : isNil u = some b) :
    (Op.equalIn (n + 1) t u v).run X.P w = .ok b w := by
  obtain ⟨d, inf, z, hr⟩ := X.row hi
  have hd := hr.desc
  unfold Op.equalIn
  simp only [Sem.run_bind, hr.run_und, Result.andThen_ok]
  rcases nil_cases h1 h2 hb with ⟨e, a, n, c, n', c', hq, rfl, rfl, rfl⟩ | ⟨e, a, hq, rfl, rfl, rfl⟩ | ⟨k, e, a, hq, rfl, rfl, rfl⟩ | ⟨hq, rfl, rfl, rfl⟩ | ⟨t, x, hq, rfl, rfl, rfl⟩ <;> rw [hq] at hd <;>
    (cases d <;> simp [descOf] at hd) <;> (try cases a) <;> rfl
theorem run_equal_nil {t : TypeId} {i : TI} (hi : tlook X.tab t = some i) {u v : Value} {b : Bool} (h1 : nilOf i.d v = true) (h2 : kindFits i.d u = true) (hb : isNil u = some b) :
    (Op.equal t u v).run X.P w = .ok b w := run_equalIn_nil 9999 hi h1 h2 hb
theorem run_guard_nil {op : BinOp} {t : TypeId} {x : Operand} {c : Value} {i : TI} {u v : Value} {b : Bool} (h1 : nilOf i.d v = true) (h2 : kindFits i.d u = true) (hb : isNil u = some b) :
    (eqGuard op t x (.const c) u v).run X.P w = .ok () w := by
  unfold eqGuard
  rcases nil_cases h1 h2 hb with ⟨e, a, n, c, n', c', hq, rfl, rfl, rfl⟩ | ⟨e, a, hq, rfl, rfl, rfl⟩ | ⟨k, e, a, hq, rfl, rfl, rfl⟩ | ⟨hq, rfl, rfl, rfl⟩ | ⟨t, x, hq, rfl, rfl, rfl⟩ <;> cases op <;> simp
theorem run_binOp_nil {t : TypeId} {i : TI} {u v : Value} {b : Bool} (h1 : nilOf i.d v = true) (h2 : kindFits i.d u = true) (hb : isNil u = some b) :
    binOp .eql t u v = (do pure (.bool (← Op.equal t u v))) ∧ binOp .neq t u v = (do pure (.bool (!(← Op.equal t u v)))) := by
  rcases nil_cases h1 h2 hb with ⟨e, a, n, c, n', c', hq, rfl, rfl, rfl⟩ | ⟨e, a, hq, rfl, rfl, rfl⟩ | ⟨k, e, a, hq, rfl, rfl, rfl⟩ | ⟨hq, rfl, rfl, rfl⟩ | ⟨t, x, hq, rfl, rfl, rfl⟩ <;> exact ⟨rfl, rfl⟩
theorem run_binV {op : BinOp} {t : TypeId} {x y : Operand} {u v r : Value} (h : binV X.tab op t y u v = some r) :
    (do eqGuard op t x y u v; binOp op t u v : Sem Value).run X.P w = .ok r w := by
  unfold binV at h
  split at h
  · rename_i k i k' b
    have hg : (eqGuard op t x y (.int k i) (.int k' b)).run X.P w = .ok () w := by unfold eqGuard; split <;> rfl
    simp only [Sem.run_bind, hg, Result.andThen_ok]
    unfold intBin at h
    by_cases hk : k = k'
    · subst hk
      simp only [decide_true] at h
      cases op <;> simp only [Option.some.injEq, reduceCtorEq] at h <;> subst h <;>
        simp [binOp, Op.intArith, Op.intBits, Op.intCmp]
    · simp [hk] at h
  · rename_i hni
    split at h
    · rename_i c i hi
      cases hc : (nilOf i.d v && kindFits i.d u) with
      | false => rw [hc] at h; simp at h
      | true =>
        rw [hc, cond_true] at h
        rw [Bool.and_eq_true] at hc
        cases hb : isNil u with
        | none => rw [hb] at h; simp at h
        | some b =>
          rw [hb] at h
          simp only [Option.map_some, Option.some.injEq] at h
          simp only [Sem.run_bind, run_guard_nil (X := X) (w := w) hc.1 hc.2 hb, Result.andThen_ok, (run_binOp_nil hc.1 hc.2 hb).1, run_equal_nil (w := w) hi hc.1 hc.2 hb, Sem.run_pure, h]
    · rename_i c i hi
      cases hc : (nilOf i.d v && kindFits i.d u) with
      | false => rw [hc] at h; simp at h
      | true =>
        rw [hc, cond_true] at h
        rw [Bool.and_eq_true] at hc
        cases hb : isNil u with
        | none => rw [hb] at h; simp at h
        | some b =>
          rw [hb] at h
          simp only [Option.map_some, Option.some.injEq] at h
          simp only [Sem.run_bind, run_guard_nil (X := X) (w := w) hc.1 hc.2 hb, Result.andThen_ok, (run_binOp_nil hc.1 hc.2 hb).2, run_equal_nil (w := w) hi hc.1 hc.2 hb, Sem.run_pure, h]
    · simp at h
theorem list2 {α : Type} {xs : Array α} {x : α} (h : xs.toList = [x]) : xs = #[x] := Array.ext' (by simpa using h)
theorem run_lenV {t : TypeId} {i : TI} (hi : tlook X.tab t = some i) {u v : Value} (h : lenV i u = some v) (ty : TypeId) : (Builtin.len_ #[t] ty #[u]).run X.P w = .ok v w := by
  obtain ⟨d, inf, z, hr⟩ := X.row hi
  have hd := hr.desc
  unfold lenV at h
  split at h
  · rename_i a n c
    split at h
    · rename_i e he
      rw [he] at hd
      cases d <;> simp [descOf] at hd
      simp only [Option.some.injEq] at h
      simp [Builtin.len_, hr.run_und, goInt, h]
    · simp at h
  · rename_i s
    split at h
    · rename_i he
      rw [he] at hd
      cases d <;> simp [descOf] at hd
      simp only [Option.some.injEq] at h
      simp [Builtin.len_, hr.run_und, goInt, h]
    · simp at h
  · simp at h
/-- What only computes does what is said. -/
theorem pureOp_sound {o : Oper} {v : Value} (ha : Agree N e a) (h : pureOp X.tab o.op e = some v) : (execOp a.eval o).run X.P w = .ok (.value v) w := by
  unfold execOp
  cases ho : o.op <;> rw [ho] at h <;> (try (simp only [pureOp, reduceCtorEq] at h; done)) <;> dsimp only
  case move x => simp only [pureOp] at h; simp [ha.ev h]
  case assign x => simp only [pureOp] at h; simp [ha.ev h]
  case nilCheck x =>
    simp only [pureOp] at h
    split at h
    · rename_i hx
      simp only [Option.some.injEq] at h
      subst h
      rw [ha.ev hx]
      rfl
    · simp at h
  case fieldAddr s x f =>
    simp only [pureOp] at h
    split at h
    · rename_i hx hf
      simp only [Option.some.injEq] at h
      obtain ⟨fs, fd, t, hu, hfd, ho', ht, hl, hz⟩ := run_field hf
      obtain ⟨d, inf, z, hr⟩ := X.row hl
      subst ht
      have hadd : ∀ b o n : Nat, (⟨b, o, none⟩ : Addr).add n = ⟨b, o + n, none⟩ := by intro b o n; unfold Addr.add; split <;> simp_all
      simp [ha.ev hx, Instr.fieldAt, run_underlying hu, hfd, Instr.sureAddr, fieldPlace, hr.run_size, hz, hadd, ho', h]
    · simp at h
  case field s x f =>
    simp only [pureOp] at h
    split at h
    · rename_i hx hf
      obtain ⟨fs, fd, t, hu, hfd, ho', ht, hl, hz⟩ := run_field hf
      subst ht
      subst ho'
      simp [ha.ev hx, Instr.field, run_underlying hu, hfd, asAgg, run_part hl h]
    · simp at h
  case binOp op t x y yt =>
    simp only [pureOp] at h
    split at h
    · rename_i u u' hx hy
      have hb := run_binV (x := x) (X := X) (w := w) h
      rw [ha.ev hx, ha.ev hy]
      rw [Sem.run_bind] at hb ⊢
      rw [Sem.run_bind, hb]
      rfl
    · simp at h
  case unOp op t x =>
    cases op <;> simp only [pureOp, reduceCtorEq] at h
    split at h
    · rename_i hx
      simp only [Option.some.injEq] at h
      simp [ha.ev hx, Op.unary, h]
    · simp at h
  case convert s d x =>
    simp only [pureOp] at h
    split at h
    · rename_i hs hd hx
      simp only [Option.some.injEq] at h
      obtain ⟨_, _, _, hrs⟩ := X.row hs
      obtain ⟨dd, _, _, hrd⟩ := X.row hd
      have hdd := hrd.desc
      cases dd <;> simp [descOf] at hdd
      subst hdd
      simp [ha.ev hx, convert, hrs.run_und, hrd.run_und, Conv.intToInt, h]
    · simp at h
  case build s parts =>
    simp only [pureOp] at h
    split at h
    · rename_i fs sz by0 z hs
      cases hk : allKnown X.tab fs with
      | false => rw [hk] at h; simp at h
      | true =>
        rw [hk, cond_true, Option.map_eq_some_iff] at h
        obtain ⟨l, hl, rfl⟩ := h
        obtain ⟨d, inf, zv, hr⟩ := X.row hs
        have hd := hr.desc
        cases d <;> simp [descOf] at hd
        rename_i fds
        subst hd
        obtain ⟨places, hp, hq⟩ := places_of (X := X) (fds := fds.toList) hk
        have hz := hr.cells
        simp only at hz
        have hb := buildV_fill ha hr.und places hq parts.toList _ l hl
        rw [← hz] at hb
        have : X.P.built s (parts.map fun (i, x) => (i, a.eval x)).toList = some l.toArray := by
          unfold Program.built
          simp only [hr.info, hr.und, hr.zero, hp]
          simpa using hb
        simp [run_build w s _ _ this]
    · simp at h
  case call c =>
    obtain ⟨callee, args, tys⟩ := c
    cases callee <;> try (simp only [pureOp, reduceCtorEq] at h; done)
    rename_i b
    cases b <;> try (simp only [pureOp, reduceCtorEq] at h; done)
    · simp only [pureOp] at h
      split at h
      · rename_i x t hxs hts
        split at h
        · rename_i i u hi hx
          have hax := list2 hxs
          have htx := list2 hts
          subst hax
          subst htx
          simp [resolve, invoke, builtin, ha.ev hx, run_lenV (w := w) hi h]
        · simp at h
      · simp at h
    · simp only [pureOp] at h
      split at h
      · rename_i k i j b hxs
        simp only [Option.some.injEq] at h
        have := ha.evs _ _ hxs
        simp [resolve, invoke, builtin, Builtin.max_, this, Builtin.max2, h]
      · simp at h
    · simp only [pureOp] at h
      split at h
      · rename_i k i j b hxs
        simp only [Option.some.injEq] at h
        have := ha.evs _ _ hxs
        simp [resolve, invoke, builtin, Builtin.min_, this, Builtin.min2, h]
      · simp at h
  case pick c x y =>
    simp only [pureOp] at h
    split at h
    · rename_i hc
      simp [ha.ev hc, asBool, ha.ev h]
    · rename_i hc
      simp [ha.ev hc, asBool, ha.ev h]
    · simp at h
  case extract x i =>
    simp only [pureOp] at h
    split at h
    · rename_i vs hx
      simp [ha.ev hx, Instr.extract, nth_nat, h]
    · simp at h
  case makeFunc fn first cap =>
    simp only [pureOp] at h
    split at h
    · rename_i f c hf hc
      simp only [Option.some.injEq] at h
      have h1 := ha.evs _ _ hf
      have h2 := ha.evs _ _ hc
      have e1 : first.map a.eval = f.toArray := Array.ext' (by simpa using h1)
      have e2 : cap.map a.eval = c.toArray := Array.ext' (by simpa using h2)
      simp [Instr.makeFunc, e1, e2, h]
    · simp at h
  case makeInterface t x =>
    simp only [pureOp] at h
    split at h
    · simp at h
    · rename_i i u hni hi hx
      simp only [Option.some.injEq] at h
      obtain ⟨d, inf, z, hr⟩ := X.row hi
      have hd := hr.desc
      cases d <;> simp [descOf] at hd <;> (try (simp [Instr.makeInterface, hr.run_und, ha.ev hx, h]; done))
      obtain ⟨di, s1, b1, z1⟩ := i
      simp only at hd
      subst hd
      exact (hni s1 b1 z1 rfl).elim
    · simp at h
end
end Go.Proofs.YtbcjhghfmhdafaaGreat.K
