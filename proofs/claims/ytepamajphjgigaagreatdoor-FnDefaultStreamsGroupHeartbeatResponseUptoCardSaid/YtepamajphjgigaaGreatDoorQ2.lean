
/- Reading by the protocol, in plain Lean: whole parts; what is read stays bad; a list of things. The plain law of reading: what was written is read as told (descriptions without tagged fields). What is appended of a told tree is what was written. -/
import Derived.Test.YtepamajphjgigaaGreatDoorP0
import Derived.Test.YtepamajphjgigaaGreatDoorP2
/-! Reading by the protocol, in plain Lean: whole parts; what is read stays bad; a list of things. -/
set_option linter.unusedVariables false
set_option linter.unusedSimpArgs false
namespace Go.Proofs.YtepamajphjgigaaGreatDoor.K
open Go

def numT (n : Int) : T := .mk n [] false [] []
/-- A length ahead of a text or of octets. -/
def rdSz (fx : Bool) (k : Nat) (ik : IntKind) (s : Rd) : Int × Rd := if fx = true then (((rdUv s).1 : Int) - 1, (rdUv s).2) else (ik.wrap ((rdK k s).1 : Int), (rdK k s).2)
def rdTx (fx : Bool) (s : Rd) : List UInt8 × Rd := rdSpan (rdSz fx 2 .i16 s).1 (rdSz fx 2 .i16 s).2
def rdNt (fx : Bool) (s : Rd) : T × Rd :=
  if (rdSz fx 2 .i16 s).1 < 0 then (.mk 0 [] true [] [], (rdSz fx 2 .i16 s).2) else (.mk 0 (rdTx fx s).1 false [] [], (rdTx fx s).2)
def rdOc (fx : Bool) (s : Rd) : T × Rd :=
  if (rdSz fx 4 .i32 s).1 = -1 then (.mk 0 [] false [] [], (rdSz fx 4 .i32 s).2)
  else (.mk 0 (if (rdSpan (rdSz fx 4 .i32 s).1 (rdSz fx 4 .i32 s).2).2.2 = true then [] else (rdSpan (rdSz fx 4 .i32 s).1 (rdSz fx 4 .i32 s).2).1) (rdSpan (rdSz fx 4 .i32 s).1 (rdSz fx 4 .i32 s).2).2.2 [] [], (rdSpan (rdSz fx 4 .i32 s).1 (rdSz fx 4 .i32 s).2).2)
def rdNo (fx : Bool) (s : Rd) : T × Rd :=
  if (rdSz fx 4 .i32 s).1 < 0 then (.mk 0 [] true [] [], (rdSz fx 4 .i32 s).2)
  else (.mk 0 (if (rdSpan (rdSz fx 4 .i32 s).1 (rdSz fx 4 .i32 s).2).2.2 = true then [] else (rdSpan (rdSz fx 4 .i32 s).1 (rdSz fx 4 .i32 s).2).1) (rdSpan (rdSz fx 4 .i32 s).1 (rdSz fx 4 .i32 s).2).2.2 [] [], (rdSpan (rdSz fx 4 .i32 s).1 (rdSz fx 4 .i32 s).2).2)
theorem rdNt_form (fx : Bool) (s : Rd) : ∃ nl u, (rdNt fx s).1 = .mk 0 u nl [] [] ∧ (nl = true → u = []) := by
  unfold rdNt
  split
  · exact ⟨true, [], rfl, fun _ => rfl⟩
  · exact ⟨false, _, rfl, fun h => (by cases h)⟩
def rdLz (fx : Bool) (s : Rd) : Int × Rd := if fx = true then (IntKind.i32.wrap (IntKind.i32.wrap ((rdUv s).1 : Int) - 1), (rdUv s).2) else (IntKind.i32.wrap ((rdK 4 s).1 : Int), (rdK 4 s).2)
/-- A count of things; each of them has an octet at the least. -/
def rdLn (fx : Bool) (s : Rd) : Int × Rd := if ((rdLz fx s).2.1.length : Int) < (rdLz fx s).1 then (0, ([], true)) else rdLz fx s
/-- So many things, one behind the other. -/
def rdN (g : Rd → T × Rd) : Nat → Rd → List T × Rd
  | 0, s => ([], s)
  | n + 1, s => ((rdN g n s).1 ++ [(g (rdN g n s).2).1], (g (rdN g n s).2).2)
def rdLs (nl : Int → Bool) (g : Rd → T × Rd) (fx : Bool) (s : Rd) : T × Rd :=
  (.mk 0 [] (nl (rdLn fx s).1) (rdN g (rdLn fx s).1.toNat (rdLn fx s).2).1 [], (rdN g (rdLn fx s).1.toNat (rdLn fx s).2).2)
/-- A tag is set: where it was, or behind the others. -/
def setT : List Tg → Tg → List Tg
  | [], t => [t]
  | x :: r, t => if x.1 = t.1 then t :: r else x :: setT r t
def rdTgN : Nat → List Tg → Rd → List Tg × Rd
  | 0, u, s => (u, s)
  | n + 1, u, s => rdTgN n (setT u ((rdUv s).1, (rdSpan ((rdUv (rdUv s).2).1 : Int) (rdUv (rdUv s).2).2).1)) (rdSpan ((rdUv (rdUv s).2).1 : Int) (rdUv (rdUv s).2).2).2
def rdTags (s : Rd) : List Tg × Rd := rdTgN (rdUv s).1 [] (rdUv s).2
def rdTagsF (fx : Bool) (s : Rd) : List Tg × Rd := if fx = true then rdTags s else ([], s)
def rdNum (k : Nat) (ik : IntKind) (s : Rd) : T × Rd := (numT (ik.wrap ((rdK k s).1 : Int)), (rdK k s).2)
def rdBo (s : Rd) : T × Rd := (numT (if (rdK 1 s).1 = 0 then 0 else 1), (rdK 1 s).2)
def rdUu (s : Rd) : T × Rd := (.mk 0 (uuidB (rdSpan 16 s).1) false [] [], (rdSpan 16 s).2)
def rdV (rp : List Fd → Rd → T × Rd) (kind : Int) (sub : List Fd) (nb fx : Bool) (s : Rd) : T × Rd :=
  if kind = 0 then rdBo s
  else if kind = 1 then rdNum 1 .i8 s
  else if kind = 2 then rdNum 2 .i16 s
  else if kind = 3 then rdNum 4 .i32 s
  else if kind = 5 then rdNum 2 .u16 s
  else if kind = 7 then rdUu s
  else if kind = 8 then (if nb = true then rdNt fx s else (.mk 0 (rdTx fx s).1 false [] [], (rdTx fx s).2))
  else if kind = 9 then (if nb = true then rdNo fx s else rdOc fx s)
  else if kind = 10 then rp sub s
  else rdNum 8 .i64 s
/-- Is a list of this count nil? (-2: a list that is never null, though it is read as one that may be.) -/
def nlF (f : Fd) (v n : Int) : Bool := if 0 ≤ f.nul then decide (n < 0) && decide (f.nul ≤ v) else if f.nul = -2 then decide (n < 0) else decide (n ≤ 0)
def rdFW (rp : List Fd → Rd → T × Rd) (f : Fd) (v : Int) (fx : Bool) (s : Rd) : T × Rd :=
  if f.kind = 11 then rdLs (nlF f v) (rdV rp f.of f.sub false fx) fx s else rdV rp f.kind f.sub (decide (0 ≤ f.nul)) fx s
/-- A field as it is by default. -/
def dfT : Nat → Fd → T
  | 0, _ => T.zero
  | d + 1, f => if f.kind = 7 then .mk 0 (List.replicate 16 0) false [] [] else if f.kind = 8 then .mk 0 [] (decide (0 ≤ f.nul)) [] []
    else if f.kind = 9 ∨ f.kind = 11 then .mk 0 [] true [] []
    else if f.kind = 10 then (if 0 ≤ f.nul then .mk 0 [] true [] [] else .mk 0 [] false (f.sub.map (dfT d)) [])
    else numT (numK f.kind f.df)
def rdAll (rf : Fd → Rd → T × Rd) (df : Fd → T) (v : Int) : List Fd → Rd → List T × Rd
  | [], s => ([], s)
  | f :: r, s =>
    let x := if f.tag < 0 ∧ hasF f v = true then rf f s else (df f, s)
    let y := rdAll rf df v r x.2
    (x.1 :: y.1, y.2)
/-- The field of a tag, and where it lies. -/
def tagIx : List Fd → Nat → Nat → Option (Nat × Fd)
  | [], _, _ => none
  | f :: r, i, k => if f.tag = (k : Int) then some (i, f) else tagIx r (i + 1) k
/-- A list that was there stays one, though it be read as null. -/
def tgX (f : Fd) (old x : T) : T := if f.kind = 11 ∧ old.nl = false then .mk 0 [] false x.l [] else x
/-- So many tags: known ones are read into their fields, by a reader of their own. -/
def rdTgX (rf : Fd → Rd → T × Rd) (fs : List Fd) : Nat → List T → List Tg → Rd → (List T × List Tg) × Rd
  | 0, l, u, s => ((l, u), s)
  | n + 1, l, u, s =>
    match tagIx fs 0 (rdUv s).1 with
    | none => rdTgX rf fs n l (setT u ((rdUv s).1, (rdSpan ((rdUv (rdUv s).2).1 : Int) (rdUv (rdUv s).2).2).1)) (rdSpan ((rdUv (rdUv s).2).1 : Int) (rdUv (rdUv s).2).2).2
    | some (i, f) =>
      if (rf f ((rdSpan ((rdUv (rdUv s).2).1 : Int) (rdUv (rdUv s).2).2).1, false)).2.2 = true then ((l, u), ([], true))
      else rdTgX rf fs n (l.set i (tgX f ((l[i]?).getD T.zero) (rf f ((rdSpan ((rdUv (rdUv s).2).1 : Int) (rdUv (rdUv s).2).2).1, false)).1)) u (rdSpan ((rdUv (rdUv s).2).1 : Int) (rdUv (rdUv s).2).2).2
/-- The tags behind a part's fields. -/
def rdTail (rf : Fd → Rd → T × Rd) (fs : List Fd) (fx : Bool) (l : List T) (s : Rd) : (List T × List Tg) × Rd :=
  if noTags fs = true then ((l, (rdTagsF fx s).1), (rdTagsF fx s).2)
  else if fx = true then rdTgX rf fs (rdUv s).1 l [] (rdUv s).2 else ((l, []), s)
def rdPartW (rf : Fd → Rd → T × Rd) (df : Fd → T) (fs : List Fd) (v : Int) (fx : Bool) (s : Rd) : T × Rd :=
  (.mk 0 [] false (rdTail rf fs fx (rdAll rf df v fs s).1 (rdAll rf df v fs s).2).1.1 (rdTail rf fs fx (rdAll rf df v fs s).1 (rdAll rf df v fs s).2).1.2, (rdTail rf fs fx (rdAll rf df v fs s).1 (rdAll rf df v fs s).2).2)
theorem rdTail_plain {rf : Fd → Rd → T × Rd} {fs : List Fd} {fx : Bool} {l : List T} {s : Rd} (h : noTags fs = true) : rdTail rf fs fx l s = ((l, (rdTagsF fx s).1), (rdTagsF fx s).2) := by rw [rdTail, if_pos h]
/-- What is read of a field; d: how deep parts lie within parts. -/
def rdField : Nat → Int → Bool → Fd → Rd → T × Rd
  | 0, _, _, _, s => (T.zero, s)
  | d + 1, v, fx, f, s => rdFW (fun sub s => rdPartW (rdField d v fx) (dfT d) sub v fx s) f v fx s
def rdPart (d : Nat) (v : Int) (fx : Bool) (fs : List Fd) (s : Rd) : T × Rd := rdPartW (rdField d v fx) (dfT d) fs v fx s

/-! ## What is bad stays bad -/
/-- What is bad stays bad. -/
def Bd {α : Type} (g : Rd → α × Rd) : Prop := ∀ s, s.2 = true → (g s).2.2 = true
theorem rdK_bad (k : Nat) : Bd (rdK k) := by
  intro s h
  unfold rdK
  split
  · rfl
  · exact h
theorem rdUv_bad : Bd rdUv := by
  rintro ⟨l, b⟩ h
  dsimp only at h
  subst h
  unfold rdUv
  repeat' (first | rfl | split)
theorem rdSpan_bad (n : Int) : Bd (rdSpan n) := by
  intro s h
  unfold rdSpan
  split
  · rfl
  · exact h
theorem rdSz_bad (fx : Bool) (k : Nat) (ik : IntKind) : Bd (rdSz fx k ik) := by
  intro s h
  unfold rdSz
  split
  · exact rdUv_bad s h
  · exact rdK_bad k s h
theorem rdTx_bad (fx : Bool) : Bd (rdTx fx) := fun s h => rdSpan_bad _ _ (rdSz_bad fx 2 .i16 s h)
theorem rdNt_bad (fx : Bool) : Bd (rdNt fx) := by
  intro s h
  unfold rdNt
  split
  · exact rdSz_bad fx 2 .i16 s h
  · exact rdTx_bad fx s h
theorem rdOc_bad (fx : Bool) : Bd (rdOc fx) := by
  intro s h
  unfold rdOc
  split
  · exact rdSz_bad fx 4 .i32 s h
  · exact rdSpan_bad _ _ (rdSz_bad fx 4 .i32 s h)
theorem rdNo_bad (fx : Bool) : Bd (rdNo fx) := by
  intro s h
  unfold rdNo
  split
  · exact rdSz_bad fx 4 .i32 s h
  · exact rdSpan_bad _ _ (rdSz_bad fx 4 .i32 s h)
theorem rdLz_bad (fx : Bool) : Bd (rdLz fx) := by
  intro s h
  unfold rdLz
  split
  · exact rdUv_bad s h
  · exact rdK_bad 4 s h
theorem rdLn_bad (fx : Bool) : Bd (rdLn fx) := by
  intro s h
  unfold rdLn
  split
  · rfl
  · exact rdLz_bad fx s h
theorem rdN_bad {g : Rd → T × Rd} (hg : Bd g) : ∀ n, Bd (rdN g n)
  | 0, s, h => h
  | n + 1, s, h => hg _ (rdN_bad hg n s h)
/-- Bad behind some of the things: bad behind all. -/
theorem rdN_bad_le {g : Rd → T × Rd} (hg : Bd g) {i n : Nat} (hi : i ≤ n) {s : Rd} (h : (rdN g i s).2.2 = true) : (rdN g n s).2.2 = true := by
  induction n with
  | zero =>
    have : i = 0 := by omega
    subst this
    exact h
  | succ n ih =>
    rcases Nat.lt_or_ge i (n + 1) with h1 | h1
    · exact hg _ (ih (by omega))
    · have : i = n + 1 := by omega
      subst this
      exact h
theorem rdLs_bad {nl : Int → Bool} {g : Rd → T × Rd} (hg : Bd g) (fx : Bool) : Bd (rdLs nl g fx) := fun s h => rdN_bad hg _ _ (rdLn_bad fx s h)
theorem rdTgN_bad : ∀ (n : Nat) (u : List Tg) (s : Rd), s.2 = true → (rdTgN n u s).2.2 = true
  | 0, u, s, h => h
  | n + 1, u, s, h => rdTgN_bad n _ _ (rdSpan_bad _ _ (rdUv_bad _ (rdUv_bad _ h)))
theorem rdTags_bad : Bd rdTags := fun s h => rdTgN_bad _ _ _ (rdUv_bad s h)
theorem rdTagsF_bad (fx : Bool) : Bd (rdTagsF fx) := by
  intro s h
  unfold rdTagsF
  split
  · exact rdTags_bad s h
  · exact h
theorem rdNum_bad (k : Nat) (ik : IntKind) : Bd (rdNum k ik) := fun s h => rdK_bad k s h
theorem rdBo_bad : Bd rdBo := fun s h => rdK_bad 1 s h
theorem rdUu_bad : Bd rdUu := fun s h => rdSpan_bad 16 s h
theorem rdV_bad {rp : List Fd → Rd → T × Rd} {sub : List Fd} (hp : Bd (rp sub)) (kind : Int) (nb fx : Bool) : Bd (rdV rp kind sub nb fx) := by
  intro s h
  unfold rdV
  split
  · exact rdBo_bad s h
  split
  · exact rdNum_bad _ _ s h
  split
  · exact rdNum_bad _ _ s h
  split
  · exact rdNum_bad _ _ s h
  split
  · exact rdNum_bad _ _ s h
  split
  · exact rdUu_bad s h
  split
  · split
    · exact rdNt_bad fx s h
    · exact rdTx_bad fx s h
  split
  · split
    · exact rdNo_bad fx s h
    · exact rdOc_bad fx s h
  split
  · exact hp s h
  · exact rdNum_bad _ _ s h
theorem rdAll_bad {rf : Fd → Rd → T × Rd} {df : Fd → T} {v : Int} (hr : ∀ f, Bd (rf f)) : ∀ fs, Bd (rdAll rf df v fs)
  | [], s, h => h
  | f :: r, s, h => by
    unfold rdAll
    refine rdAll_bad hr r _ ?_
    split
    · exact hr f s h
    · exact h
theorem rdTgX_bad (rf : Fd → Rd → T × Rd) (fs : List Fd) : ∀ (n : Nat) (l : List T) (u : List Tg) (s : Rd), s.2 = true → (rdTgX rf fs n l u s).2.2 = true
  | 0, l, u, s, h => h
  | n + 1, l, u, s, h => by
    rw [rdTgX]
    split
    · exact rdTgX_bad rf fs n _ _ _ (rdSpan_bad _ _ (rdUv_bad _ (rdUv_bad s h)))
    · split
      · rfl
      · exact rdTgX_bad rf fs n _ _ _ (rdSpan_bad _ _ (rdUv_bad _ (rdUv_bad s h)))
theorem rdTgX_any (rf : Fd → Rd → T × Rd) (fs : List Fd) : ∀ (n : Nat) (l l' : List T) (u u' : List Tg) (s : Rd), (rdTgX rf fs n l u s).2 = (rdTgX rf fs n l' u' s).2
  | 0, l, l', u, u', s => rfl
  | n + 1, l, l', u, u', s => by
    rw [rdTgX, rdTgX]
    split
    · exact rdTgX_any rf fs n _ _ _ _ _
    · split
      · rfl
      · exact rdTgX_any rf fs n _ _ _ _ _
theorem rdTail_bad (rf : Fd → Rd → T × Rd) (fs : List Fd) (fx : Bool) (l : List T) (s : Rd) (h : s.2 = true) : (rdTail rf fs fx l s).2.2 = true := by
  unfold rdTail
  split
  · exact rdTagsF_bad fx s h
  split
  · exact rdTgX_bad _ _ _ _ _ _ (rdUv_bad s h)
  · exact h
theorem rdTail_any (rf : Fd → Rd → T × Rd) (fs : List Fd) (fx : Bool) (l l' : List T) (s : Rd) : (rdTail rf fs fx l s).2 = (rdTail rf fs fx l' s).2 := by
  unfold rdTail
  split
  · rfl
  split
  · exact rdTgX_any _ _ _ _ _ _ _ _
  · rfl
theorem rdPartW_bad {rf : Fd → Rd → T × Rd} {df : Fd → T} (hr : ∀ f, Bd (rf f)) (fs : List Fd) (v : Int) (fx : Bool) : Bd (rdPartW rf df fs v fx) := fun s h => rdTail_bad rf fs fx _ _ (rdAll_bad hr fs s h)
theorem rdField_bad : ∀ (d : Nat) (v : Int) (fx : Bool) (f : Fd), Bd (rdField d v fx f)
  | 0, v, fx, f, s, h => h
  | d + 1, v, fx, f, s, h => by
    have hp : ∀ sub, Bd (fun s => rdPartW (rdField d v fx) (dfT d) sub v fx s) := fun sub => rdPartW_bad (fun g => rdField_bad d v fx g) sub v fx
    show (rdFW _ f v fx s).2.2 = true
    unfold rdFW
    split
    · exact rdLs_bad (rdV_bad (hp f.sub) f.of false fx) fx s h
    · exact rdV_bad (hp f.sub) f.kind _ fx s h
/-- What the rest of a part's fields leave. -/
def tailBad (d : Nat) (v : Int) (fx : Bool) (fs0 fs : List Fd) (s : Rd) : Bool := (rdTail (rdField d v fx) fs0 fx [] (rdAll (rdField d v fx) (dfT d) v fs s).2).2.2
theorem tailBad_bad (d : Nat) (v : Int) (fx : Bool) (fs0 fs : List Fd) (s : Rd) (h : s.2 = true) : tailBad d v fx fs0 fs s = true := rdTail_bad _ fs0 fx _ _ (rdAll_bad (rdField_bad d v fx) fs s h)
theorem tailBad_part (d : Nat) (v : Int) (fx : Bool) (fs : List Fd) (s : Rd) : tailBad d v fx fs fs s = (rdPart d v fx fs s).2.2 := congrArg Prod.snd (rdTail_any _ _ _ _ _ _)
/-! ## A list, from its front -/
theorem rdN_cons (g : Rd → T × Rd) : ∀ (n : Nat) (s : Rd), rdN g (n + 1) s = ((g s).1 :: (rdN g n (g s).2).1, (rdN g n (g s).2).2)
  | 0, s => rfl
  | n + 1, s => by
    have h := rdN_cons g n s
    rw [rdN, h]
    rfl
end Go.Proofs.YtepamajphjgigaaGreatDoor.K
/-! The plain law of reading: what was written is read as told (descriptions without tagged fields). -/
set_option linter.unusedVariables false
set_option linter.unusedSimpArgs false
namespace Go.Proofs.YtepamajphjgigaaGreatDoor.K
open Go
set_option maxHeartbeats 800000

def toV (tp : List Fd → T → T) (kind : Int) (sub : List Fd) (nb : Bool) (t : T) : T :=
  if kind = 7 then .mk 0 (uuidB t.s) false [] []
  else if kind = 8 ∨ kind = 9 then (if nb = true then .mk 0 [] true [] [] else .mk 0 (t.s.take most) false [] [])
  else if kind = 10 then tp sub t
  else numT (numK kind t.n)
def toFW (tp : List Fd → T → T) (f : Fd) (v : Int) (t : T) : T :=
  if f.kind = 11 then (if nullF f v t = true then .mk 0 [] true [] [] else .mk 0 [] (if 0 ≤ f.nul ∨ f.nul = -2 then false else t.l.isEmpty) ((t.l.take most).map (toV tp f.of f.sub false)) [])
  else toV tp f.kind f.sub (nullF f v t) t
def toAll (tf : Fd → T → T) (df : Fd → T) (v : Int) (t : T) : Nat → List Fd → List T
  | _, [] => []
  | i, f :: r => (if f.tag < 0 ∧ hasF f v = true then tf f (atT t i) else df f) :: toAll tf df v t (i + 1) r
def toPartW (tf : Fd → T → T) (df : Fd → T) (fs : List Fd) (v : Int) (fx : Bool) (t : T) : T := .mk 0 [] false (toAll tf df v t 0 fs) (if fx = true then (unknownT fs t.u).map cutT else [])
/-- What is told of a field that was written and read. -/
def toField : Nat → Int → Bool → Fd → T → T
  | 0, _, _, _, _ => T.zero
  | d + 1, v, fx, f, t => toFW (fun sub t => toPartW (toField d v fx) (dfT d) sub v fx t) f v t
def toPart (d : Nat) (v : Int) (fx : Bool) (fs : List Fd) (t : T) : T := toPartW (toField d v fx) (dfT d) fs v fx t
/-- A field that always has an octet. -/
def solid (g : Fd) : Bool := decide (g.tag < 0) && decide (g.fr ≤ 0) && decide (g.to < 0) && decide (g.kind ≠ 10)
/-- Descriptions whose writings can be read. -/
def okR (fl : Int) : Nat → Fd → Bool
  | 0, _ => false
  | d + 1, f => decide (f.kind ≠ 9 ∨ f.nul < 0) && decide (f.kind ≠ 10 ∨ f.nul < 0) && (decide (0 ≤ f.kind) && decide (f.kind ≤ 11)) && (decide (0 ≤ f.of) && decide (f.of ≤ 10)) && (decide (f.kind ≠ 11 ∨ f.of ≠ 10 ∨ (0 ≤ fl ∧ fl ≤ f.fr)) || f.sub.any solid) && f.sub.all (okR fl d)

theorem uvar_z : uvar 0 = [0] := by rw [uvar_small (by decide)]; rfl
theorem wrap_i8 (n : Int) : IntKind.i8.wrap n = (n + 128) % 256 - 128 := by
  simp only [IntKind.wrap, IntKind.bits, IntKind.signed]
  simp
  split <;> omega
theorem wrap_i16 (n : Int) : IntKind.i16.wrap n = (n + 32768) % 65536 - 32768 := by
  simp only [IntKind.wrap, IntKind.bits, IntKind.signed]
  simp
  split <;> omega
theorem rdNum_fixed (k : Nat) (ik : IntKind) (n : Int) (r : List UInt8) (h : ik.wrap (beN (fixed n k) : Int) = ik.wrap n) : rdNum k ik (fixed n k ++ r, false) = (numT (ik.wrap n), (r, false)) := by
  unfold rdNum
  rw [rdK_append k _ r false (fixed_length n k)]
  simp only [h]
theorem wr1 (n : Int) : IntKind.i8.wrap (beN (fixed n 1) : Int) = IntKind.i8.wrap n := by rw [be1, wrap_i8, wrap_i8]; omega
theorem wr2 (n : Int) : IntKind.i16.wrap (beN (fixed n 2) : Int) = IntKind.i16.wrap n := by rw [be2, wrap_i16, wrap_i16]; omega
theorem wr2u (n : Int) : IntKind.u16.wrap (beN (fixed n 2) : Int) = IntKind.u16.wrap n := by rw [be2, wrap_u16, wrap_u16]; omega
theorem wr4 (n : Int) : IntKind.i32.wrap (beN (fixed n 4) : Int) = IntKind.i32.wrap n := by rw [be4, IntKind.wrap_i32, IntKind.wrap_i32]; omega
theorem wr8 (n : Int) : IntKind.i64.wrap (beN (fixed n 8) : Int) = IntKind.i64.wrap n := by rw [be8, IntKind.wrap_i64, IntKind.wrap_i64]; omega
theorem rdSz_counted (fx : Bool) (k : Nat) (ik : IntKind) (n : Nat) (r : List UInt8) (hn : n ≤ 32767) (h : ik.wrap (beN (fixed (n : Int) k) : Int) = n) : rdSz fx k ik (countedB fx false n k ++ r, false) = ((n : Int), (r, false)) := by
  unfold rdSz countedB
  cases fx with
  | true =>
    simp only [if_true, Bool.false_eq_true, if_false]
    rw [rdUv_uvar (n + 1) (by omega)]
    simp only [Prod.mk.injEq, and_true]
    omega
  | false =>
    simp only [Bool.false_eq_true, if_false]
    rw [rdK_append k _ r false (fixed_length _ _)]
    simp only [h]
theorem rdSz_null (fx : Bool) (k : Nat) (ik : IntKind) (r : List UInt8) (h : ik.wrap (beN (fixed (-1) k) : Int) = -1) : rdSz fx k ik (countedB fx true 0 k ++ r, false) = (-1, (r, false)) := by
  unfold rdSz countedB
  cases fx with
  | true =>
    simp only [if_true]
    have := rdUv_uvar 0 (by decide) r false
    rw [uvar_z] at this
    rw [this]
    rfl
  | false =>
    simp only [Bool.false_eq_true, if_false, if_true]
    rw [rdK_append k _ r false (fixed_length _ _)]
    simp only [h]
theorem sz2 {n : Nat} (h : n ≤ 32767) : IntKind.i16.wrap (beN (fixed (n : Int) 2) : Int) = n := by rw [wr2, wrap_i16]; omega
theorem sz4 {n : Nat} (h : n ≤ 32767) : IntKind.i32.wrap (beN (fixed (n : Int) 4) : Int) = n := by rw [wr4, IntKind.wrap_i32]; omega
theorem rdTx_counted (fx : Bool) (l r : List UInt8) (hn : l.length ≤ 32767) : rdTx fx (countedB fx false l.length 2 ++ l ++ r, false) = (l, (r, false)) := by
  unfold rdTx
  rw [List.append_assoc, rdSz_counted fx 2 .i16 l.length _ hn (sz2 hn)]
  exact rdSpan_append l r false
theorem rdNt_counted (fx : Bool) (l r : List UInt8) (hn : l.length ≤ 32767) : rdNt fx (countedB fx false l.length 2 ++ l ++ r, false) = (.mk 0 l false [] [], (r, false)) := by
  unfold rdNt
  rw [rdTx_counted fx l r hn, List.append_assoc, rdSz_counted fx 2 .i16 l.length _ hn (sz2 hn), if_neg (by simp only; omega)]
theorem rdNt_null (fx : Bool) (r : List UInt8) : rdNt fx (countedB fx true 0 2 ++ r, false) = (.mk 0 [] true [] [], (r, false)) := by
  unfold rdNt
  rw [rdSz_null fx 2 .i16 r (by rw [wr2]; rfl), if_pos (show (-1 : Int) < 0 by decide)]
theorem rdOc_counted (fx : Bool) (l r : List UInt8) (hn : l.length ≤ 32767) : rdOc fx (countedB fx false l.length 4 ++ l ++ r, false) = (.mk 0 l false [] [], (r, false)) := by
  unfold rdOc
  rw [List.append_assoc, rdSz_counted fx 4 .i32 l.length _ hn (sz4 hn), if_neg (by simp only; omega), rdSpan_append]
  rfl
theorem rdNo_counted (fx : Bool) (l r : List UInt8) (hn : l.length ≤ 32767) : rdNo fx (countedB fx false l.length 4 ++ l ++ r, false) = (.mk 0 l false [] [], (r, false)) := by
  unfold rdNo
  rw [List.append_assoc, rdSz_counted fx 4 .i32 l.length _ hn (sz4 hn), if_neg (by simp only; omega), rdSpan_append]
  rfl
theorem rdLn_counted (fx nb : Bool) (n : Nat) (r : List UInt8) (hn : n ≤ 32767) (hr : n ≤ r.length) (h0 : nb = true → n = 0) : rdLn fx (countedB fx nb n 4 ++ r, false) = (if nb = true then -1 else (n : Int), (r, false)) := by
  have key : rdLz fx (countedB fx nb n 4 ++ r, false) = (if nb = true then -1 else (n : Int), (r, false)) := by
    unfold rdLz countedB
    cases fx with
    | true =>
      cases nb with
      | true =>
        simp only [if_true]
        have := rdUv_uvar 0 (by decide) r false
        rw [uvar_z] at this
        rw [this]
        rfl
      | false =>
        simp only [if_true, Bool.false_eq_true, if_false]
        rw [rdUv_uvar (n + 1) (by omega)]
        simp only [Prod.mk.injEq, and_true]
        rw [IntKind.wrap_i32, IntKind.wrap_i32]
        omega
    | false =>
      cases nb with
      | true =>
        simp only [Bool.false_eq_true, if_false, if_true]
        rw [rdK_append 4 _ r false (fixed_length _ _)]
        simp only [wr4]
        rfl
      | false =>
        simp only [Bool.false_eq_true, if_false]
        rw [rdK_append 4 _ r false (fixed_length _ _)]
        simp only [sz4 hn]
  unfold rdLn
  rw [key, if_neg]
  simp only
  cases nb <;> simp <;> omega
theorem rdN_flat {g : Rd → T × Rd} {h : T → List UInt8} {k : T → T} : ∀ (l : List T) (r : List UInt8), (∀ y, y ∈ l → ∀ r, g (h y ++ r, false) = (k y, (r, false))) → rdN g l.length (l.flatMap h ++ r, false) = (l.map k, (r, false))
  | [], r, hg => rfl
  | y :: l, r, hg => by
    rw [List.length_cons, rdN_cons, List.flatMap_cons, List.append_assoc, hg y (by simp), rdN_flat l r fun z hz => hg z (by simp [hz])]
    rfl
theorem setT_new : ∀ {u : List Tg} {x : Tg}, (∀ y, y ∈ u → y.1 ≠ x.1) → setT u x = u ++ [x]
  | [], x, h => rfl
  | y :: r, x, h => by
    rw [setT, if_neg (h y (by simp)), setT_new fun z hz => h z (by simp [hz])]
    rfl
theorem rdTgN_flat : ∀ (l u : List Tg) (r : List UInt8), (u ++ l).Pairwise (fun a b => a.1 < b.1) → (∀ x, x ∈ l → x.1 < 4294967296 ∧ x.2.length ≤ 32767) → rdTgN l.length u (l.flatMap tagB ++ r, false) = (u ++ l, (r, false))
  | [], u, r, hp, hk => by simp [rdTgN]
  | x :: l, u, r, hp, hk => by
    obtain ⟨h1, h2⟩ := hk x (by simp)
    rw [List.length_cons, rdTgN, List.flatMap_cons, tagB, List.append_assoc, List.append_assoc, List.append_assoc, rdUv_uvar x.1 (by omega)]
    simp only
    rw [rdUv_uvar x.2.length (by omega)]
    simp only
    rw [rdSpan_append]
    simp only
    rw [setT_new, rdTgN_flat l (u ++ [(x.1, x.2)]) r (by simpa using hp) fun z hz => hk z (by simp [hz])]
    · simp
    · intro y hy e
      have := (List.pairwise_append.1 hp).2.2 y hy x (by simp)
      have e : y.1 = x.1 := e
      omega
theorem rdTags_flat {u : List Tg} (h : TagOK u) (r : List UInt8) : rdTags (uvar u.length ++ u.flatMap tagB ++ r, false) = (u, (r, false)) := by
  unfold rdTags
  have hl := h.len
  rw [List.append_assoc, rdUv_uvar u.length (by omega)]
  have := rdTgN_flat u [] r h.rise fun x hx => ⟨h.key x hx, h.val x hx⟩
  rw [List.nil_append] at this
  exact this
theorem countedB_ne (fx nb : Bool) (n k : Nat) (hk : 0 < k) : 0 < (countedB fx nb n k).length := by
  unfold countedB
  split
  · split
    · simp
    · unfold uvar
      split <;> simp
  · split <;> rw [fixed_length] <;> exact hk
theorem uvar_ne (n : Nat) : 0 < (uvar n).length := by
  unfold uvar
  split <;> simp
theorem widthK_pos (k : Int) : 0 < widthK k := by
  unfold widthK
  repeat' split
  all_goals decide
theorem valueW_ne {pw : List Fd → T → List UInt8} {kind : Int} {sub : List Fd} {nb fx : Bool} {t : T} (h : kind = 10 → 0 < (pw sub t).length) : 0 < (valueW pw kind sub nb fx t).length := by
  unfold valueW
  split
  · simp
  split
  · simp [uuidB]
  split
  · rw [List.length_append]
    have := countedB_ne fx nb (if nb = true then [] else t.s.take most).length 2 (by decide)
    omega
  split
  · rw [List.length_append]
    have := countedB_ne fx nb (if nb = true then [] else t.s.take most).length 4 (by decide)
    omega
  split
  · rename_i h10
    exact h h10
  · rw [fixed_length]
    exact widthK_pos kind
theorem fieldW_ne {pw : List Fd → T → List UInt8} {f : Fd} {v : Int} {fx : Bool} {t : T} (h : f.kind ≠ 10) : 0 < (fieldW pw f v fx t).length := by
  unfold fieldW
  split
  · rw [List.length_append]
    have := countedB_ne fx (nullF f v t) (if nullF f v t = true then [] else t.l.take most).length 4 (by decide)
    omega
  · rw [if_neg (by simp [h])]
    exact valueW_ne fun e => absurd e h
theorem plainW_ne {fw : Fd → T → List UInt8} {v : Int} (hv : 0 ≤ v) {t : T} (hf : ∀ g y, solid g = true → 0 < (fw g y).length) : ∀ (fs : List Fd) (i : Nat), fs.any solid = true → 0 < (plainW fw v t i fs).length
  | [], i, h => by simp at h
  | f :: r, i, h => by
    rw [plainW, List.length_append]
    rw [List.any_cons, Bool.or_eq_true] at h
    rcases h with h | h
    · have hs := h
      simp only [solid, Bool.and_eq_true, decide_eq_true_eq] at h
      rw [if_pos ⟨h.1.1.1, by simp only [hasF, Bool.and_eq_true, Bool.or_eq_true, decide_eq_true_eq]; omega⟩]
      have := hf f (atT t i) hs
      omega
    · have := plainW_ne (t := t) hv hf r (i + 1) h
      omega
theorem rdAll_plain {rf : Fd → Rd → T × Rd} {fw : Fd → T → List UInt8} {tf : Fd → T → T} {df : Fd → T} {v : Int} {t : T} : ∀ (fs : List Fd) (i : Nat) (r : List UInt8),
    (∀ (j : Nat) f, fs[j]? = some f → hasF f v = true → ∀ r, rf f (fw f (atT t (i + j)) ++ r, false) = (tf f (atT t (i + j)), (r, false))) → rdAll rf df v fs (plainW fw v t i fs ++ r, false) = (toAll tf df v t i fs, (r, false))
  | [], i, r, h => rfl
  | f :: fs, i, r, h => by
    have ih := rdAll_plain (df := df) fs (i + 1) r fun j g hg hh => by
      rw [show i + 1 + j = i + (j + 1) by omega]
      exact h (j + 1) g (by simpa using hg) hh
    unfold plainW rdAll toAll
    by_cases hc : f.tag < 0 ∧ hasF f v = true
    · simp only [if_pos hc]
      have h0 := h 0 f rfl hc.2 (plainW fw v t (i + 1) fs ++ r)
      rw [Nat.add_zero] at h0
      rw [List.append_assoc, h0]
      simp only [ih]
    · simp only [if_neg hc, List.nil_append, ih]
theorem numK_kind {k : Int} (h : k ≠ 0) (n : Int) : numK k n = (kindI k).wrap n := by rw [numK, if_neg h]
theorem rdV_written {rp : List Fd → Rd → T × Rd} {pw : List Fd → T → List UInt8} {tp : List Fd → T → T} {kind : Int} {sub : List Fd} {nb mb fx : Bool} {t : T} (r : List UInt8) (hk : 0 ≤ kind ∧ kind ≤ 10)
    (hm : nb = true → mb = true) (h9 : kind = 9 → nb = false) (hp : kind = 10 → ∀ r, rp sub (pw sub t ++ r, false) = (tp sub t, (r, false))) :
    rdV rp kind sub mb fx (valueW pw kind sub nb fx t ++ r, false) = (toV tp kind sub nb t, (r, false)) := by
  have htk : (t.s.take most).length ≤ 32767 := by rw [List.length_take]; exact Nat.min_le_left _ _
  unfold rdV valueW toV
  by_cases h0 : kind = 0
  · subst h0
    simp only [if_true, show ¬ ((0 : Int) = 7) by decide, show ¬ ((0 : Int) = 8 ∨ (0 : Int) = 9) by decide, show ¬ ((0 : Int) = 10) by decide, if_false]
    have hb := b8_val (t.n % 2)
    have e : rdK 1 ([b8 (t.n % 2)] ++ r, false) = ((b8 (t.n % 2)).toNat, (r, false)) := by
      rw [rdK_append 1 _ r false rfl]
      simp [beN]
    unfold rdBo
    rw [e]
    simp only [numK, if_true]
    rcases (show t.n % 2 = 0 ∨ t.n % 2 = 1 by omega) with h | h
    · rw [h, if_pos (by rw [h] at hb; omega)]
    · rw [h, if_neg (by rw [h] at hb; omega)]
  by_cases h1 : kind = 1
  · subst h1
    simp only [show ¬ ((1 : Int) = 0) by decide, if_true, show ¬ ((1 : Int) = 7) by decide, show ¬ ((1 : Int) = 8) by decide, show ¬ ((1 : Int) = 9) by decide, or_self, show ¬ ((1 : Int) = 10) by decide, if_false]
    exact rdNum_fixed 1 .i8 t.n r (wr1 _)
  by_cases h2 : kind = 2
  · subst h2
    simp only [show ¬ ((2 : Int) = 0) by decide, show ¬ ((2 : Int) = 1) by decide, if_true, show ¬ ((2 : Int) = 7) by decide, show ¬ ((2 : Int) = 8) by decide, show ¬ ((2 : Int) = 9) by decide, or_self, show ¬ ((2 : Int) = 10) by decide, if_false]
    exact rdNum_fixed 2 .i16 t.n r (wr2 _)
  by_cases h3 : kind = 3
  · subst h3
    simp only [show ¬ ((3 : Int) = 0) by decide, show ¬ ((3 : Int) = 1) by decide, show ¬ ((3 : Int) = 2) by decide, if_true, show ¬ ((3 : Int) = 7) by decide, show ¬ ((3 : Int) = 8) by decide, show ¬ ((3 : Int) = 9) by decide, or_self, show ¬ ((3 : Int) = 10) by decide, if_false]
    exact rdNum_fixed 4 .i32 t.n r (wr4 _)
  by_cases h5 : kind = 5
  · subst h5
    simp only [show ¬ ((5 : Int) = 0) by decide, show ¬ ((5 : Int) = 1) by decide, show ¬ ((5 : Int) = 2) by decide, show ¬ ((5 : Int) = 3) by decide, if_true, show ¬ ((5 : Int) = 7) by decide, show ¬ ((5 : Int) = 8) by decide, show ¬ ((5 : Int) = 9) by decide, or_self, show ¬ ((5 : Int) = 10) by decide, if_false]
    exact rdNum_fixed 2 .u16 t.n r (wr2u _)
  by_cases h7 : kind = 7
  · subst h7
    simp only [show ¬ ((7 : Int) = 0) by decide, show ¬ ((7 : Int) = 1) by decide, show ¬ ((7 : Int) = 2) by decide, show ¬ ((7 : Int) = 3) by decide, show ¬ ((7 : Int) = 5) by decide, if_true, if_false]
    have hl : ((uuidB t.s).length : Int) = 16 := by simp [uuidB]
    have := rdSpan_append (uuidB t.s) r false
    rw [hl] at this
    unfold rdUu
    rw [this]
    simp only
    have e : uuidB (uuidB t.s) = uuidB t.s := by
      have h16 : (uuidB t.s).length = 16 := by omega
      rw [uuidB, List.take_append, h16, List.take_of_length_le (by omega)]
      simp
    rw [e]
  by_cases h8 : kind = 8
  · subst h8
    simp only [show ¬ ((8 : Int) = 0) by decide, show ¬ ((8 : Int) = 1) by decide, show ¬ ((8 : Int) = 2) by decide, show ¬ ((8 : Int) = 3) by decide, show ¬ ((8 : Int) = 5) by decide, show ¬ ((8 : Int) = 7) by decide, if_true, if_false, true_or]
    cases nb with
    | true =>
      rw [if_pos (hm rfl)]
      simp only [if_true, List.length_nil, List.append_nil]
      exact rdNt_null fx r
    | false =>
      simp only [Bool.false_eq_true, if_false]
      cases mb with
      | true => exact rdNt_counted fx _ r htk
      | false =>
        simp only [Bool.false_eq_true, if_false]
        rw [rdTx_counted fx _ r htk]
  by_cases h9' : kind = 9
  · subst h9'
    have := h9 rfl
    subst this
    simp only [show ¬ ((9 : Int) = 0) by decide, show ¬ ((9 : Int) = 1) by decide, show ¬ ((9 : Int) = 2) by decide, show ¬ ((9 : Int) = 3) by decide, show ¬ ((9 : Int) = 5) by decide, show ¬ ((9 : Int) = 7) by decide, show ¬ ((9 : Int) = 8) by decide, if_true, if_false, or_true, Bool.false_eq_true]
    cases mb with
    | true => exact rdNo_counted fx _ r htk
    | false => exact rdOc_counted fx _ r htk
  by_cases h10 : kind = 10
  · simp only [h0, h1, h2, h3, h5, h7, h8, h9', h10, if_false, or_self, if_true]
    rw [h10] at hp
    exact hp rfl r
  · simp only [h0, h1, h2, h3, h5, h7, h8, h9', h10, if_false, or_self]
    rw [numK_kind h0]
    have e : kindI kind = .i64 := by simp [kindI, h1, h2, h3, h5]
    have e2 : widthK kind = 8 := by simp [widthK, h1, h2, h3, h5]
    rw [e, e2]
    exact rdNum_fixed 8 .i64 t.n r (wr8 _)
theorem field_read : ∀ (d : Nat) (fl v : Int) (f : Fd) (t : T), ntF d f = true → okR fl d f = true → KeyT t → 0 ≤ v → hasF f v = true → ∀ r, rdField d v (flexB fl v) f (fieldB d v (flexB fl v) f t ++ r, false) = (toField d v (flexB fl v) f t, (r, false))
  | 0, _, _, _, _, h, _, _, _, _ => by simp [ntF] at h
  | d + 1, fl, v, f, t, h, hr, hkey, hv, hhas => by
    intro r
    have hh : f.tag = -1 ∧ ∀ g, g ∈ f.sub → ntF d g = true := by simpa [ntF] using h
    obtain ⟨ht, hs⟩ := hh
    simp only [okR, Bool.and_eq_true, Bool.or_eq_true, decide_eq_true_eq, List.all_eq_true] at hr
    obtain ⟨⟨⟨⟨⟨hr9, hr10⟩, hrk⟩, hro⟩, hrl⟩, hrs⟩ := hr
    have hst : ∀ g, g ∈ f.sub → g.tag = -1 := by
      intro g hg
      have := hs g hg
      match d, this with
      | 0, h => simp [ntF] at h
      | d + 1, h => have h : g.tag = -1 ∧ ∀ x, x ∈ g.sub → ntF d x = true := by simpa [ntF] using h
                    exact h.1
    have hp : ∀ x, KeyT x → ∀ r, rdPartW (rdField d v (flexB fl v)) (dfT d) f.sub v (flexB fl v) (partW (fieldB d v (flexB fl v)) (usualB d) f.sub v (flexB fl v) x ++ r, false) = (toPartW (toField d v (flexB fl v)) (dfT d) f.sub v (flexB fl v) x, (r, false)) := by
      intro x hx r
      rw [partW_nt hst]
      unfold rdPartW toPartW
      rw [rdTail_plain (noTags_of hst)]
      rw [List.append_assoc, rdAll_plain (tf := toField d v (flexB fl v)) (t := x) f.sub 0 _ fun j g hg hhg r => by
        rw [Nat.zero_add]
        exact field_read d fl v g _ (hs g (List.mem_of_getElem? hg)) (hrs g (List.mem_of_getElem? hg)) (hx.at j) hv hhg r]
      simp only
      unfold tgsB rdTagsF
      cases flexB fl v with
      | true =>
        simp only [if_true]
        rw [rdTags_flat (tag_ok f.sub x.u hx.u)]
      | false => simp only [Bool.false_eq_true, if_false, List.nil_append]
    show rdFW (fun sub s => rdPartW (rdField d v (flexB fl v)) (dfT d) sub v (flexB fl v) s) f v (flexB fl v) (fieldW (fun sub t => partW (fieldB d v (flexB fl v)) (usualB d) sub v (flexB fl v) t) f v (flexB fl v) t ++ r, false) = (toFW (fun sub t => toPartW (toField d v (flexB fl v)) (dfT d) sub v (flexB fl v) t) f v t, (r, false))
    unfold rdFW fieldW toFW
    by_cases h11 : f.kind = 11
    · simp only [h11, if_true]
      have hne : ∀ y : T, 0 < (valueW (fun sub t => partW (fieldB d v (flexB fl v)) (usualB d) sub v (flexB fl v) t) f.of f.sub false (flexB fl v) y).length := by
        intro y
        refine valueW_ne fun e10 => ?_
        unfold partW
        rw [List.length_append]
        rcases hrl with hrl | hrl
        · have hfx : flexB fl v = true := by
            have h1 : 0 ≤ fl ∧ fl ≤ f.fr := by rcases hrl with h | h | h; exact absurd h11 h; exact absurd e10 h; exact h
            have h2 : f.fr ≤ v := by simp only [hasF, Bool.and_eq_true, decide_eq_true_eq] at hhas; exact hhas.1
            simp only [flexB, Bool.and_eq_true, decide_eq_true_eq]
            omega
          rw [hfx, if_pos rfl, List.length_append]
          have := uvar_ne (allTags (fieldB d v true) (usualB d) f.sub y).length
          omega
        · obtain ⟨g0, hg0, _⟩ := List.any_eq_true.1 hrl
          have hd : d ≠ 0 := by
            rintro rfl
            have := hs g0 hg0
            simp [ntF] at this
          obtain ⟨e, rfl⟩ : ∃ e, d = e + 1 := ⟨d - 1, by omega⟩
          have := plainW_ne (fw := fieldB (e + 1) v (flexB fl v)) (v := v) hv (t := y) (fun g z hg => by
            have hg10 : g.kind ≠ 10 := by simp only [solid, Bool.and_eq_true, decide_eq_true_eq] at hg; exact hg.2
            exact fieldW_ne hg10) f.sub 0 hrl
          omega
      generalize hN : (if nullF f v t = true then [] else t.l.take most) = L
      have hLl : L.length ≤ 32767 := by
        rw [← hN]
        split
        · simp
        · rw [List.length_take]; exact Nat.min_le_left _ _
      have hLm : ∀ y, y ∈ L → y ∈ t.l := by
        intro y hy
        rw [← hN] at hy
        split at hy
        · simp at hy
        · exact List.mem_of_mem_take hy
      have hflat : ∀ (l : List T), l.length ≤ (l.flatMap (valueW (fun sub t => partW (fieldB d v (flexB fl v)) (usualB d) sub v (flexB fl v) t) f.of f.sub false (flexB fl v))).length := by
        intro l
        induction l with
        | nil => simp
        | cons y q ih =>
          rw [List.flatMap_cons, List.length_append, List.length_cons]
          have := hne y
          omega
      have hlen := rdLn_counted (flexB fl v) (nullF f v t) L.length (L.flatMap (valueW (fun sub t => partW (fieldB d v (flexB fl v)) (usualB d) sub v (flexB fl v) t) f.of f.sub false (flexB fl v)) ++ r) hLl (by rw [List.length_append]; have := hflat L; omega)
        (by intro e; rw [← hN, if_pos e]; rfl)
      rw [List.append_assoc]
      unfold rdLs
      rw [hlen]
      simp only
      have hNat : (if nullF f v t = true then (-1 : Int) else (L.length : Int)).toNat = L.length := by
        cases hq : nullF f v t with
        | true => rw [← hN, hq]; rfl
        | false => simp
      rw [hNat, rdN_flat (k := toV (fun sub t => toPartW (toField d v (flexB fl v)) (dfT d) sub v (flexB fl v) t) f.of f.sub false) L r fun y hy r => rdV_written (tp := fun sub t => toPartW (toField d v (flexB fl v)) (dfT d) sub v (flexB fl v) t) r (by omega) (by simp) (by simp) fun _ r => hp y (hkey.l y (hLm y hy)) r]
      cases hq : nullF f v t with
      | true =>
        have h0 : 0 ≤ f.nul ∧ f.nul ≤ v := by
          simp only [nullF, Bool.and_eq_true, decide_eq_true_eq] at hq
          exact hq.2
        rw [← hN, hq]
        simp [nlF, h0.1, h0.2]
      | false =>
        rw [← hN, hq]
        simp only [Bool.false_eq_true, if_false]
        have : nlF f v ((t.l.take most).length : Int) = (if 0 ≤ f.nul ∨ f.nul = -2 then false else t.l.isEmpty) := by
          have h0 : decide (((t.l.take most).length : Int) < 0) = false := by simp
          unfold nlF
          by_cases hp : 0 ≤ f.nul
          · rw [if_pos hp, if_pos (.inl hp), h0]
            rfl
          · by_cases h2 : f.nul = -2
            · rw [if_neg hp, if_pos h2, if_pos (.inr h2), h0]
            · rw [if_neg hp, if_neg h2, if_neg (by rintro (h | h); exact hp h; exact h2 h)]
              cases t.l with
              | nil => rfl
              | cons a b => simp [most]
        rw [this]
    · simp only [h11, if_false]
      have h10n : ¬ (f.kind = 10 ∧ 0 ≤ f.nul) := by rintro ⟨h1, h2⟩; rcases hr10 with h | h; exact h h1; omega
      rw [if_neg h10n]
      refine rdV_written (tp := fun sub t => toPartW (toField d v (flexB fl v)) (dfT d) sub v (flexB fl v) t) r (by omega) ?_ ?_ fun _ r => hp t hkey r
      · intro e
        simp only [nullF, Bool.and_eq_true, decide_eq_true_eq] at e
        exact decide_eq_true e.2.1
      · intro e
        have : f.nul < 0 := by rcases hr9 with h | h; exact absurd e h; exact h
        have h0 : decide (0 ≤ f.nul) = false := decide_eq_false (by omega)
        simp [nullF, h0]
theorem part_read (d : Nat) (fl v : Int) (fs : List Fd) (t : T) (hnt : ∀ f, f ∈ fs → ntF d f = true) (hok : ∀ f, f ∈ fs → okR fl d f = true) (hkey : KeyT t) (hv : 0 ≤ v) (r : List UInt8) :
    rdPart d v (flexB fl v) fs (partB d v (flexB fl v) fs t ++ r, false) = (toPart d v (flexB fl v) fs t, (r, false)) := by
  have hst : ∀ g, g ∈ fs → g.tag = -1 := by
    intro g hg
    have := hnt g hg
    match d, this with
    | 0, h => simp [ntF] at h
    | d + 1, h => have h : g.tag = -1 ∧ ∀ x, x ∈ g.sub → ntF d x = true := by simpa [ntF] using h
                  exact h.1
  unfold partB
  rw [partW_nt hst]
  unfold rdPart toPart rdPartW toPartW
  rw [rdTail_plain (noTags_of hst)]
  rw [List.append_assoc, rdAll_plain (tf := toField d v (flexB fl v)) (t := t) fs 0 _ fun j g hg hhg r => by
    rw [Nat.zero_add]
    exact field_read d fl v g _ (hnt g (List.mem_of_getElem? hg)) (hok g (List.mem_of_getElem? hg)) (hkey.at j) hv hhg r]
  simp only
  unfold tgsB rdTagsF
  cases flexB fl v with
  | true =>
    simp only [if_true]
    rw [rdTags_flat (tag_ok fs t.u hkey.u)]
  | false => simp only [Bool.false_eq_true, if_false, List.nil_append]
end Go.Proofs.YtepamajphjgigaaGreatDoor.K
/-! What is appended of a told tree is what was written. -/
set_option linter.unusedVariables false
set_option linter.unusedSimpArgs false
namespace Go.Proofs.YtepamajphjgigaaGreatDoor.K
open Go
set_option maxHeartbeats 800000

/-- Parts are there at every version, and never null. -/
def okW : Nat → Fd → Bool
  | 0, _ => false
  | d + 1, f => decide (f.kind ≠ 10 ∨ (f.nul < 0 ∧ f.fr ≤ 0 ∧ f.to < 0)) && f.sub.all (okW d)
theorem TagOK.nil : TagOK [] := ⟨List.Pairwise.nil, by simp, by simp, by simp⟩
theorem tagOK_to {fx : Bool} {u : List Tg} (h : TagOK u) : TagOK (if fx = true then u else []) := by
  split
  · exact h
  · exact TagOK.nil
/-! ## Lists that are never null, though they are read as such that may be -/
/-- The description that the law gives. -/
def nn : Nat → Fd → Fd
  | 0, f => f
  | d + 1, .mk k fr to nul tag df of sub => .mk k fr to (if nul < 0 then -1 else nul) tag df of (sub.map (nn d))
end Go.Proofs.YtepamajphjgigaaGreatDoor.K
