/- What the functions compute, in plain Lean: what is written of a part, what fits, unknown tags. -/
import Derived.Test.YtepamajphjgigaaGreatDoorG1
set_option linter.unusedVariables false
set_option linter.unusedSimpArgs false
namespace Go.Proofs.YtepamajphjgigaaGreatDoor.K
open Go

def hasF (f : Fd) (v : Int) : Bool := decide (f.fr ≤ v) && (decide (f.to < 0) || decide (v ≤ f.to))
def nullF (f : Fd) (v : Int) (t : T) : Bool := t.nl && (decide (0 ≤ f.nul) && decide (f.nul ≤ v))
def most : Nat := 32767
def atT (t : T) (i : Nat) : T := (t.l[i]?).getD T.zero
def widthK (k : Int) : Nat := if k = 1 then 1 else if k = 2 ∨ k = 5 then 2 else if k = 3 then 4 else 8
def countedB (flex null : Bool) (n size : Nat) : List UInt8 :=
  if flex then (if null then [0] else uvar (n + 1)) else if null then fixed (-1) size else fixed n size
/-- One more than all tags that the fields have. -/
def knownN : List Fd → Nat → Nat
  | [], n => n
  | f :: r, n => knownN r (if 0 ≤ f.tag then max n (f.tag.toNat + 1) else n)
/-- Put in by rising numbers; the first one of a number stays. -/
def insT : List Tg → Tg → List Tg
  | [], t => [t]
  | x :: r, t => if x.1 < t.1 then x :: insT r t else if x.1 = t.1 then x :: r else t :: x :: r
def unkT (least : Nat) : List Tg → List Tg → List Tg
  | out, [] => out
  | out, t :: r => unkT least (if t.1 < least then out else insT out t) r
def unknownT (fs : List Fd) (u : List Tg) : List Tg := unkT (knownN fs 0) [] (u.take most)
def cutT (u : Tg) : Tg := (u.1, u.2.take most)
/-- What is written of a tag. -/
def tagB (x : Tg) : List UInt8 := uvar x.1 ++ uvar x.2.length ++ x.2
def plainW (fw : Fd → T → List UInt8) (v : Int) (t : T) : Nat → List Fd → List UInt8
  | _, [] => []
  | i, f :: r => (if f.tag < 0 ∧ hasF f v = true then fw f (atT t i) else []) ++ plainW fw v t (i + 1) r
/-- The fields of one tag. -/
def taggedW (fw : Fd → T → List UInt8) (us : Fd → T → Bool) (tag : Nat) (t : T) : Nat → List Fd → List Tg
  | _, [] => []
  | i, f :: r => (if f.tag = tag ∧ us f (atT t i) = false then [(tag, fw f (atT t i))] else []) ++ taggedW fw us tag t (i + 1) r
def tagsW (fw : Fd → T → List UInt8) (us : Fd → T → Bool) (fs : List Fd) (t : T) : Nat → Nat → List Tg
  | _, 0 => []
  | k, n + 1 => taggedW fw us k t 0 fs ++ tagsW fw us fs t (k + 1) n
def allTags (fw : Fd → T → List UInt8) (us : Fd → T → Bool) (fs : List Fd) (t : T) : List Tg := tagsW fw us fs t 0 (knownN fs 0) ++ (unknownT fs t.u).map cutT
def partW (fw : Fd → T → List UInt8) (us : Fd → T → Bool) (fs : List Fd) (v : Int) (flex : Bool) (t : T) : List UInt8 :=
  plainW fw v t 0 fs ++ (if flex = true then uvar (allTags fw us fs t).length ++ (allTags fw us fs t).flatMap tagB else [])
def uuidB (s : List UInt8) : List UInt8 := (s ++ List.replicate 16 0).take 16
def valueW (pw : List Fd → T → List UInt8) (kind : Int) (sub : List Fd) (null flex : Bool) (t : T) : List UInt8 :=
  if kind = 0 then [b8 (t.n % 2)]
  else if kind = 7 then uuidB t.s
  else if kind = 8 then countedB flex null (if null = true then [] else t.s.take most).length 2 ++ (if null = true then [] else t.s.take most)
  else if kind = 9 then countedB flex null (if null = true then [] else t.s.take most).length 4 ++ (if null = true then [] else t.s.take most)
  else if kind = 10 then pw sub t
  else fixed t.n (widthK kind)
def fieldW (pw : List Fd → T → List UInt8) (f : Fd) (v : Int) (flex : Bool) (t : T) : List UInt8 :=
  if f.kind = 11 then countedB flex (nullF f v t) (if nullF f v t = true then [] else t.l.take most).length 4 ++ (if nullF f v t = true then [] else t.l.take most).flatMap (valueW pw f.of f.sub false flex)
  else if f.kind = 10 ∧ 0 ≤ f.nul then (if nullF f v t = true then fixed (-1) 1 else fixed 1 1 ++ pw f.sub t)
  else valueW pw f.kind f.sub (nullF f v t) flex t
def usualAll (us : Fd → T → Bool) (t : T) : Nat → List Fd → Bool
  | _, [] => true
  | i, f :: r => us f (atT t i) && usualAll us t (i + 1) r
def usualB : Nat → Fd → T → Bool
  | 0, _, _ => true
  | d + 1, f, t =>
    if f.kind = 0 then decide (t.n % 2 = f.df)
    else if f.kind = 7 then (t.s.take 16).all (· == 0)
    else if f.kind = 8 ∨ f.kind = 9 then (if 0 ≤ f.nul then t.nl else t.s.isEmpty)
    else if f.kind = 11 then t.l.isEmpty
    else if f.kind = 10 then usualAll (usualB d) t 0 f.sub && (unknownT f.sub t.u).isEmpty
    else decide (fixed t.n (widthK f.kind) = fixed f.df (widthK f.kind))
/-- What is written of a field; d: how deep parts lie within parts. -/
def fieldB : Nat → Int → Bool → Fd → T → List UInt8
  | 0, _, _, _, _ => []
  | d + 1, v, flex, f, t => fieldW (fun sub t => partW (fieldB d v flex) (usualB d) sub v flex t) f v flex t
def partB (d : Nat) (v : Int) (flex : Bool) (fs : List Fd) (t : T) : List UInt8 := partW (fieldB d v flex) (usualB d) fs v flex t
def fitAll (fi : Fd → T → T) (t : T) : Nat → List Fd → List T
  | _, [] => []
  | i, f :: r => fi f (atT t i) :: fitAll fi t (i + 1) r
def fitW (fi : Fd → T → T) (fs : List Fd) (t : T) : T := .mk 0 [] false (fitAll fi t 0 fs) ((unknownT fs t.u).map cutT)
/-- What fits of a value that is no list. -/
def fit1 (pf : List Fd → T → T) (kind : Int) (sub : List Fd) (null : Bool) (t : T) : T :=
  if kind = 8 ∨ kind = 9 then .mk 0 (t.s.take most) null [] []
  else if kind = 10 then .mk (pf sub t).n (pf sub t).s null (pf sub t).l (pf sub t).u
  else .mk t.n t.s false [] []
def fitF (pf : List Fd → T → T) (f : Fd) (v : Int) (t : T) : T :=
  if f.kind = 11 then .mk 0 [] (nullF f v t || (decide (0 ≤ f.tag) && t.l.isEmpty)) ((t.l.take most).map (fit1 pf f.of f.sub false)) []
  else fit1 pf f.kind f.sub (nullF f v t) t
def fittedB : Nat → Int → Fd → T → T
  | 0, _, _, _ => T.zero
  | d + 1, v, f, t => fitF (fun sub t => fitW (fittedB d v) sub t) f v t
def fitB (d : Nat) (v : Int) (fs : List Fd) (t : T) : T := fitW (fittedB d v) fs t
/-- Descriptions that are in order, no deeper than d. -/
def okF : Nat → Fd → Bool
  | 0, _ => false
  | d + 1, f => (decide (-1 ≤ f.tag) && decide (f.tag ≤ 1000000)) && (decide (0 ≤ f.kind) && decide (f.kind ≤ 11)) && (decide (0 ≤ f.of) && decide (f.of ≤ 10)) && (decide (f.sub.length ≤ 1000)) && f.sub.all (okF d)
end Go.Proofs.YtepamajphjgigaaGreatDoor.K
