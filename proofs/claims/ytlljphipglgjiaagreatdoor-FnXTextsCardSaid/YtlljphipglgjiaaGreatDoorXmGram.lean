/-
  Documents (plain): what spec.XRead takes of a text, as functions over bytes; none: it is bad.
-/
import Derived.Test.YtlljphipglgjiaaGreatDoorXmRd2
import Derived.Test.YtlljphipglgjiaaGreatDoorXmPu
namespace Go.Proofs.YtlljphipglgjiaaGreatDoor
open Go.Lib

/-- An attribute: prefix, local part, value. -/
structure AttrS where
  sp : ByteArray
  loc : ByteArray
  val : ByteArray

/-- An element: its name, its attributes, its text, its elements and texts; a text has no name, a comment the name '!'. -/
inductive XEl where
  | mk (name : List UInt8) (attrs : List AttrS) (text : List UInt8) (kids : List XEl)
def XEl.name : XEl → List UInt8 | .mk n _ _ _ => n
def XEl.attrs : XEl → List AttrS | .mk _ a _ _ => a
def XEl.text : XEl → List UInt8 | .mk _ _ t _ => t
def XEl.kids : XEl → List XEl | .mk _ _ _ k => k

def isPre (wd l : List UInt8) : Bool := l.take wd.length == wd
/-- What stands ahead of a byte, and what behind it. -/
def cutL (c : UInt8) (l : List UInt8) : Option (List UInt8 × List UInt8) :=
  if c ∈ l then some (l.takeWhile (· != c), l.drop ((l.takeWhile (· != c)).length + 1)) else none
/-- What stands ahead of a word, and what behind it. -/
def untilL (wd : List UInt8) : List UInt8 → Option (List UInt8 × List UInt8)
  | [] => none
  | c :: t => if isPre wd (c :: t) then some ([], (c :: t).drop wd.length) else (untilL wd t).map fun p => (c :: p.1, p.2)

def chOf (ds : List UInt8) (n : Option Nat) : Option (List UInt8) :=
  if ds = [] then none else
  match n with
  | none => none
  | some n => if isXChar n then some (encodeRune (n : Int)) else none
def numRef : List UInt8 → Option (List UInt8)
  | 35 :: d :: ds => if d = 120 then chOf ds (num 16 4294967295 0 ds) else chOf (d :: ds) (num 10 4294967295 0 (d :: ds))
  | _ => none
/-- The character that a reference's inside names. -/
def entL (l : List UInt8) : Option (List UInt8) :=
  if l = [97, 109, 112] then some [38] else if l = [108, 116] then some [60] else if l = [103, 116] then some [62] else if l = [113, 117, 111, 116] then some [34]
  else if l = [97, 112, 111, 115] then some [39] else numRef l
def refL (l : List UInt8) : Option (List UInt8 × List UInt8) :=
  match cutL 59 l with
  | none => none
  | some p => (entL p.1).map fun o => (o, p.2)

/-- May the character at the head of l not stand in a text? -/
def badCh (l : List UInt8) : Bool :=
  !isXChar (decodeL l).1 || (decodeL l).1 == 13 || (decodeL l).1 == 60 || ((decodeL l).1 == 65533 && (decodeL l).2 == 1) || l.take 3 == [93, 93, 62]
def txtF (a b : UInt8) : Nat → List UInt8 → Option (List UInt8 × List UInt8)
  | 0, _ => none
  | _ + 1, [] => some ([], [])
  | f + 1, c :: t =>
    if c = a ∨ c = b then some ([], c :: t)
    else if c = 38 then
      match refL t with
      | none => none
      | some p => (txtF a b f p.2).map fun q => (p.1 ++ q.1, q.2)
    else if badCh (c :: t) then none
    else (txtF a b f ((c :: t).drop (decodeL (c :: t)).2)).map fun q => ((c :: t).take (decodeL (c :: t)).2 ++ q.1, q.2)

def attrF : Nat → List UInt8 → Option (List AttrS × Bool × List UInt8)
  | 0, _ => none
  | f + 1, l =>
    if isPre [47, 62] (l.dropWhile blankB) then some ([], true, (l.dropWhile blankB).drop 2)
    else if isPre [62] (l.dropWhile blankB) then some ([], false, (l.dropWhile blankB).drop 1)
    else if !goodName ((l.dropWhile blankB).takeWhile nameC) || (l.dropWhile blankB).length == l.length then none
    else
      match (l.dropWhile blankB).dropWhile nameC with
      | 61 :: q :: r =>
        if q = 34 ∨ q = 39 then
          match txtF q q (r.length + 1) r with
          | some (v, _ :: r2) => (attrF f r2).map fun p => (⟨bst (halvesL ((l.dropWhile blankB).takeWhile nameC)).1, bst (halvesL ((l.dropWhile blankB).takeWhile nameC)).2, bst v⟩ :: p.1, p.2)
          | _ => none
        else none
      | _ => none

def comOk : Nat → List UInt8 → Bool
  | 0, _ => true
  | _ + 1, [] => true
  | f + 1, c :: t =>
    !((c == 45 && (t == [] || t.head? == some 45)) || !isXChar (decodeL (c :: t)).1 || ((decodeL (c :: t)).1 == 65533 && (decodeL (c :: t)).2 == 1 && decide (128 ≤ c.toNat)) || (decodeL (c :: t)).1 == 13)
      && comOk f ((c :: t).drop (decodeL (c :: t)).2)
def commentL (l : List UInt8) : Option (List UInt8 × List UInt8) :=
  match untilL [45, 45, 62] l with
  | none => none
  | some p => if comOk (p.1.length + 1) p.1 then some p else none

def kidsF (el : List UInt8 → Option (XEl × List UInt8)) (nm : List UInt8) : Nat → List UInt8 → Option (List XEl × List UInt8)
  | 0, _ => none
  | f + 1, l =>
    if l = [] then none
    else if isPre [60, 47] l then
      (if (l.drop 2).takeWhile nameC = nm ∧ goodName ((l.drop 2).takeWhile nameC) = true ∧ isPre [62] (((l.drop 2).dropWhile nameC).dropWhile blankB) = true then some ([], (((l.drop 2).dropWhile nameC).dropWhile blankB).drop 1) else none)
    else if isPre [60, 33, 45, 45] l then
      match commentL (l.drop 4) with
      | none => none
      | some p => (kidsF el nm f p.2).map fun q => (.mk [33] [] p.1 [] :: q.1, q.2)
    else if isPre [60] l then
      match el (l.drop 1) with
      | none => none
      | some p => (kidsF el nm f p.2).map fun q => (p.1 :: q.1, q.2)
    else
      match txtF 60 60 (l.length + 1) l with
      | none => none
      | some p => (kidsF el nm f p.2).map fun q => (.mk [] [] p.1 [] :: q.1, q.2)

/-- An element behind its first sign, when kids reads what stands in it. -/
def elemC (kids : List UInt8 → List UInt8 → Option (List XEl × List UInt8)) (l : List UInt8) : Option (XEl × List UInt8) :=
  if !goodName (l.takeWhile nameC) then none else
  match attrF (l.length + 1) (l.dropWhile nameC) with
  | none => none
  | some (av, true, r) => some (.mk (l.takeWhile nameC) av [] [], r)
  | some (av, false, r) => (kids (l.takeWhile nameC) r).map fun p => (.mk (l.takeWhile nameC) av [] p.1, p.2)
def elemL : Nat → List UInt8 → Option (XEl × List UInt8)
  | 0, l => elemC (fun _ _ => none) l
  | d + 1, l => elemC (fun nm r => kidsF (elemL d) nm (r.length + 1) r) l

def prologF : Nat → List UInt8 → Option (List UInt8)
  | 0, _ => none
  | f + 1, l =>
    if (l.dropWhile blankB).length < l.length then prologF f (l.dropWhile blankB)
    else if isPre [60, 33, 45, 45] l then
      match commentL (l.drop 4) with
      | none => none
      | some p => prologF f p.2
    else some l
def declL : List UInt8 := [60, 63, 120, 109, 108, 32, 118, 101, 114, 115, 105, 111, 110, 61, 34, 49, 46, 48, 34, 32, 101, 110, 99, 111, 100, 105, 110, 103, 61, 34, 85, 84, 70, 45, 56, 34, 63, 62]
/-- A document's root. -/
def xreadL (l : List UInt8) : Option XEl :=
  match prologF (l.length + 1) (if isPre declL l then l.drop declL.length else l) with
  | some (60 :: t) =>
    match elemL 40 t with
    | some (e, r) => if r.dropWhile blankB = [] then some e else none
    | none => none
  | _ => none

end Go.Proofs.YtlljphipglgjiaaGreatDoor
