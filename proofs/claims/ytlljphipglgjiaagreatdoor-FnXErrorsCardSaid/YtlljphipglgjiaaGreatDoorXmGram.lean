/-
  Documents (plain): what spec.XRead takes of a text, as functions over bytes; none: it is bad.
  DERIVED: THE SHELF's CONTRACTS AT THIS DUMP, IN PLAIN WORDS (tools/lay-plain.mjs out of 'TryzShelfC.lean', which tools/lay-shelf.mjs wrote): THE SAME DECLARATIONS UNDER THE SAME NAMES: 'import', 'namespace', 'open', 'def', 'theorem' AND NOTHING ELSE: no command of the shelf's: FOR A HAND-IN. Each laying: the table of numbers ('.._ren') and one theorem, a field a fact of the dump's own or the kernel's comparison; each contract: ONE APPLICATION.
  The plain law of FnXTexts: what an encoder writes of a text is read as that text, cleaned (no program).
  spec.xRune: the character at a place, and its width.
  strconv.ParseUint at 32 bits, and spec.xReader.reference.
  What zxml's Decoder does to a text, byte by byte, and why the texts that spec.XRead takes go that way (plain).
-/
import Derived.Test.YtlljphipglgjiaaGreatDoorXmRd4
import Derived.Test.YtlljphipglgjiaaGreatDoorXmPu
import Derived.Shelf.Strconv.ToErrorRange
import Derived.Shelf.Strconv.ToError
import Derived.Shelf.Strconv.ParseUintEmpty
import Derived.Test.YtlljphipglgjiaaGreatDoorProg
import Derived.Test.YtlljphipglgjiaaGreatDoorXmPieces
import Derived.Laws.Cover4
import Derived.Laws.IdiomStrings
namespace Go.Proofs.YtlljphipglgjiaaGreatDoor
open Go.Lib

/-- An attribute: prefix, local part, value. -/
structure AttrS where
  sp : ByteArray
  loc : ByteArray
  val : ByteArray

/-- An element: its name, its attributes, its text, its elements and texts; a text has no name, a comment the name '!'. -/
inductive XEl where
  | mk (name : List UInt8) (attrs : List AttrS) (text : List UInt8) (kids : List XEl)
def XEl.name : XEl → List UInt8 | .mk n _ _ _ => n
def XEl.attrs : XEl → List AttrS | .mk _ a _ _ => a
def XEl.text : XEl → List UInt8 | .mk _ _ t _ => t
def XEl.kids : XEl → List XEl | .mk _ _ _ k => k

def isPre (wd l : List UInt8) : Bool := l.take wd.length == wd
/-- What stands ahead of a byte, and what behind it. -/
def cutL (c : UInt8) (l : List UInt8) : Option (List UInt8 × List UInt8) :=
  if c ∈ l then some (l.takeWhile (· != c), l.drop ((l.takeWhile (· != c)).length + 1)) else none
/-- What stands ahead of a word, and what behind it. -/
def untilL (wd : List UInt8) : List UInt8 → Option (List UInt8 × List UInt8)
  | [] => none
  | c :: t => if isPre wd (c :: t) then some ([], (c :: t).drop wd.length) else (untilL wd t).map fun p => (c :: p.1, p.2)

def chOf (ds : List UInt8) (n : Option Nat) : Option (List UInt8) :=
  if ds = [] then none else
  match n with
  | none => none
  | some n => if isXChar n then some (encodeRune (n : Int)) else none
def numRef : List UInt8 → Option (List UInt8)
  | 35 :: d :: ds => if d = 120 then chOf ds (num 16 4294967295 0 ds) else chOf (d :: ds) (num 10 4294967295 0 (d :: ds))
  | _ => none
/-- The character that a reference's inside names. -/
def entL (l : List UInt8) : Option (List UInt8) :=
  if l = [97, 109, 112] then some [38] else if l = [108, 116] then some [60] else if l = [103, 116] then some [62] else if l = [113, 117, 111, 116] then some [34]
  else if l = [97, 112, 111, 115] then some [39] else numRef l
def refL (l : List UInt8) : Option (List UInt8 × List UInt8) :=
  match cutL 59 l with
  | none => none
  | some p => (entL p.1).map fun o => (o, p.2)

/-- May the character at the head of l not stand in a text? -/
def badCh (l : List UInt8) : Bool :=
  !isXChar (decodeL l).1 || (decodeL l).1 == 13 || (decodeL l).1 == 60 || ((decodeL l).1 == 65533 && (decodeL l).2 == 1) || l.take 3 == [93, 93, 62]
def txtF (a b : UInt8) : Nat → List UInt8 → Option (List UInt8 × List UInt8)
  | 0, _ => none
  | _ + 1, [] => some ([], [])
  | f + 1, c :: t =>
    if c = a ∨ c = b then some ([], c :: t)
    else if c = 38 then
      match refL t with
      | none => none
      | some p => (txtF a b f p.2).map fun q => (p.1 ++ q.1, q.2)
    else if badCh (c :: t) then none
    else (txtF a b f ((c :: t).drop (decodeL (c :: t)).2)).map fun q => ((c :: t).take (decodeL (c :: t)).2 ++ q.1, q.2)

def attrF : Nat → List UInt8 → Option (List AttrS × Bool × List UInt8)
  | 0, _ => none
  | f + 1, l =>
    if isPre [47, 62] (l.dropWhile blankB) then some ([], true, (l.dropWhile blankB).drop 2)
    else if isPre [62] (l.dropWhile blankB) then some ([], false, (l.dropWhile blankB).drop 1)
    else if !goodName ((l.dropWhile blankB).takeWhile nameC) || (l.dropWhile blankB).length == l.length then none
    else
      match (l.dropWhile blankB).dropWhile nameC with
      | 61 :: q :: r =>
        if q = 34 ∨ q = 39 then
          match txtF q q (r.length + 1) r with
          | some (v, _ :: r2) => (attrF f r2).map fun p => (⟨bst (halvesL ((l.dropWhile blankB).takeWhile nameC)).1, bst (halvesL ((l.dropWhile blankB).takeWhile nameC)).2, bst v⟩ :: p.1, p.2)
          | _ => none
        else none
      | _ => none

def comOk : Nat → List UInt8 → Bool
  | 0, _ => true
  | _ + 1, [] => true
  | f + 1, c :: t =>
    !((c == 45 && (t == [] || t.head? == some 45)) || !isXChar (decodeL (c :: t)).1 || ((decodeL (c :: t)).1 == 65533 && (decodeL (c :: t)).2 == 1 && decide (128 ≤ c.toNat)) || (decodeL (c :: t)).1 == 13)
      && comOk f ((c :: t).drop (decodeL (c :: t)).2)
def commentL (l : List UInt8) : Option (List UInt8 × List UInt8) :=
  match untilL [45, 45, 62] l with
  | none => none
  | some p => if comOk (p.1.length + 1) p.1 then some p else none

def kidsF (el : List UInt8 → Option (XEl × List UInt8)) (nm : List UInt8) : Nat → List UInt8 → Option (List XEl × List UInt8)
  | 0, _ => none
  | f + 1, l =>
    if l = [] then none
    else if isPre [60, 47] l then
      (if (l.drop 2).takeWhile nameC = nm ∧ goodName ((l.drop 2).takeWhile nameC) = true ∧ isPre [62] (((l.drop 2).dropWhile nameC).dropWhile blankB) = true then some ([], (((l.drop 2).dropWhile nameC).dropWhile blankB).drop 1) else none)
    else if isPre [60, 33, 45, 45] l then
      match commentL (l.drop 4) with
      | none => none
      | some p => (kidsF el nm f p.2).map fun q => (.mk [33] [] p.1 [] :: q.1, q.2)
    else if isPre [60] l then
      match el (l.drop 1) with
      | none => none
      | some p => (kidsF el nm f p.2).map fun q => (p.1 :: q.1, q.2)
    else
      match txtF 60 60 (l.length + 1) l with
      | none => none
      | some p => (kidsF el nm f p.2).map fun q => (.mk [] [] p.1 [] :: q.1, q.2)

/-- An element behind its first sign, when kids reads what stands in it. -/
def elemC (kids : List UInt8 → List UInt8 → Option (List XEl × List UInt8)) (l : List UInt8) : Option (XEl × List UInt8) :=
  if !goodName (l.takeWhile nameC) then none else
  match attrF (l.length + 1) (l.dropWhile nameC) with
  | none => none
  | some (av, true, r) => some (.mk (l.takeWhile nameC) av [] [], r)
  | some (av, false, r) => (kids (l.takeWhile nameC) r).map fun p => (.mk (l.takeWhile nameC) av [] p.1, p.2)
def elemL : Nat → List UInt8 → Option (XEl × List UInt8)
  | 0, l => elemC (fun _ _ => none) l
  | d + 1, l => elemC (fun nm r => kidsF (elemL d) nm (r.length + 1) r) l

def prologF : Nat → List UInt8 → Option (List UInt8)
  | 0, _ => none
  | f + 1, l =>
    if (l.dropWhile blankB).length < l.length then prologF f (l.dropWhile blankB)
    else if isPre [60, 33, 45, 45] l then
      match commentL (l.drop 4) with
      | none => none
      | some p => prologF f p.2
    else some l
def declL : List UInt8 := [60, 63, 120, 109, 108, 32, 118, 101, 114, 115, 105, 111, 110, 61, 34, 49, 46, 48, 34, 32, 101, 110, 99, 111, 100, 105, 110, 103, 61, 34, 85, 84, 70, 45, 56, 34, 63, 62]
/-- A document's root. -/
def xreadL (l : List UInt8) : Option XEl :=
  match prologF (l.length + 1) (if isPre declL l then l.drop declL.length else l) with
  | some (60 :: t) =>
    match elemL 40 t with
    | some (e, r) => if r.dropWhile blankB = [] then some e else none
    | none => none
  | _ => none

end Go.Proofs.YtlljphipglgjiaaGreatDoor

namespace Go.Proofs
open Go.Shelf
def Tryz.laysC245_ren : Go.Shelf.Ren := ⟨fun | 245 => 203 | 279 => 221 | 280 => 222 | 281 => 223 | 282 => 224 | 316 => 243 | 171 => 244 | 205 => 73 | 243 => 261 | 246 => 146 | 283 => 181 | 284 => 182 | 285 => 183 | 286 => 184 | 129 => 205 | 317 => 204 | 318 => 206 | 319 => 207 | 320 => 208 | 337 => 225 | 338 => 226 | n => n, fun | 9 => 9 | 3 => 3 | 75 => 69 | 167 => 319 | 4 => 4 | 168 => 321 | 210 => 352 | 37 => 77 | 0 => 0 | 127 => 368 | 145 => 213 | 143 => 211 | 2 => 2 | 171 => 279 | 53 => 41 | 5 => 5 | 173 => 282 | 212 => 300 | 51 => 157 | 20 => 20 | 213 => 301 | 46 => 140 | 232 => 329 | 233 => 353 | 80 => 98 | n => n, fun | 15 => 7 | 16 => 8 | 17 => 2 | 18 => 9 | 19 => 10 | n => n⟩
theorem Tryz.laysC245 : Go.Proofs.LaysC.n245 Tryz.prog Tryz.laysC245_ren := {
  mixed := by kernel_rfl
  f129 := Tryz.func205.trans (congrArg some (by kernel_rfl))
  f171 := Tryz.func244.trans (congrArg some (by kernel_rfl))
  f205 := Tryz.func73.trans (congrArg some (by kernel_rfl))
  f243 := Tryz.func261.trans (congrArg some (by kernel_rfl))
  f245 := Tryz.func203.trans (congrArg some (by kernel_rfl))
  f246 := Tryz.func146.trans (congrArg some (by kernel_rfl))
  f279 := Tryz.func221.trans (congrArg some (by kernel_rfl))
  f280 := Tryz.func222.trans (congrArg some (by kernel_rfl))
  f281 := Tryz.func223.trans (congrArg some (by kernel_rfl))
  f282 := Tryz.func224.trans (congrArg some (by kernel_rfl))
  f283 := Tryz.func181.trans (congrArg some (by kernel_rfl))
  f284 := Tryz.func182.trans (congrArg some (by kernel_rfl))
  f285 := Tryz.func183.trans (congrArg some (by kernel_rfl))
  f286 := Tryz.func184.trans (congrArg some (by kernel_rfl))
  f316 := Tryz.func243.trans (congrArg some (by kernel_rfl))
  f317 := Tryz.func204.trans (congrArg some (by kernel_rfl))
  f318 := Tryz.func206.trans (congrArg some (by kernel_rfl))
  f319 := Tryz.func207.trans (congrArg some (by kernel_rfl))
  f320 := Tryz.func208.trans (congrArg some (by kernel_rfl))
  f337 := Tryz.func225.trans (congrArg some (by kernel_rfl))
  f338 := Tryz.func226.trans (congrArg some (by kernel_rfl))
  t0 := Tryz.underlying0
  a0 := Tryz.isAgg0
  z0 := Tryz.sizeOf0
  v0 := Tryz.zeroValue0
  t2 := Tryz.underlying2
  a2 := Tryz.isAgg2
  z2 := Tryz.sizeOf2
  v2 := Tryz.zeroValue2
  t3 := Tryz.underlying3
  a3 := Tryz.isAgg3
  z3 := Tryz.sizeOf3
  v3 := Tryz.zeroValue3
  t4 := Tryz.underlying4
  a4 := Tryz.isAgg4
  z4 := Tryz.sizeOf4
  v4 := Tryz.zeroValue4
  t5 := Tryz.underlying5
  a5 := Tryz.isAgg5
  z5 := Tryz.sizeOf5
  v5 := Tryz.zeroValue5
  t9 := Tryz.underlying9
  a9 := Tryz.isAgg9
  z9 := Tryz.sizeOf9
  v9 := Tryz.zeroValue9
  t20 := Tryz.underlying20
  a20 := Tryz.isAgg20
  z20 := Tryz.sizeOf20
  v20 := Tryz.zeroValue20
  t37 := Tryz.underlying77
  a37 := Tryz.isAgg77
  z37 := Tryz.sizeOf77
  v37 := Tryz.zeroValue77
  t46 := Tryz.underlying140
  a46 := Tryz.isAgg140
  z46 := Tryz.sizeOf140
  v46 := Tryz.zeroValue140
  t51 := Tryz.underlying157
  a51 := Tryz.isAgg157
  z51 := Tryz.sizeOf157
  v51 := Tryz.zeroValue157
  t53 := Tryz.underlying41
  a53 := Tryz.isAgg41
  z53 := Tryz.sizeOf41
  v53 := Tryz.zeroValue41
  t75 := Tryz.underlying69
  a75 := Tryz.isAgg69
  z75 := Tryz.sizeOf69
  v75 := Tryz.zeroValue69
  t127 := Tryz.underlying368
  a127 := Tryz.isAgg368
  z127 := Tryz.sizeOf368
  v127 := Tryz.zeroValue368
  t143 := Tryz.underlying211
  a143 := Tryz.isAgg211
  z143 := Tryz.sizeOf211
  v143 := Tryz.zeroValue211
  t145 := Tryz.underlying213
  a145 := Tryz.isAgg213
  z145 := Tryz.sizeOf213
  v145 := Tryz.zeroValue213
  t167 := Tryz.underlying319
  a167 := Tryz.isAgg319
  z167 := Tryz.sizeOf319
  v167 := Tryz.zeroValue319
  t168 := Tryz.underlying321
  a168 := Tryz.isAgg321
  z168 := Tryz.sizeOf321
  v168 := Tryz.zeroValue321
  t171 := Tryz.underlying279
  a171 := Tryz.isAgg279
  z171 := Tryz.sizeOf279
  v171 := Tryz.zeroValue279
  t173 := Tryz.underlying282
  a173 := Tryz.isAgg282
  z173 := Tryz.sizeOf282
  v173 := Tryz.zeroValue282
  t210 := Tryz.underlying352
  a210 := Tryz.isAgg352
  z210 := Tryz.sizeOf352
  v210 := Tryz.zeroValue352
  t212 := Tryz.underlying300
  a212 := Tryz.isAgg300
  z212 := Tryz.sizeOf300
  v212 := Tryz.zeroValue300
  t213 := Tryz.underlying301
  a213 := Tryz.isAgg301
  z213 := Tryz.sizeOf301
  t232 := Tryz.underlying329
  a232 := Tryz.isAgg329
  z232 := Tryz.sizeOf329
  v232 := Tryz.zeroValue329
  t233 := Tryz.underlying353
  a233 := Tryz.isAgg353
  z233 := Tryz.sizeOf353
  v233 := Tryz.zeroValue353
  g15 := by kernel_rfl
  g16 := by kernel_rfl
  g17 := by kernel_rfl
  g18 := by kernel_rfl
  g19 := by kernel_rfl
  t80 := Tryz.underlying98
  a80 := Tryz.isAgg98
  z80 := Tryz.sizeOf98
  v80 := Tryz.zeroValue98
  i0 := by kernel_rfl
  i2 := by kernel_rfl
  i3 := by kernel_rfl
  i4 := by kernel_rfl
  i5 := by kernel_rfl
  i9 := by kernel_rfl
  i20 := by kernel_rfl
  i37 := by kernel_rfl
  i46 := by kernel_rfl
  i51 := by kernel_rfl
  i53 := by kernel_rfl
  i75 := by kernel_rfl
  i80 := by kernel_rfl
  i127 := by kernel_rfl
  i143 := by kernel_rfl
  i145 := by kernel_rfl
  i167 := by kernel_rfl
  i168 := by kernel_rfl
  i171 := by kernel_rfl
  i173 := by kernel_rfl
  i210 := by kernel_rfl
  i212 := by kernel_rfl
  i232 := by kernel_rfl
  i233 := by kernel_rfl
  m15 := by kernel_rfl
  m16 := by kernel_rfl
  m17 := by kernel_rfl
  m18 := by kernel_rfl
  m19 := by kernel_rfl
  c0 := by kernel_rfl
  c2 := by kernel_rfl
  c3 := by kernel_rfl
  c4 := by kernel_rfl
  c5 := by kernel_rfl
  c9 := by kernel_rfl
  c20 := by kernel_rfl
  c37 := by kernel_rfl
  c46 := by kernel_rfl
  c51 := by kernel_rfl
  c53 := by kernel_rfl
  c75 := by kernel_rfl
  c80 := by kernel_rfl
  c127 := by kernel_rfl
  c143 := by kernel_rfl
  c145 := by kernel_rfl
  c167 := by kernel_rfl
  c168 := by kernel_rfl
  c171 := by kernel_rfl
  c173 := by kernel_rfl
  c210 := by kernel_rfl
  c212 := by kernel_rfl
  c213 := by kernel_rfl
  c232 := by kernel_rfl
  c233 := by kernel_rfl }
open Go.RowKit in
/-- strconv.toError, at the inner package's ErrSyntax: 'syntaxError(fn, s)' as an error: A *NumError IN A NEW BLOCK. (LAID: no walk: one application.) -/
theorem Tryz.strconv_toError_syntax (fn s : ByteArray) (base bits : Int) (ev : Value) (w : World) (hlim : s.size ≤ 281474976710656) (hv : w.cell? ⟨7, 0, none⟩ = some ev) (hev : ev = .nilIface ∨ ∃ te pe, ev = .iface te pe) :
    Calls Tryz.prog 203 #[.string fn, .string s, .int .i64 base, .int .i64 bits, .iface 319 (.int .i64 2)] w fun e w' => ∃ N, e = .returned (.iface 321 (.pointer (some ⟨N, 0, none⟩))) ∧ w.heap.size ≤ N ∧ w'.heap[N]? = some (.cells #[.string fn, .string s, ev] 352 (0, 0)) ∧ Below w.heap.size w w' := Any.strconv_toError_syntax Tryz.laysC245 fn s base bits ev w hlim hv hev
open Go.RowKit in
/-- strconv.toError, at the inner package's ErrRange: 'rangeError(fn, s)' as an error: A *NumError IN A NEW BLOCK. (LAID: no walk: one application.) -/
theorem Tryz.strconv_toError_range (fn s : ByteArray) (base bits : Int) (ev : Value) (w : World) (hlim : s.size ≤ 281474976710656) (hv : w.cell? ⟨8, 0, none⟩ = some ev) (hev : ev = .nilIface ∨ ∃ te pe, ev = .iface te pe) :
    Calls Tryz.prog 203 #[.string fn, .string s, .int .i64 base, .int .i64 bits, .iface 319 (.int .i64 1)] w fun e w' => ∃ N, e = .returned (.iface 321 (.pointer (some ⟨N, 0, none⟩))) ∧ w.heap.size ≤ N ∧ w'.heap[N]? = some (.cells #[.string fn, .string s, ev] 352 (0, 0)) ∧ Below w.heap.size w w' := Any.strconv_toError_range Tryz.laysC245 fn s base bits ev w hlim hv hev
def Tryz.lays287_ren : Go.Shelf.Ren := ⟨fun | 287 => 202 | 321 => 219 | 322 => 220 | n => n, fun | 9 => 9 | 3 => 3 | 53 => 41 | 75 => 69 | 4 => 4 | 167 => 319 | 5 => 5 | 46 => 140 | 37 => 77 | 0 => 0 | 21 => 21 | 80 => 98 | n => n, fun | n => n⟩
theorem Tryz.lays287 : Go.Proofs.Lays.n287 Tryz.prog Tryz.lays287_ren := {
  mixed := by kernel_rfl
  f287 := Tryz.func202.trans (congrArg some (by kernel_rfl))
  f321 := Tryz.func219.trans (congrArg some (by kernel_rfl))
  f322 := Tryz.func220.trans (congrArg some (by kernel_rfl))
  t0 := Tryz.underlying0
  a0 := Tryz.isAgg0
  z0 := Tryz.sizeOf0
  v0 := Tryz.zeroValue0
  t3 := Tryz.underlying3
  a3 := Tryz.isAgg3
  z3 := Tryz.sizeOf3
  v3 := Tryz.zeroValue3
  t4 := Tryz.underlying4
  a4 := Tryz.isAgg4
  z4 := Tryz.sizeOf4
  v4 := Tryz.zeroValue4
  t5 := Tryz.underlying5
  a5 := Tryz.isAgg5
  z5 := Tryz.sizeOf5
  v5 := Tryz.zeroValue5
  t9 := Tryz.underlying9
  a9 := Tryz.isAgg9
  z9 := Tryz.sizeOf9
  v9 := Tryz.zeroValue9
  t21 := Tryz.underlying21
  a21 := Tryz.isAgg21
  z21 := Tryz.sizeOf21
  v21 := Tryz.zeroValue21
  t37 := Tryz.underlying77
  a37 := Tryz.isAgg77
  z37 := Tryz.sizeOf77
  v37 := Tryz.zeroValue77
  t46 := Tryz.underlying140
  a46 := Tryz.isAgg140
  z46 := Tryz.sizeOf140
  v46 := Tryz.zeroValue140
  t53 := Tryz.underlying41
  a53 := Tryz.isAgg41
  z53 := Tryz.sizeOf41
  v53 := Tryz.zeroValue41
  t75 := Tryz.underlying69
  a75 := Tryz.isAgg69
  z75 := Tryz.sizeOf69
  v75 := Tryz.zeroValue69
  t167 := Tryz.underlying319
  a167 := Tryz.isAgg319
  z167 := Tryz.sizeOf319
  v167 := Tryz.zeroValue319 }
open Go.RowKit in
/-- internal/strconv.ParseUint("", base, bitSize): (0, ErrSyntax): the first test of the text. The world is as it was. (LAID: no walk: one application.) -/
theorem Tryz.internal_strconv_ParseUint_empty (base bits : Int) (w : World) :
    Calls Tryz.prog 202 #[.string ⟨#[]⟩, .int .i64 base, .int .i64 bits] w fun e w' => e = .returned (.tuple #[.int .u64 0, .iface 319 (.int .i64 2)]) ∧ w' = w := Any.internal_strconv_ParseUint_empty Tryz.lays287 base bits w
end Go.Proofs

namespace Go.Proofs.YtlljphipglgjiaaGreatDoor
open Go.Lib

/-- What becomes of a character that is written and read. -/
def cleanP (p : Nat × List UInt8) : List UInt8 := if !isXChar p.1 || (p.1 == 65533 && p.2.length == 1) then [239, 191, 189] else p.2
def clean (l : List UInt8) : List UInt8 := (pieces l).flatMap cleanP
theorem clean_cons (l : List UInt8) (hl : l ≠ []) : clean l = cleanP ((decodeL l).1, l.take (decodeL l).2) ++ clean (l.drop (decodeL l).2) := by
  unfold clean
  rw [pieces_cons l hl, List.flatMap_cons]

theorem decode_ascii (b : UInt8) (t : List UInt8) (h : b.toNat < 128) : decodeL (b :: t) = (b.toNat, 1) := by
  rw [decodeL_N]
  unfold decodeN
  rw [if_pos (by simpa using h)]
  rfl

theorem decode_pre (l R : List UInt8) (hl : l ≠ []) (hv : ¬ ((decodeL l).1 = 65533 ∧ (decodeL l).2 = 1)) : decodeL (l.take (decodeL l).2 ++ R) = decodeL l := by
  have h0 : 0 < l.length := List.length_pos_iff.2 hl
  rw [decodeL_N l] at hv ⊢
  rcases decodeN_shape l.length (l.getD 0 0).toNat (l.getD 1 0).toNat (l.getD 2 0).toNat (l.getD 3 0).toNat with ⟨c, e⟩ | ⟨c1, c2, c3, cv, e⟩ | ⟨c1, c2, c3, c4, cv, cs, e⟩ | ⟨c1, c2, c3, c4, c5, cv, cw, e⟩ | e
  · rw [e]
    dsimp only
    rw [takeA l h0, decodeL_N]
    unfold decodeN
    rw [if_pos (by simpa using c)]
    rfl
  · rw [e]
    dsimp only
    rw [takeB l c2, decodeL_N]
    simp only [List.cons_append, List.nil_append, List.getD_cons_zero, List.getD_cons_succ, List.length_cons]
    unfold decodeN
    rw [if_neg (by omega), if_pos ⟨c1, by omega, c3⟩, if_pos cv]
  · rw [e]
    dsimp only
    rw [takeC l c2, decodeL_N]
    simp only [List.cons_append, List.nil_append, List.getD_cons_zero, List.getD_cons_succ, List.length_cons]
    unfold decodeN
    rw [if_neg (by omega), if_neg (by omega), if_pos ⟨c1, ⟨by omega, c3⟩, by omega, c4⟩, if_pos ⟨cv, by rcases cs with h | h; exact .inl h; exact .inr ⟨h, by omega⟩⟩]
  · rw [e]
    dsimp only
    rw [takeD l c2, decodeL_N]
    simp only [List.cons_append, List.nil_append, List.getD_cons_zero, List.getD_cons_succ, List.length_cons]
    unfold decodeN
    rw [if_neg (by omega), if_neg (by omega), if_neg (by omega), if_pos ⟨c1, ⟨by omega, c3⟩, ⟨by omega, c4⟩, by omega, c5⟩, if_pos ⟨cv, .inr ⟨by omega, cw⟩⟩]
  · rw [e] at hv
    exact absurd ⟨rfl, rfl⟩ hv

theorem escSpec_ne {c : Nat} (h : escSpec c = none) : c ≠ 34 ∧ c ≠ 39 ∧ c ≠ 38 ∧ c ≠ 60 ∧ c ≠ 62 ∧ c ≠ 9 ∧ c ≠ 10 ∧ c ≠ 13 := by
  unfold escSpec at h
  repeat' (split at h)
  all_goals first | (cases h; done) | (refine ⟨?_, ?_, ?_, ?_, ?_, ?_, ?_, ?_⟩ <;> assumption)

theorem take_head (b : UInt8) (t : List UInt8) (n : Nat) (hn : 1 ≤ n) : (b :: t).take n = b :: t.take (n - 1) := by
  obtain ⟨m, rfl⟩ : ∃ m, n = m + 1 := ⟨n - 1, by omega⟩
  simp

theorem escP_head (l : List UInt8) (hl : l ≠ []) : ∃ c t, escP ((decodeL l).1, l.take (decodeL l).2) = c :: t ∧ c ≠ 62 ∧ c ≠ 60 ∧ c ≠ 34 ∧ (c = 93 → t = []) := by
  unfold escP
  cases hs : escSpec (decodeL l).1 with
  | some x =>
    simp only []
    unfold escSpec at hs
    repeat' (split at hs)
    all_goals first | (cases hs; done) | (cases hs; exact ⟨_, _, rfl, by decide, by decide, by decide, by decide⟩)
  | none =>
    simp only []
    have hn := escSpec_ne hs
    split
    · exact ⟨_, _, rfl, by decide, by decide, by decide, by decide⟩
    · match l, hl with
      | b :: t, _ =>
        rw [take_head b t _ (decodeL_width _)]
        refine ⟨b, _, rfl, ?_⟩
        by_cases hb : b.toNat < 128
        · have hd := decode_ascii b t hb
          rw [hd] at hn
          dsimp only at hn
          refine ⟨?_, ?_, ?_, fun _ => by rw [hd]; rfl⟩
          · rintro rfl; exact hn.2.2.2.2.1 rfl
          · rintro rfl; exact hn.2.2.2.1 rfl
          · rintro rfl; exact hn.1 rfl
        · refine ⟨?_, ?_, ?_, ?_⟩
          · rintro rfl; exact hb (by decide)
          · rintro rfl; exact hb (by decide)
          · rintro rfl; exact hb (by decide)
          · rintro rfl; exact absurd (by decide) hb

theorem head_esc (l : List UInt8) (stop : UInt8) (Z : List UInt8) (hs : stop ≠ 62) : (esc l ++ stop :: Z).head? ≠ some 62 := by
  by_cases hl : l = []
  · subst hl
    simpa [esc, pieces_nil] using hs
  · obtain ⟨c, t, hc, h1, -⟩ := escP_head l hl
    rw [esc_cons l hl, hc]
    simpa using h1
theorem two_esc (l : List UInt8) (stop : UInt8) (Z : List UInt8) (hs : stop ≠ 62) (hs2 : stop ≠ 93) : (esc l ++ stop :: Z).take 2 ≠ [93, 62] := by
  by_cases hl : l = []
  · subst hl
    simp [esc, pieces_nil, hs2]
  · obtain ⟨c, t, hc, h1, h2, h3, h4⟩ := escP_head l hl
    rw [esc_cons l hl, hc]
    by_cases h93 : c = 93
    · rw [h4 h93]
      have := head_esc (l.drop (decodeL l).2) stop Z hs
      intro h
      apply this
      simp only [List.cons_append, List.nil_append, List.take_succ_cons] at h
      injection h with _ h
      cases hx : esc (l.drop (decodeL l).2) ++ stop :: Z with
      | nil => simp at hx
      | cons x y =>
        rw [hx] at h
        simp at h
        simp [h]
    · intro h
      simp only [List.cons_append, List.take_succ_cons] at h
      injection h with h _
      exact h93 h

theorem ref_lit (nm o R : List UInt8) (h59 : 59 ∉ nm) (ho : entL nm = some o) : refL (nm ++ 59 :: R) = some (o, R) := by
  have htw : (nm ++ 59 :: R).takeWhile (· != 59) = nm := by
    rw [List.takeWhile_append_of_pos (fun x hx => by rw [bne_iff_ne]; rintro rfl; exact h59 hx)]
    simp
  unfold refL cutL
  rw [if_pos (by simp), htw]
  simp [ho]

theorem txt_ref (a b : UInt8) (g : Nat) (nm o R : List UInt8) (ha : a ≠ 38) (hb : b ≠ 38) (h59 : 59 ∉ nm) (ho : entL nm = some o) :
    txtF a b (g + 1) (38 :: (nm ++ 59 :: R)) = (txtF a b g R).map fun q => (o ++ q.1, q.2) := by
  simp only [txtF]
  rw [if_neg (by rintro (h | h); exact ha h.symm; exact hb h.symm), if_pos trivial, ref_lit nm o R h59 ho]

theorem txt_raw (a b : UInt8) (g r : Nat) (c : UInt8) (t R : List UInt8) (hca : c ≠ a) (hcb : c ≠ b) (hc38 : c ≠ 38) (hd : decodeL (c :: t ++ R) = (r, t.length + 1)) (hx : isXChar r = true) (h13 : r ≠ 13) (h60 : r ≠ 60)
    (hv : ¬ (r = 65533 ∧ t.length + 1 = 1)) (h3 : (c :: t ++ R).take 3 ≠ [93, 93, 62]) :
    txtF a b (g + 1) (c :: t ++ R) = (txtF a b g R).map fun q => (c :: t ++ q.1, q.2) := by
  have hbad : badCh (c :: t ++ R) = false := by
    unfold badCh
    rw [hd]
    simp only [hx, Bool.not_true, Bool.false_or, Bool.or_eq_false_iff, beq_eq_false_iff_ne, ne_eq, Bool.and_eq_false_iff]
    refine ⟨⟨⟨h13, h60⟩, ?_⟩, h3⟩
    by_cases h : r = 65533
    · exact .inr fun h2 => hv ⟨h, h2⟩
    · exact .inl h
  show txtF a b (g + 1) (c :: (t ++ R)) = _
  simp only [txtF]
  rw [if_neg (by rintro (h | h); exact hca h; exact hcb h), if_neg hc38]
  rw [show c :: (t ++ R) = c :: t ++ R from rfl, hbad, hd]
  simp

theorem ent_esc {c : Nat} {x : List UInt8} (h : escSpec c = some x) : ∃ nm, x = 38 :: (nm ++ [59]) ∧ 59 ∉ nm ∧ entL nm = some (encodeRune (c : Int)) ∧ isXChar c = true ∧ c ≠ 65533 := by
  unfold escSpec at h
  split at h
  · subst_vars; cases h; exact ⟨[35, 51, 52], rfl, by decide, by decide +kernel, by decide, by decide⟩
  split at h
  · subst_vars; cases h; exact ⟨[35, 51, 57], rfl, by decide, by decide +kernel, by decide, by decide⟩
  split at h
  · subst_vars; cases h; exact ⟨[97, 109, 112], rfl, by decide, by decide +kernel, by decide, by decide⟩
  split at h
  · subst_vars; cases h; exact ⟨[108, 116], rfl, by decide, by decide +kernel, by decide, by decide⟩
  split at h
  · subst_vars; cases h; exact ⟨[103, 116], rfl, by decide, by decide +kernel, by decide, by decide⟩
  split at h
  · subst_vars; cases h; exact ⟨[35, 120, 57], rfl, by decide, by decide +kernel, by decide, by decide⟩
  split at h
  · subst_vars; cases h; exact ⟨[35, 120, 65], rfl, by decide, by decide +kernel, by decide, by decide⟩
  split at h
  · subst_vars; cases h; exact ⟨[35, 120, 68], rfl, by decide, by decide +kernel, by decide, by decide⟩
  split at h
  · subst_vars; cases h; exact ⟨[35, 120, 56, 53], rfl, by decide, by decide +kernel, by decide, by decide⟩
  split at h
  · subst_vars; cases h; exact ⟨[35, 120, 50, 48, 50, 56], rfl, by decide, by decide +kernel, by decide, by decide⟩
  · cases h

/-- A text that was written is read up to what stands behind it, cleaned. -/
theorem txt_esc (a b : UInt8) (hab : (a = 34 ∧ b = 34) ∨ (a = 60 ∧ b = 60)) (Z : List UInt8) : ∀ (n : Nat) (l : List UInt8), l.length ≤ n → ∀ f, (pieces l).length < f → txtF a b f (esc l ++ a :: Z) = some (clean l, a :: Z)
  | n, l, hn, f, hf => by
    obtain ⟨g, rfl⟩ : ∃ g, f = g + 1 := ⟨f - 1, by omega⟩
    have ha38 : a ≠ 38 := by rcases hab with ⟨rfl, _⟩ | ⟨rfl, _⟩ <;> decide
    have hb38 : b ≠ 38 := by rcases hab with ⟨_, rfl⟩ | ⟨_, rfl⟩ <;> decide
    by_cases hl : l = []
    · subst hl
      simp [esc, clean, pieces_nil, txtF]
    · match n with
      | 0 => exact absurd (List.eq_nil_of_length_eq_zero (by omega)) hl
      | n + 1 =>
        have hw := decodeL_width l
        have hle := decodeL_le l hl
        have ih := txt_esc a b hab Z n (l.drop (decodeL l).2) (by rw [List.length_drop]; omega) g (by rw [pieces_cons l hl, List.length_cons] at hf; omega)
        have h62 : a ≠ 62 := by rcases hab with ⟨rfl, _⟩ | ⟨rfl, _⟩ <;> decide
        have h93 : a ≠ 93 := by rcases hab with ⟨rfl, _⟩ | ⟨rfl, _⟩ <;> decide
        have hR := two_esc (l.drop (decodeL l).2) a Z h62 h93
        obtain ⟨R, hRe⟩ : ∃ R, esc (l.drop (decodeL l).2) ++ a :: Z = R := ⟨_, rfl⟩
        rw [esc_cons l hl, clean_cons l hl, List.append_assoc]
        rw [hRe] at ih hR ⊢
        suffices hs : txtF a b (g + 1) (escP ((decodeL l).1, l.take (decodeL l).2) ++ R) = (txtF a b g R).map fun q => (cleanP ((decodeL l).1, l.take (decodeL l).2) ++ q.1, q.2) by
          rw [hs, ih]; rfl
        cases hs : escSpec (decodeL l).1 with
        | some x =>
          obtain ⟨nm, rfl, h59, ho, hx, hne⟩ := ent_esc hs
          have he : encodeRune ((decodeL l).1 : Int) = l.take (decodeL l).2 := encode_decode l hl (fun h => hne h.1)
          have hc : cleanP ((decodeL l).1, l.take (decodeL l).2) = l.take (decodeL l).2 := by
            unfold cleanP
            rw [if_neg]
            simp [hx, hne]
          rw [hc, ← he]
          unfold escP
          simp only [hs]
          have := txt_ref a b g nm _ R ha38 hb38 h59 ho
          simpa using this
        | none =>
          have hnn := escSpec_ne hs
          by_cases hbad : (!isXChar (decodeL l).1 || ((decodeL l).1 == 65533 && (l.take (decodeL l).2).length == 1)) = true
          · have e1 : escP ((decodeL l).1, l.take (decodeL l).2) = [239, 191, 189] := by unfold escP; simp only [hs]; rw [if_pos hbad]
            have e2 : cleanP ((decodeL l).1, l.take (decodeL l).2) = [239, 191, 189] := by unfold cleanP; rw [if_pos hbad]
            rw [e1, e2]
            refine txt_raw a b g 65533 239 [191, 189] R ?_ ?_ (by decide) ?_ (by decide) (by decide) (by decide) (by simp) (by simp)
            · rcases hab with ⟨rfl, _⟩ | ⟨rfl, _⟩ <;> decide
            · rcases hab with ⟨_, rfl⟩ | ⟨_, rfl⟩ <;> decide
            · rw [decodeL_N]
              simp only [List.cons_append, List.nil_append, List.getD_cons_zero, List.getD_cons_succ, List.length_cons]
              unfold decodeN
              rw [if_neg (by decide), if_neg (by intro h; exact absurd h.1 (by decide)), if_pos ⟨by decide, ⟨by omega, by decide⟩, by omega, by decide⟩, if_pos (by decide)]
              rfl
          · have e1 : escP ((decodeL l).1, l.take (decodeL l).2) = l.take (decodeL l).2 := by unfold escP; simp only [hs]; rw [if_neg hbad]
            have e2 : cleanP ((decodeL l).1, l.take (decodeL l).2) = l.take (decodeL l).2 := by unfold cleanP; rw [if_neg hbad]
            have hlen : (l.take (decodeL l).2).length = (decodeL l).2 := by rw [List.length_take]; omega
            rw [hlen] at hbad
            simp only [Bool.not_eq_true, Bool.or_eq_false_iff, Bool.not_eq_false', Bool.and_eq_false_iff, beq_eq_false_iff_ne] at hbad
            have hv : ¬ ((decodeL l).1 = 65533 ∧ (decodeL l).2 = 1) := fun h => by rcases hbad.2 with h2 | h2; exact h2 h.1; exact h2 h.2
            obtain ⟨c, t, hct, hc62, hc60, hc34, hc93⟩ := escP_head l hl
            rw [e1] at hct
            have hdp := decode_pre l R hl hv
            rw [e1, e2]
            rw [hct] at hdp hlen ⊢
            have hc38 : c ≠ 38 := by
              rintro rfl
              match l, hl, hct with
              | b0 :: t0, _, hct =>
                rw [take_head b0 t0 _ hw] at hct
                injection hct with h1 _
                subst h1
                have := decode_ascii 38 t0 (by decide)
                exact hnn.2.2.1 (by rw [this]; rfl)
            have hlt : t.length + 1 = (decodeL l).2 := by simpa using hlen
            refine txt_raw a b g (decodeL l).1 c t R ?_ ?_ hc38 ?_ hbad.1 hnn.2.2.2.2.2.2.2 hnn.2.2.2.1 ?_ ?_
            · rcases hab with ⟨rfl, _⟩ | ⟨rfl, _⟩ <;> assumption
            · rcases hab with ⟨_, rfl⟩ | ⟨_, rfl⟩ <;> assumption
            · rw [hdp, hlt]
            · rw [hlt]; exact hv
            · by_cases h9 : c = 93
              · rw [hc93 h9]
                intro h
                simp only [List.cons_append, List.nil_append, List.take_succ_cons] at h
                injection h with _ h
                exact hR h
              · intro h
                simp only [List.cons_append, List.take_succ_cons] at h
                injection h with h _
                exact h9 h

/-- The document that an encoder writes of the element a, with the attribute b, of one text. -/
def textDoc (l : List UInt8) : List UInt8 := [60, 97, 32, 98, 61, 34] ++ esc l ++ [34, 62] ++ esc l ++ [60, 47, 97, 62]
def textEl (l : List UInt8) : XEl := .mk [97] [⟨bst [], bst [98], bst (clean l)⟩] [] (if l = [] then [] else [.mk [] [] (clean l) []])

theorem pieces_le : ∀ (n : Nat) (l : List UInt8), l.length ≤ n → (pieces l).length ≤ (esc l).length
  | n, l, hn => by
    by_cases hl : l = []
    · subst hl; simp [pieces_nil]
    · match n with
      | 0 => exact absurd (List.eq_nil_of_length_eq_zero (by omega)) hl
      | n + 1 =>
        have hw := decodeL_width l
        have hp : 0 < l.length := List.length_pos_iff.2 hl
        have := pieces_le n (l.drop (decodeL l).2) (by rw [List.length_drop]; omega)
        obtain ⟨c, t, hc, -⟩ := escP_head l hl
        rw [esc_cons l hl, pieces_cons l hl, hc]
        simp
        omega
/-- With fuel to spare. -/
theorem txt_esc_any (a b : UInt8) (hab : (a = 34 ∧ b = 34) ∨ (a = 60 ∧ b = 60)) (Z l : List UInt8) (f : Nat) (hf : (esc l ++ a :: Z).length ≤ f) : txtF a b f (esc l ++ a :: Z) = some (clean l, a :: Z) := by
  refine txt_esc a b hab Z _ l (Nat.le_refl _) f ?_
  have := pieces_le _ l (Nat.le_refl _)
  simp at hf
  omega

theorem isPre_cons (c : UInt8) (wd t : List UInt8) : isPre (c :: wd) (c :: t) = isPre wd t := by simp [isPre]
theorem isPre_ne (c d : UInt8) (wd t : List UInt8) (h : d ≠ c) : isPre (c :: wd) (d :: t) = false := by simp [isPre, h]

theorem esc_ne (l : List UInt8) (hl : l ≠ []) : ∃ c t, esc l = c :: t ∧ c ≠ 60 := by
  obtain ⟨c, t, hc, h1, h2, -⟩ := escP_head l hl
  exact ⟨c, _, by rw [esc_cons l hl, hc]; rfl, h2⟩

theorem text_attr (l Z : List UInt8) (f : Nat) (hf : 2 ≤ f) : attrF f ([32, 98, 61, 34] ++ esc l ++ 34 :: 62 :: Z) = some ([⟨bst [], bst [98], bst (clean l)⟩], false, Z) := by
  obtain ⟨g, rfl⟩ : ∃ g, f = g + 2 := ⟨f - 2, by omega⟩
  have ht := txt_esc_any 34 34 (.inl ⟨rfl, rfl⟩) (62 :: Z) l ((esc l ++ 34 :: 62 :: Z).length + 1) (by omega)
  obtain ⟨R, hR⟩ : ∃ R, esc l ++ 34 :: 62 :: Z = R := ⟨_, rfl⟩
  have e1 : [32, 98, 61, 34] ++ esc l ++ 34 :: 62 :: Z = 32 :: 98 :: 61 :: 34 :: R := by rw [← hR]; simp
  have hd : (32 :: 98 :: 61 :: 34 :: R).dropWhile blankB = 98 :: 61 :: 34 :: R := by
    rw [List.dropWhile_cons, if_pos (by decide), List.dropWhile_cons, if_neg (by decide)]
  have hn : (98 :: 61 :: 34 :: R).takeWhile nameC = [98] := by
    rw [List.takeWhile_cons, if_pos (by decide), List.takeWhile_cons, if_neg (by decide)]
  have hm : (98 :: 61 :: 34 :: R).dropWhile nameC = 61 :: 34 :: R := by
    rw [List.dropWhile_cons, if_pos (by decide), List.dropWhile_cons, if_neg (by decide)]
  rw [e1, attrF, hd, hn, hm, isPre_ne _ _ _ _ (by decide), isPre_ne _ _ _ _ (by decide)]
  rw [hR] at ht
  have hz : (62 :: Z).dropWhile blankB = 62 :: Z := by rw [List.dropWhile_cons, if_neg (by decide)]
  have h2 : attrF (g + 1) (62 :: Z) = some ([], false, Z) := by
    rw [attrF, hz, isPre_ne _ _ _ _ (by decide), isPre_cons]
    simp [isPre]
  have hgn : goodName [98] = true := by decide
  simp only [hgn, Bool.not_true, Bool.false_or, List.length_cons, Bool.false_eq_true, if_false]
  rw [if_neg (by simp)]
  simp only [true_or, if_true]
  rw [ht]
  simp only []
  rw [h2]
  rfl

theorem text_kids (el : List UInt8 → Option (XEl × List UInt8)) (l : List UInt8) (f : Nat) (hf : 2 ≤ f) : kidsF el [97] f (esc l ++ [60, 47, 97, 62]) = some (if l = [] then [] else [.mk [] [] (clean l) []], []) := by
  obtain ⟨g, rfl⟩ : ∃ g, f = g + 2 := ⟨f - 2, by omega⟩
  have hend : ∀ k, kidsF el [97] (k + 1) [60, 47, 97, 62] = some ([], []) := fun k => by
    rw [kidsF, if_neg (by decide), if_pos (by decide), if_pos (by decide)]
    rfl
  by_cases hl : l = []
  · subst hl
    rw [show esc [] ++ [60, 47, 97, 62] = [60, 47, 97, 62] from rfl, hend]
    rfl
  · obtain ⟨c, t, hc, hc60⟩ := esc_ne l hl
    have ht := txt_esc_any 60 60 (.inr ⟨rfl, rfl⟩) [47, 97, 62] l ((esc l ++ [60, 47, 97, 62]).length + 1) (by omega)
    rw [kidsF]
    rw [hc] at ht ⊢
    rw [if_neg (by simp), show c :: t ++ [60, 47, 97, 62] = c :: (t ++ [60, 47, 97, 62]) from rfl, isPre_ne _ _ _ _ hc60, isPre_ne _ _ _ _ hc60, isPre_ne _ _ _ _ hc60]
    simp only [Bool.false_eq_true, if_false]
    rw [show c :: (t ++ [60, 47, 97, 62]) = c :: t ++ [60, 47, 97, 62] from rfl, ht]
    simp only []
    rw [hend]
    simp [hl]

theorem xread_text (l : List UInt8) : xreadL (textDoc l) = some (textEl l) := by
  obtain ⟨R, hR⟩ : ∃ R, esc l ++ [34, 62] ++ esc l ++ [60, 47, 97, 62] = R := ⟨_, rfl⟩
  have e1 : textDoc l = 60 :: 97 :: 32 :: 98 :: 61 :: 34 :: R := by rw [← hR]; simp [textDoc]
  have e2 : 32 :: 98 :: 61 :: 34 :: R = [32, 98, 61, 34] ++ esc l ++ 34 :: 62 :: (esc l ++ [60, 47, 97, 62]) := by rw [← hR]; simp
  have hd : isPre declL (60 :: 97 :: 32 :: 98 :: 61 :: 34 :: R) = false := by
    unfold declL
    rw [isPre_cons, isPre_ne _ _ _ _ (by decide)]
  have hb : (60 :: 97 :: 32 :: 98 :: 61 :: 34 :: R).dropWhile blankB = 60 :: 97 :: 32 :: 98 :: 61 :: 34 :: R := by rw [List.dropWhile_cons, if_neg (by decide)]
  have hp : ∀ k, prologF (k + 1) (60 :: 97 :: 32 :: 98 :: 61 :: 34 :: R) = some (60 :: 97 :: 32 :: 98 :: 61 :: 34 :: R) := fun k => by
    rw [prologF, hb, if_neg (by omega), isPre_cons, isPre_ne _ _ _ _ (by decide)]
    simp
  have hel : elemL 40 (97 :: 32 :: 98 :: 61 :: 34 :: R) = some (textEl l, []) := by
    have hn : (97 :: 32 :: 98 :: 61 :: 34 :: R).takeWhile nameC = [97] := by
      rw [List.takeWhile_cons, if_pos (by decide), List.takeWhile_cons, if_neg (by decide)]
    have hm : (97 :: 32 :: 98 :: 61 :: 34 :: R).dropWhile nameC = 32 :: 98 :: 61 :: 34 :: R := by
      rw [List.dropWhile_cons, if_pos (by decide), List.dropWhile_cons, if_neg (by decide)]
    rw [elemL, elemC, hn, hm, if_neg (by decide), e2, text_attr l _ _ (by simp)]
    simp only []
    rw [text_kids _ l _ (by simp)]
    rfl
  rw [xreadL, e1, hd]
  simp only [Bool.false_eq_true, if_false]
  rw [hp]
  simp only []
  rw [hel]
  simp

end Go.Proofs.YtlljphipglgjiaaGreatDoor

namespace Go.Proofs.YtlljphipglgjiaaGreatDoor
open Go.RowKit Go.Lib
set_option linter.unusedSimpArgs false

theorem runes_more (s : ByteArray) : ∀ (f i : Nat) (acc : Array Value), acc.size ≤ (Conv.runesFrom s f i acc).size
  | 0, _, acc => by simp [Conv.runesFrom]
  | f + 1, i, acc => by
    unfold Conv.runesFrom
    split
    · have := runes_more s f (i + (Utf8.decode s i).2) (acc.push (.int .i32 (Int.ofNat (Utf8.decode s i).1)))
      rw [Array.size_push] at this
      exact Nat.le_trans (Nat.le_succ _) this
    · exact Nat.le_refl _
theorem runes_end (s : ByteArray) (f i : Nat) (acc : Array Value) (h : ¬ i < s.size) : Conv.runesFrom s f i acc = acc := by
  cases f <;> simp [Conv.runesFrom, h]
theorem decode0 (t : ByteArray) : Utf8.decode t 0 = decodeL t.data.toList := by
  have := decodeL_drop t 0
  simpa using this.symm
theorem runes_one (t : ByteArray) (ht : 0 < t.size) (h : (decodeL t.data.toList).2 = t.size) : Conv.runesFrom t t.size 0 #[] = #[.int .i32 (decodeL t.data.toList).1] := by
  obtain ⟨m, hm⟩ : ∃ m, t.size = m + 1 := ⟨t.size - 1, by omega⟩
  have e : Conv.runesFrom t t.size 0 #[] = Conv.runesFrom t (m + 1) 0 #[] := by rw [hm]
  rw [e, Conv.runesFrom, if_pos ht]
  simp only []
  rw [decode0, runes_end _ _ _ _ (by omega)]
  rfl
theorem runes_two (t : ByteArray) (ht : 0 < t.size) (h : (decodeL t.data.toList).2 ≠ t.size) : 2 ≤ (Conv.runesFrom t t.size 0 #[]).size := by
  have hle := decodeL_le t.data.toList (by intro e; have := congrArg List.length e; rw [Array.length_toList] at this; have h5 : t.data.size = t.size := rfl; rw [List.length_nil] at this; omega)
  rw [Array.length_toList] at hle
  have h5 : t.data.size = t.size := rfl
  have hw := decodeL_width t.data.toList
  obtain ⟨m, hm⟩ : ∃ m, t.size = m + 2 := ⟨t.size - 2, by omega⟩
  have e : Conv.runesFrom t t.size 0 #[] = Conv.runesFrom t (m + 1 + 1) 0 #[] := by rw [hm]
  rw [e, Conv.runesFrom, if_pos ht]
  simp only []
  rw [decode0, Conv.runesFrom, if_pos (by omega)]
  simp only []
  refine Nat.le_trans ?_ (runes_more _ _ _ _)
  simp

theorem utf8_encode (c : Nat) : (Utf8.encode (c : Int)).data.toList = encodeRune (c : Int) := by
  have hb : ∀ (x : Int) (n : Nat), x = (n : Int) → x.toNat.toUInt8 = UInt8.ofNat n := fun x n h => by subst h; rfl
  unfold encodeRune
  by_cases c1 : c < 128
  · have v : Utf8.valid (c : Int) = true := by simp [Utf8.valid]; omega
    rw [encodeRuneZ_one (by omega) (by omega)]
    simp only [List.map_cons, List.map_nil]
    rw [hb _ c rfl]
    simp [Utf8.encode, v, c1]
  by_cases c2 : c < 2048
  · have v : Utf8.valid (c : Int) = true := by simp [Utf8.valid]; omega
    rw [encodeRuneZ_two (by omega) (by omega)]
    simp only [List.map_cons, List.map_nil]
    rw [hb _ (192 + c / 64) (by omega), hb _ (128 + c % 64) (by omega)]
    simp [Utf8.encode, v, c1, c2]
  by_cases hbad : (55296 ≤ c ∧ c ≤ 57343) ∨ 1114111 < c
  · have v : Utf8.valid (c : Int) = false := by simp [Utf8.valid]; omega
    rw [encodeRuneZ_bad (by omega)]
    simp [Utf8.encode, v, Utf8.runeError]
  by_cases c3 : c < 65536
  · have v : Utf8.valid (c : Int) = true := by simp [Utf8.valid]; omega
    rw [encodeRuneZ_three (by omega)]
    simp only [List.map_cons, List.map_nil]
    rw [hb _ (224 + c / 4096) (by omega), hb _ (128 + c / 64 % 64) (by omega), hb _ (128 + c % 64) (by omega)]
    simp [Utf8.encode, v, c1, c2, c3]
  · have v : Utf8.valid (c : Int) = true := by simp [Utf8.valid]; omega
    rw [encodeRuneZ_four (by omega) (by omega)]
    simp only [List.map_cons, List.map_nil]
    rw [hb _ (240 + c / 262144) (by omega), hb _ (128 + c / 4096 % 64) (by omega), hb _ (128 + c / 64 % 64) (by omega), hb _ (128 + c % 64) (by omega)]
    simp [Utf8.encode, v, c1, c2, c3]
theorem one_rune (c : Nat) : (runesBytes [(c : Int)]).data.toList = encodeRune (c : Int) := by
  rw [← utf8_encode]
  unfold runesBytes
  rw [List.foldl_cons, List.foldl_nil, ByteArray.empty_append]

/-- Is it a character? -/
def okCh (l : List UInt8) : Bool := !((decodeL l).1 == 65533 && (decodeL l).2 == 1)

theorem okCh_yes {l : List UInt8} (h : okCh l = true) : ¬ ((decodeL l).1 = 65533 ∧ (decodeL l).2 = 1) := by
  unfold okCh at h
  simp only [Bool.not_eq_true', Bool.and_eq_false_iff, beq_eq_false_iff_ne] at h
  rintro ⟨h1, h2⟩
  rcases h with h | h
  · exact h h1
  · exact h h2
theorem below_drewN {B : Nat} {a w : World} (h : Below B a w) (n : Nat) : Below B a (w.drewN n) := ⟨h.os, h.tape, h.output, h.size, h.block⟩
theorem below_drew {B : Nat} {a w : World} (h : Below B a w) : Below B a w.drew := ⟨h.os, h.tape, h.output, h.size, h.block⟩

set_option maxRecDepth 100000 in
set_option maxHeartbeats 2000000 in
theorem xRune_any (s : ByteArray) (i : Nat) (w : World) (hs : s.size ≤ 1000000) (hi : i < s.size) :
    Calls Tryz.prog 56 #[.string s, .int .i64 i] w fun e w' => e = .returned (.tuple #[.int .i32 (decodeL (s.data.toList.drop i)).1, .int .i64 (decodeL (s.data.toList.drop i)).2]) ∧ Below w.heap.size w w' := by
  have hl : s.data.toList.length = s.size := by rw [Array.length_toList]; rfl
  obtain ⟨l, hle⟩ : ∃ l, s.data.toList.drop i = l := ⟨_, rfl⟩
  have hll : l.length = s.size - i := by rw [← hle, List.length_drop, hl]
  have hlne : l ≠ [] := by intro e; rw [e] at hll; simp at hll; omega
  have hwd := decodeL_le l hlne
  have hw4 : (decodeL l).2 ≤ 4 := by
    rw [decodeL_N]
    rcases decodeN_shape l.length (l.getD 0 0).toNat (l.getD 1 0).toNat (l.getD 2 0).toNat (l.getD 3 0).toNat with ⟨c, e⟩ | ⟨c1, c2, c3, cv, e⟩ | ⟨c1, c2, c3, c4, cv, cs, e⟩ | ⟨c1, c2, c3, c4, c5, cv, cw, e⟩ | e <;> rw [e] <;> simp
  have hw1 := decodeL_width l
  rw [hle]
  have HLE := Lib.hid hle
  clear hle
  go_enter Tryz.func56, Tryz.ntmps56
  go_wp2_with fail
  go_loopw [6] (fun n wr => ∃ k : Nat, 1 ≤ k ∧ k ≤ 5 ∧ n = .int .i64 k ∧ Below w.heap.size w wr ∧ Hid (okCh l = true → k ≤ (decodeL l).2)) (fun n _ => 5 - (RowKit.intOf n).toNat)
  case atStart => exact ⟨1, Nat.le_refl _, by omega, rfl, Below.refl _ _, Lib.hid fun _ => hw1⟩
  case round =>
    obtain ⟨k, hk1, hk5, rfl, hb, HK⟩ := hrel
    have HB := Lib.hid hb
    clear hb
    have q1 : IntKind.i64.wrap ((i : Int) + (k : Int)) = (i : Int) + (k : Int) := by rw [IntKind.wrap_i64]; omega
    by_cases hc : k ≤ 4 ∧ i + k ≤ s.size
    · obtain ⟨hc1, hc2⟩ := hc
      obtain ⟨t, ht⟩ : ∃ t, s.extract i (i + k) = t := ⟨_, rfl⟩
      have hts : t.size = k := by rw [← ht, ByteArray.size_extract, Nat.min_eq_left hc2]; omega
      have htl : t.data.toList = l.take k := by rw [← ht, ext_list, HLE.out, show i + k - i = k by omega]
      have q2 : ((i : Int) + (k : Int)).toNat = i + k := by omega
      have q3 : (i : Int) + (k : Int) ≤ (s.size : Int) := by omega
      have q4 : (i : Int) ≤ (i : Int) + (k : Int) := by omega
      have q5 : IntKind.i64.wrap ((k : Int) + 1) = (k : Int) + 1 := by rw [IntKind.wrap_i64]; omega
      have hrs : (Conv.runesFrom t t.size 0 #[]).size ≤ t.size := by
        have := size_runesFrom t t.size 0 #[]
        simpa using this
      have hcv := run_runes_of_string (P := Tryz.prog) wr 9 173 21 t Tryz.underlying9 Tryz.underlying173 Tryz.underlying21 (by omega)
      have hsame : okCh l = true → (decodeL l).2 = k → decodeL t.data.toList = decodeL l := fun h1 h2 => by
        have := decode_pre l [] hlne (okCh_yes h1)
        rwa [h2, List.append_nil, ← htl] at this
      have HSAME := Lib.hid hsame
      have htne : t.data.toList ≠ [] := by
        intro e
        have := congrArg List.length e
        rw [Array.length_toList] at this
        have h5 : t.data.size = t.size := rfl
        rw [List.length_nil] at this
        omega
      have HTL := Lib.hid htl
      have HTS := Lib.hid hts
      have HTN := Lib.hid htne
      clear htl hts hsame htne
      by_cases hone : (decodeL t.data.toList).2 = t.size
      · have h1 := runes_one t (by rw [HTS.out]; omega) hone
        obtain ⟨c, hc⟩ : ∃ c, (decodeL t.data.toList).1 = c := ⟨_, rfl⟩
        rw [h1, hc] at hcv
        clear h1
        have HC := Lib.hid hc
        have HONE := Lib.hid hone
        clear hc hone hrs
        obtain ⟨cap, hcap⟩ : ∃ cap, grownCap wr (#[Value.int .i32 (c : Int)]).size 0 21 = cap := ⟨_, rfl⟩
        rw [hcap] at hcv
        clear hcap
        obtain ⟨cs, hcs⟩ : ∃ cs, (#[Value.int .i32 (c : Int)] ++ Array.replicate (cap - (#[Value.int .i32 (c : Int)]).size) (Value.int .i32 0)) = cs := ⟨_, rfl⟩
        rw [hcs] at hcv
        have hcell : (wr.alloc (.cells cs 21)).cell? ⟨wr.heap.size, 0, none⟩ = some (.int .i32 (c : Int)) := by
          rw [cell_of_row _ wr.heap.size 0 cs 21 (0, 0) (heap_alloc_new wr _), ← hcs]
          rw [Array.getElem?_append_left (by simp)]
          rfl
        have hcell2 : ∀ n, ((wr.alloc (.cells cs 21)).drewN n).cell? ⟨wr.heap.size, 0, none⟩ = some (.int .i32 (c : Int)) := fun n => hcell
        clear hcs
        have hst : ∀ n, (convert 173 9 (.slice (some ⟨wr.heap.size, 0, none⟩) 1 cap)).run Tryz.prog ((wr.alloc (.cells cs 21)).drewN n) = .ok (.string (runesBytes [(c : Int)])) ((wr.alloc (.cells cs 21)).drewN n) := fun n =>
          run_convert_runes _ 173 9 21 ⟨wr.heap.size, 0, none⟩ 1 cap [(c : Int)] (by simp) Tryz.underlying173 Tryz.underlying21 Tryz.underlying9 (fun j hj => by
            have : j = 0 := by simpa using hj
            subst this
            exact hcell)
        have hB1 : Below w.heap.size w (wr.alloc (.cells cs 21)) := HB.out.alloc HB.out.size _
        have HB1 := Lib.hid hB1
        clear hB1
        rw [← ht] at hcv
        have HTE := Lib.hid ht
        clear ht
        by_cases hv : okCh t.data.toList = true
        · have hen : encodeRune (c : Int) = t.data.toList := by
            rw [← HC.out, encode_decode _ HTN.out (okCh_yes hv), HONE.out]
            exact List.take_of_length_le (by rw [Array.length_toList]; exact Nat.le_refl _)
          have e1 : ((runesBytes [(c : Int)]).toList == (s.extract i (i + k)).toList) = true := by
            rw [HTE.out, Lib.toList_data, Lib.toList_data, one_rune, hen, beq_iff_eq]
          have hfin : decodeL l = (c, k) := by
            have := decode_pre t.data.toList (l.drop k) HTN.out (okCh_yes hv)
            rw [HONE.out, HTS.out, List.take_of_length_le (by rw [Array.length_toList]; have := HTS.out; have h5 : t.data.size = t.size := rfl; omega), HTL.out, List.take_append_drop] at this
            rw [this]
            exact Prod.ext (by rw [← HTL.out]; exact HC.out) (by rw [← HTL.out, HONE.out, HTS.out])
          have HFIN := Lib.hid hfin
          clear hfin hen hv
          go_wp2_with fail
          go_quiet (fail)
          go_wp2_with fail
          go_ret2
          exact ⟨by rw [HFIN.out]; rfl, below_drewN HB1.out _⟩
        · have hv' : okCh t.data.toList = false := by simpa using hv
          have hz : (decodeL t.data.toList).1 = 65533 ∧ (decodeL t.data.toList).2 = 1 := by
            unfold okCh at hv'
            simpa using hv'
          have e1 : ((runesBytes [(c : Int)]).toList == (s.extract i (i + k)).toList) = false := by
            rw [HTE.out, Lib.toList_data, Lib.toList_data, one_rune, beq_eq_false_iff_ne, ← HC.out, hz.1]
            intro h
            have := congrArg List.length h
            have h5 : t.data.toList.length = t.size := by rw [Array.length_toList]; rfl
            have h6 := HONE.out
            have h7 : (encodeRune ((65533 : Nat) : Int)).length = 3 := by decide +kernel
            rw [h7, h5, ← h6, hz.2] at this
            cases this
          have hnext : okCh l = true → k + 1 ≤ (decodeL l).2 := fun h => by
            have h2 := HK.out h
            rcases Nat.lt_or_ge k (decodeL l).2 with h3 | h3
            · exact h3
            · have h4 := HSAME.out h (by omega)
              have : okCh t.data.toList = okCh l := by unfold okCh; rw [h4]
              rw [this, h] at hv'
              cases hv'
          have HNX := Lib.hid hnext
          clear hnext hz hv hv'
          go_wp2_with fail
          go_quiet (fail)
          go_wp2_with fail
          go_roundw
          case rel => exact ⟨k + 1, by omega, by omega, by go_num, below_drewN HB1.out _, HNX⟩
          case measure => simp [RowKit.intOf]; omega
      · have h2 := runes_two t (by rw [HTS.out]; omega) hone
        obtain ⟨R, hR⟩ : ∃ R, Conv.runesFrom t t.size 0 #[] = R := ⟨_, rfl⟩
        rw [hR] at hcv h2 hrs
        clear hR
        have hnext : okCh l = true → k + 1 ≤ (decodeL l).2 := fun h => by
          have h2 := HK.out h
          rcases Nat.lt_or_ge k (decodeL l).2 with h3 | h3
          · exact h3
          · have h4 := HSAME.out h (by omega)
            rw [h4, HTS.out] at hone
            omega
        have HNX := Lib.hid hnext
        clear hnext hone
        rw [← ht] at hcv
        clear ht
        obtain ⟨cap, hcap⟩ : ∃ cap, grownCap wr R.size 0 21 = cap := ⟨_, rfl⟩
        rw [hcap] at hcv
        clear hcap
        obtain ⟨cs, hcs⟩ : ∃ cs, (R ++ Array.replicate (cap - R.size) (Value.int .i32 0)) = cs := ⟨_, rfl⟩
        rw [hcs] at hcv
        clear hcs
        have hB1 : Below w.heap.size w (wr.alloc (.cells cs 21)) := HB.out.alloc HB.out.size _
        have HB1 := Lib.hid hB1
        clear hB1
        have d1 : ((R.size : Int) == 1) = false := by rw [beq_eq_false_iff_ne]; omega
        go_wp2_with fail
        go_quiet (fail)
        go_wp2_with fail
        go_roundw
        case rel => exact ⟨k + 1, by omega, by omega, by go_num, below_drewN HB1.out _, HNX⟩
        case measure => simp [RowKit.intOf]; omega
    · have hno : okCh l = false := by
        cases h : okCh l with
        | false => rfl
        | true => have := HK.out h; omega
      have HNO := Lib.hid hno
      clear hno
      have hz : (decodeL l).1 = 65533 ∧ (decodeL l).2 = 1 := by
        have := HNO.out
        unfold okCh at this
        simpa using this
      have HZ := Lib.hid hz
      clear hz
      go_wp2_with fail
      all_goals go_ret2
      all_goals exact ⟨by rw [HZ.out.1, HZ.out.2]; rfl, HB.out⟩

end Go.Proofs.YtlljphipglgjiaaGreatDoor

namespace Go.Proofs.YtlljphipglgjiaaGreatDoor
open Go.RowKit Go.Lib
set_option linter.unusedSimpArgs false

/-- The two errors of package strconv lie where they lie, and do not turn. -/
def Errs (M : Nat → Prop) (w : World) : Prop := (∃ te pe, w.cell? ⟨7, 0, none⟩ = some (.iface te pe)) ∧ (∃ te pe, w.cell? ⟨8, 0, none⟩ = some (.iface te pe)) ∧ ¬ M 7 ∧ ¬ M 8
theorem cell_fr' {M : Nat → Prop} {w w' : World} (f : Fr M w w') {a : Addr} (ha : ¬ M a.block) : w'.cell? a = w.cell? a := by
  simp only [World.cell?, f.block _ ha]
theorem Errs.fr {M : Nat → Prop} {w w' : World} (h : Errs M w) (f : Fr M w w') : Errs M w' := by
  obtain ⟨⟨t, p, h1⟩, ⟨t2, p2, h2⟩, h3, h4⟩ := h
  exact ⟨⟨t, p, (cell_fr' f h3).trans h1⟩, ⟨t2, p2, (cell_fr' f h4).trans h2⟩, h3, h4⟩
theorem cell_below {w w' : World} (h : Below w.heap.size w w') {a : Addr} {v : Value} (hc : w.cell? a = some v) : w'.cell? a = some v := by
  have hlt := World.block_lt_of_cell? w _ hc
  rw [← hc]
  simp only [World.cell?, h.block _ hlt]

def numOf (B : Nat) (l : List UInt8) : Option Nat := if l = [] then none else num B 4294967295 0 l
def PubEnd : Option Nat → Ending → Prop
  | some n, e => e = .returned (.tuple #[.int .u64 (n : Int), .nilIface])
  | none, e => ∃ (x : Int) (N : Nat), e = .returned (.tuple #[.int .u64 x, .iface 321 (.pointer (some ⟨N, 0, none⟩))])

theorem pu_in (B : Nat) (hB : B = 10 ∨ B = 16) (t : ByteArray) (hmax : t.size ≤ 1000000) (w : World) :
    Calls Tryz.prog 202 #[.string t, .int .i64 (B : Int), .int .i64 32] w fun e w' => PuEnd (numOf B t.data.toList) e ∧ Below w.heap.size w w' := by
  by_cases h0 : t.size = 0
  · have hl : t.data.toList = [] := List.eq_nil_of_length_eq_zero (by rw [Array.length_toList]; exact h0)
    obtain rfl : t = ⟨#[]⟩ := ba_ext hl
    refine (Tryz.internal_strconv_ParseUint_empty _ _ w).mono ?_
    rintro e w' ⟨rfl, rfl⟩
    refine ⟨?_, Below.refl _ _⟩
    unfold numOf
    rw [if_pos hl]
    exact ⟨0, 2, .inr rfl, rfl⟩
  · have hne : t.data.toList ≠ [] := by
      intro h
      have := congrArg List.length h
      rw [Array.length_toList] at this
      exact h0 this
    unfold numOf
    rw [if_neg hne]
    rcases hB with rfl | rfl
    · refine (pu_10_32 t h0 hmax w).mono ?_
      rintro e w' ⟨h, rfl⟩
      exact ⟨h, Joins.below_bytesWorld _ _ _ _ (Nat.le_refl _)⟩
    · refine (pu_16_32 t h0 hmax w).mono ?_
      rintro e w' ⟨h, rfl⟩
      exact ⟨h, Joins.below_bytesWorld _ _ _ _ (Nat.le_refl _)⟩

set_option maxRecDepth 100000 in
set_option maxHeartbeats 1000000 in
theorem pu_pub (B : Nat) (hB : B = 10 ∨ B = 16) (t : ByteArray) (hmax : t.size ≤ 1000000) (M : Nat → Prop) (w : World) (hE : Errs M w) :
    Calls Tryz.prog 180 #[.string t, .int .i64 (B : Int), .int .i64 32] w fun e w' => PubEnd (numOf B t.data.toList) e ∧ Below w.heap.size w w' := by
  have HE := Lib.hid hE
  clear hE
  cases hn : numOf B t.data.toList with
  | some n =>
    have HP := Lib.hid (pu_in B hB t hmax w)
    rw [hn] at HP
    go_enter Tryz.func180, Tryz.ntmps180
    go_wp2_with fail
    refine HP.out.mono ?_
    rintro e w1 ⟨h1, hb⟩
    obtain rfl : e = _ := h1
    have HB := Lib.hid hb
    clear hb hn
    go_wp2_with fail
    go_ret2
    exact ⟨rfl, HB.out⟩
  | none =>
    have HP := Lib.hid (pu_in B hB t hmax w)
    rw [hn] at HP
    go_enter Tryz.func180, Tryz.ntmps180
    go_wp2_with fail
    refine HP.out.mono ?_
    rintro e w1 ⟨⟨x, k, hk, rfl⟩, hb⟩
    obtain ⟨⟨te, pe, h7⟩, ⟨te2, pe2, h8⟩, -⟩ := HE.out
    have H7 := Lib.hid (cell_below hb h7)
    have H8 := Lib.hid (cell_below hb h8)
    have HB := Lib.hid hb
    clear hb hn h7 h8
    rcases hk with rfl | rfl
    · go_wp2_with fail
      refine (Tryz.strconv_toError_range _ t _ _ _ _ (by omega) H8.out (.inr ⟨_, _, rfl⟩)).mono ?_
      rintro e w2 ⟨N, rfl, -, -, hb2⟩
      have HB2 := Lib.hid (hb2.mono HB.out.size)
      clear hb2
      go_wp2_with fail
      go_ret2
      exact ⟨⟨_, _, rfl⟩, HB.out.trans HB2.out⟩
    · go_wp2_with fail
      refine (Tryz.strconv_toError_syntax _ t _ _ _ _ (by omega) H7.out (.inr ⟨_, _, rfl⟩)).mono ?_
      rintro e w2 ⟨N, rfl, -, -, hb2⟩
      have HB2 := Lib.hid (hb2.mono HB.out.size)
      clear hb2
      go_wp2_with fail
      go_ret2
      exact ⟨⟨_, _, rfl⟩, HB.out.trans HB2.out⟩

end Go.Proofs.YtlljphipglgjiaaGreatDoor

namespace Go.Proofs.YtlljphipglgjiaaGreatDoor
open Go.Lib

/-- What the decoder does to a text that ends at q: b0, b1 are the two bytes ahead; v is what it keeps, r what is left. -/
inductive TxP (q : UInt8) : UInt8 → UInt8 → List UInt8 → List UInt8 → List UInt8 → Prop
  | stop (b0 b1 : UInt8) (t : List UInt8) : TxP q b0 b1 (q :: t) [] (q :: t)
  | byte (b0 b1 c : UInt8) (t v r : List UInt8) : c ≠ 60 → c ≠ q → c ≠ 38 → c ≠ 13 → ¬ (b0 = 93 ∧ b1 = 93 ∧ c = 62) → TxP q b1 c t v r → TxP q b0 b1 (c :: t) (c :: v) r
  | ref (b0 b1 : UInt8) (t o t2 v r : List UInt8) : 38 ≠ q → refL t = some (o, t2) → TxP q 0 0 t2 v r → TxP q b0 b1 (38 :: t) (o ++ v) r

/-- A text of characters that may stand in XML. -/
inductive GoodT : List UInt8 → Prop
  | nil : GoodT []
  | cons (l : List UInt8) : l ≠ [] → isXChar (decodeL l).1 = true → ¬ ((decodeL l).1 = 65533 ∧ (decodeL l).2 = 1) → GoodT (l.drop (decodeL l).2) → GoodT l

theorem high_bytes (l : List UInt8) (h2 : (decodeL l).2 ≠ 1) : ∀ b ∈ l.take (decodeL l).2, 128 ≤ b.toNat := by
  rw [decodeL_N l] at h2 ⊢
  rcases decodeN_shape l.length (l.getD 0 0).toNat (l.getD 1 0).toNat (l.getD 2 0).toNat (l.getD 3 0).toNat with ⟨c, e⟩ | ⟨c1, c2, c3, cv, e⟩ | ⟨c1, c2, c3, c4, cv, cs, e⟩ | ⟨c1, c2, c3, c4, c5, cv, cw, e⟩ | e
  · rw [e] at h2; exact absurd rfl h2
  · rw [e]
    dsimp only
    rw [takeB l c2]
    intro b hb
    simp only [List.mem_cons, List.not_mem_nil, or_false] at hb
    rcases hb with rfl | rfl <;> omega
  · rw [e]
    dsimp only
    rw [takeC l c2]
    intro b hb
    simp only [List.mem_cons, List.not_mem_nil, or_false] at hb
    rcases hb with rfl | rfl | rfl <;> omega
  · rw [e]
    dsimp only
    rw [takeD l c2]
    intro b hb
    simp only [List.mem_cons, List.not_mem_nil, or_false] at hb
    rcases hb with rfl | rfl | rfl | rfl <;> omega
  · rw [e] at h2; exact absurd rfl h2

theorem byteN (x : Nat) (h : x < 256) : (x.toUInt8).toNat = x := by
  simp [Nat.toUInt8, Nat.mod_eq_of_lt h]

/-- A character that is written is read. -/
theorem decode_encode (n : Nat) (h : n ≤ 55295 ∨ (57344 ≤ n ∧ n ≤ 1114111)) (R : List UInt8) : decodeL (encodeRune (n : Int) ++ R) = (n, (encodeRune (n : Int)).length) := by
  by_cases h1 : n ≤ 127
  · have e : encodeRune (n : Int) = [n.toUInt8] := by
      unfold encodeRune
      rw [encodeRuneZ_one (by omega) (by omega)]
      simp
    rw [e]
    simp only [List.cons_append, List.nil_append, List.length_cons, List.length_nil]
    rw [decode_ascii _ _ (by rw [byteN n (by omega)]; omega), byteN n (by omega)]
  by_cases h2 : n ≤ 2047
  · have e : encodeRune (n : Int) = [(192 + n / 64).toUInt8, (128 + n % 64).toUInt8] := by
      unfold encodeRune
      rw [encodeRuneZ_two (by omega) (by omega)]
      simp only [List.map_cons, List.map_nil]
      rw [show (192 + (n : Int) / 64).toNat = 192 + n / 64 by omega, show (128 + (n : Int) % 64).toNat = 128 + n % 64 by omega]
    rw [e, decodeL_N]
    simp only [List.cons_append, List.nil_append, List.getD_cons_zero, List.getD_cons_succ, List.length_cons, List.length_nil]
    rw [byteN _ (by omega), byteN _ (by omega)]
    unfold decodeN
    rw [if_neg (by omega), if_pos ⟨by omega, by omega, by omega⟩, if_pos (by omega)]
    rw [Prod.mk.injEq]
    exact ⟨by omega, rfl⟩
  by_cases h3 : n ≤ 65535
  · have e : encodeRune (n : Int) = [(224 + n / 4096).toUInt8, (128 + n / 64 % 64).toUInt8, (128 + n % 64).toUInt8] := by
      unfold encodeRune
      rw [encodeRuneZ_three (by omega)]
      simp only [List.map_cons, List.map_nil]
      rw [show (224 + (n : Int) / 4096).toNat = 224 + n / 4096 by omega, show (128 + (n : Int) / 64 % 64).toNat = 128 + n / 64 % 64 by omega, show (128 + (n : Int) % 64).toNat = 128 + n % 64 by omega]
    rw [e, decodeL_N]
    simp only [List.cons_append, List.nil_append, List.getD_cons_zero, List.getD_cons_succ, List.length_cons, List.length_nil]
    rw [byteN _ (by omega), byteN _ (by omega), byteN _ (by omega)]
    unfold decodeN
    rw [if_neg (by omega), if_neg (by omega), if_pos ⟨by omega, ⟨by omega, by omega⟩, by omega, by omega⟩, if_pos (by omega)]
    rw [Prod.mk.injEq]
    exact ⟨by omega, rfl⟩
  · have e : encodeRune (n : Int) = [(240 + n / 262144).toUInt8, (128 + n / 4096 % 64).toUInt8, (128 + n / 64 % 64).toUInt8, (128 + n % 64).toUInt8] := by
      unfold encodeRune
      rw [encodeRuneZ_four (by omega) (by omega)]
      simp only [List.map_cons, List.map_nil]
      rw [show (240 + (n : Int) / 262144).toNat = 240 + n / 262144 by omega, show (128 + (n : Int) / 4096 % 64).toNat = 128 + n / 4096 % 64 by omega, show (128 + (n : Int) / 64 % 64).toNat = 128 + n / 64 % 64 by omega, show (128 + (n : Int) % 64).toNat = 128 + n % 64 by omega]
    rw [e, decodeL_N]
    simp only [List.cons_append, List.nil_append, List.getD_cons_zero, List.getD_cons_succ, List.length_cons, List.length_nil]
    rw [byteN _ (by omega), byteN _ (by omega), byteN _ (by omega), byteN _ (by omega)]
    unfold decodeN
    rw [if_neg (by omega), if_neg (by omega), if_neg (by omega), if_pos ⟨by omega, ⟨by omega, by omega⟩, ⟨by omega, by omega⟩, by omega, by omega⟩, if_pos (by omega)]
    rw [Prod.mk.injEq]
    exact ⟨by omega, rfl⟩

theorem isXChar_inv {c : Nat} (h : isXChar c = true) : c = 9 ∨ c = 10 ∨ c = 13 ∨ (32 ≤ c ∧ c ≤ 55295) ∨ (57344 ≤ c ∧ c ≤ 65533) ∨ (65536 ≤ c ∧ c ≤ 1114111) := by
  unfold isXChar at h
  simp only [Bool.or_eq_true, Bool.and_eq_true, beq_iff_eq, decide_eq_true_eq] at h
  omega

/-- What a reference stands for is one character. -/
theorem chOf_one {ds : List UInt8} {x : Option Nat} {o : List UInt8} (h : chOf ds x = some o) : ∃ n, isXChar n = true ∧ o = encodeRune (n : Int) := by
  unfold chOf at h
  split at h
  · cases h
  · split at h
    · cases h
    · split at h
      · rename_i n hx
        exact ⟨n, hx, (Option.some.inj h).symm⟩
      · cases h
theorem ent_one {l o : List UInt8} (h : entL l = some o) : ∃ n, isXChar n = true ∧ o = encodeRune (n : Int) := by
  unfold entL at h
  repeat' (split at h)
  all_goals first
    | (cases Option.some.inj h; first | exact ⟨38, by decide, by decide⟩ | exact ⟨60, by decide, by decide⟩ | exact ⟨62, by decide, by decide⟩ | exact ⟨34, by decide, by decide⟩ | exact ⟨39, by decide, by decide⟩)
    | (unfold numRef at h
       split at h
       · split at h
         · exact chOf_one h
         · exact chOf_one h
       · cases h)
theorem ref_one {t o t2 : List UInt8} (h : refL t = some (o, t2)) : ∃ n, isXChar n = true ∧ o = encodeRune (n : Int) := by
  unfold refL at h
  split at h
  · cases h
  · rename_i p hp
    cases he : entL p.1 with
    | none => rw [he] at h; cases h
    | some x =>
      rw [he] at h
      simp only [Option.map_some, Option.some.injEq, Prod.mk.injEq] at h
      rw [← h.1]
      exact ent_one he
theorem GoodT.char {n : Nat} (hn : isXChar n = true) {v : List UInt8} (h : GoodT v) : GoodT (encodeRune (n : Int) ++ v) := by
  have hb := isXChar_inv hn
  have hd := decode_encode n (by omega) v
  have hl : 1 ≤ (encodeRune (n : Int)).length := by
    have := decodeL_width (encodeRune (n : Int) ++ v)
    rw [hd] at this
    exact this
  have h1 : (encodeRune (n : Int)).length = 1 → n ≤ 127 := by
    intro h1
    by_cases h2 : n ≤ 127
    · exact h2
    · exfalso
      unfold encodeRune at h1
      rw [List.length_map] at h1
      by_cases h3 : n ≤ 2047
      · rw [encodeRuneZ_two (by omega) (by omega)] at h1; simp at h1
      · by_cases h4 : n ≤ 65535
        · rw [encodeRuneZ_three (by omega)] at h1; simp at h1
        · rw [encodeRuneZ_four (by omega) (by omega)] at h1; simp at h1
  refine .cons _ ?_ ?_ ?_ ?_
  · intro e
    have := congrArg List.length e
    rw [List.length_append] at this
    simp at this
    rw [this.1] at hl
    simp at hl
  · rw [hd]; exact hn
  · rw [hd]
    rintro ⟨e1, e2⟩
    have := h1 e2
    dsimp only at e1
    omega
  · rw [hd, List.drop_append_of_le_length (Nat.le_refl _), List.drop_length, List.nil_append]
    exact h

/-- The bytes of a text character that the decoder writes one by one. -/
theorem TxP.bytes {q : UInt8} (hq : q.toNat < 128) : ∀ (x : List UInt8) (b0 b1 : UInt8) (t v r : List UInt8), (∀ b ∈ x, 128 ≤ b.toNat) → (∀ c0 c1, (x = [] → c0 = b0 ∧ c1 = b1) → (x ≠ [] → 128 ≤ c1.toNat) → TxP q c0 c1 t v r) → TxP q b0 b1 (x ++ t) (x ++ v) r
  | [], b0, b1, t, v, r, _, h => h b0 b1 (fun _ => ⟨rfl, rfl⟩) (fun h => absurd rfl h)
  | c :: x, b0, b1, t, v, r, hx, h => by
    have hc := hx c (by simp)
    have ne : ∀ k : UInt8, k.toNat < 128 → c ≠ k := fun k hk e => by rw [e] at hc; omega
    refine .byte b0 b1 c _ _ _ (ne 60 (by decide)) (ne q hq) (ne 38 (by decide)) (ne 13 (by decide)) (fun h => ne 62 (by decide) h.2.2) ?_
    refine TxP.bytes hq x b1 c t v r (fun b hb => hx b (by simp [hb])) fun c0 c1 h0 h1 => ?_
    refine h c0 c1 (fun e => by cases e) fun _ => ?_
    by_cases hx0 : x = []
    · rw [(h0 hx0).2]; exact hc
    · exact h1 hx0

theorem txt_walk (q : UInt8) (hq : q.toNat < 128) (hq38 : 38 ≠ q) (hq60 : q = 60 ∨ q ≠ 60) : ∀ (f : Nat) (l v r : List UInt8) (b0 b1 : UInt8), txtF q q f l = some (v, r) → r ≠ [] →
    ¬ (b0 = 93 ∧ b1 = 93 ∧ l.head? = some 62) → ¬ (b1 = 93 ∧ l.take 2 = [93, 62]) → TxP q b0 b1 l v r ∧ GoodT v ∧ r.head? = some q
  | 0, _, _, _, _, _, h, _, _, _ => by simp [txtF] at h
  | f + 1, [], v, r, _, _, h, hr, _, _ => by
    simp only [txtF, Option.some.injEq, Prod.mk.injEq] at h
    exact absurd h.2.symm hr
  | f + 1, c :: t, v, r, b0, b1, h, hr, h1, h2 => by
    simp only [txtF] at h
    split at h
    · rename_i hc
      have hc : c = q := by rcases hc with h | h <;> exact h
      subst hc
      simp only [Option.some.injEq, Prod.mk.injEq] at h
      obtain ⟨rfl, rfl⟩ := h
      exact ⟨.stop _ _ _, .nil, rfl⟩
    · rename_i hcq
      have hcq : c ≠ q := fun e => hcq (.inl e)
      split at h
      · rename_i hc
        subst hc
        split at h
        · cases h
        · rename_i p hp
          cases hx : txtF q q f p.2 with
          | none => rw [hx] at h; cases h
          | some y =>
            rw [hx] at h
            simp only [Option.map_some, Option.some.injEq, Prod.mk.injEq] at h
            obtain ⟨rfl, rfl⟩ := h
            have ih := txt_walk q hq hq38 hq60 f p.2 y.1 y.2 0 0 hx hr (fun e => absurd e.1 (by decide)) (fun e => absurd e.1 (by decide))
            obtain ⟨n, hn, ho⟩ := ref_one (o := p.1) (t2 := p.2) hp
            refine ⟨.ref _ _ _ _ _ _ _ hq38 hp ih.1, ?_, ih.2.2⟩
            rw [ho]
            exact ih.2.1.char hn
      · rename_i hc38
        split at h
        · cases h
        · rename_i hbad
          cases hx : txtF q q f ((c :: t).drop (decodeL (c :: t)).2) with
          | none => rw [hx] at h; cases h
          | some y =>
            rw [hx] at h
            simp only [Option.map_some, Option.some.injEq, Prod.mk.injEq] at h
            obtain ⟨rfl, rfl⟩ := h
            simp only [badCh, Bool.or_eq_true, Bool.and_eq_true, Bool.not_eq_true', beq_iff_eq, not_or, not_and, Bool.not_eq_false] at hbad
            obtain ⟨⟨⟨⟨k1, k2⟩, k3⟩, k4⟩, k5⟩ := hbad
            have hbd : ¬ ((decodeL (c :: t)).1 = 65533 ∧ (decodeL (c :: t)).2 = 1) := fun e => k4 e.1 e.2
            have hgood : GoodT y.1 → GoodT ((c :: t).take (decodeL (c :: t)).2 ++ y.1) := by
              intro hg
              rw [← encode_decode (c :: t) (by simp) hbd]
              exact hg.char k1
            by_cases hw : (decodeL (c :: t)).2 = 1
            · rw [hw] at hx ⊢ hgood
              simp only [List.drop_succ_cons, List.drop_zero, List.take_succ_cons, List.take_zero] at hx ⊢ hgood
              have hlo : c.toNat < 128 := by
                rcases Nat.lt_or_ge c.toNat 128 with h | h
                · exact h
                · exfalso
                  rw [decodeL_N] at hw hbd
                  rcases decodeN_shape (c :: t).length ((c :: t).getD 0 0).toNat ((c :: t).getD 1 0).toNat ((c :: t).getD 2 0).toNat ((c :: t).getD 3 0).toNat with ⟨c', e⟩ | ⟨_, _, _, _, e⟩ | ⟨_, _, _, _, _, _, e⟩ | ⟨_, _, _, _, _, _, _, e⟩ | e
                  · simp only [List.getD_cons_zero] at c'; omega
                  · rw [e] at hw; simp at hw
                  · rw [e] at hw; simp at hw
                  · rw [e] at hw; simp at hw
                  · rw [e] at hbd; exact hbd ⟨rfl, rfl⟩
              have hdc := decode_ascii c t hlo
              rw [hdc] at k2 k3
              dsimp only at k2 k3
              have h13 : c ≠ 13 := by rintro rfl; exact k2 rfl
              have h60 : c ≠ 60 := by rintro rfl; exact k3 rfl
              have n1 : ¬ (b1 = 93 ∧ c = 93 ∧ t.head? = some 62) := by
                rintro ⟨e1, e2, e3⟩
                apply h2
                refine ⟨e1, ?_⟩
                cases t with
                | nil => simp at e3
                | cons x y => simp at e3; simp [e2, e3]
              have n2 : ¬ (c = 93 ∧ t.take 2 = [93, 62]) := by
                rintro ⟨e1, e2⟩
                apply k5
                simp [e1, e2]
              have ih := txt_walk q hq hq38 hq60 f t y.1 y.2 b1 c hx hr n1 n2
              exact ⟨.byte _ _ _ _ _ _ h60 hcq hc38 h13 (fun e => h1 ⟨e.1, e.2.1, by simp [e.2.2]⟩) ih.1, hgood ih.2.1, ih.2.2⟩
            · have hhi := high_bytes (c :: t) hw
              have hne : (c :: t).take (decodeL (c :: t)).2 ≠ [] := by
                have := decodeL_width (c :: t)
                intro e
                have := congrArg List.length e
                simp at this
                omega
              have ih : ∀ c0 c1 : UInt8, 128 ≤ c1.toNat → _ := fun c0 c1 hc1 => txt_walk q hq hq38 hq60 f ((c :: t).drop (decodeL (c :: t)).2) y.1 y.2 c0 c1 hx hr (fun e => by rw [e.2.1] at hc1; exact absurd hc1 (by decide)) (fun e => by rw [e.1] at hc1; exact absurd hc1 (by decide))
              have i0 := ih 0 255 (by decide)
              refine ⟨?_, hgood i0.2.1, i0.2.2⟩
              have := TxP.bytes hq ((c :: t).take (decodeL (c :: t)).2) b0 b1 ((c :: t).drop (decodeL (c :: t)).2) y.1 y.2 hhi (fun c0 c1 _ hc => (ih c0 c1 (hc hne)).1)
              rwa [List.take_append_drop] at this

/-- A text that spec.XRead takes is one that the decoder takes. -/
theorem txt_ok {q : UInt8} (hq : q = 60 ∨ q = 34 ∨ q = 39) {f : Nat} {l v r : List UInt8} (h : txtF q q f l = some (v, r)) (hr : r ≠ []) : TxP q 0 0 l v r ∧ GoodT v ∧ r.head? = some q :=
  txt_walk q (by rcases hq with rfl | rfl | rfl <;> decide) (by rcases hq with rfl | rfl | rfl <;> decide) (by rcases hq with rfl | rfl | rfl <;> decide) f l v r 0 0 h hr (fun e => absurd e.1 (by decide)) (fun e => absurd e.1 (by decide))

end Go.Proofs.YtlljphipglgjiaaGreatDoor
