/-
  The encoder: writeStartElement.
-/
import Derived.Test.YtlljphipglgjiaaGreatDoorXmEl
import Derived.Test.YtlljphipglgjiaaGreatDoorXmTree
namespace Go.Proofs.YtlljphipglgjiaaGreatDoor
open Go.RowKit Go.Lib
set_option linter.unusedSimpArgs false

def AttrS.tag (a : AttrS) : List UInt8 := 32 :: attrTag a.sp a.loc a.val
def attrsSize (l : List AttrS) : Nat := (l.map fun a => 20 * a.sp.size + 20 * a.loc.size + 20 * a.val.size + 101).sum
/-- The slice v holds these attributes (type xml.Attr). -/
abbrev AttrsH (w : World) (v : Value) (l : List AttrS) : Prop := AttrsT 171 w v l
def startTag (sp loc : ByteArray) (l : List AttrS) : List UInt8 := [60] ++ escName sp loc ++ l.flatMap AttrS.tag ++ [62]

theorem escName_le (sp loc : ByteArray) : (escName sp loc).length ≤ 9 * sp.size + 9 * loc.size + 1 := by
  have e1 := esc_le sp
  have e2 := esc_le loc
  unfold escName
  split <;> simp <;> omega
theorem tag_le (a : AttrS) : a.tag.length ≤ 20 * a.sp.size + 20 * a.loc.size + 20 * a.val.size + 101 := by
  have e1 := escName_le a.sp a.loc
  have e2 := esc_le a.val
  simp only [AttrS.tag, attrTag, List.length_cons, List.length_append, List.length_nil]
  omega
theorem tags_le (l : List AttrS) : (l.flatMap AttrS.tag).length ≤ attrsSize l := by
  induction l with
  | nil => simp
  | cons a t ih =>
    have := tag_le a
    rw [List.flatMap_cons, List.length_append]
    simp only [attrsSize, List.map_cons, List.sum_cons] at ih ⊢
    omega
theorem attrs_split (l : List AttrS) (k : Nat) (hk : k < l.length) : attrsSize (l.take k) + (20 * l[k].sp.size + 20 * l[k].loc.size + 20 * l[k].val.size + 101) ≤ attrsSize l := by
  induction l generalizing k with
  | nil => simp at hk
  | cons a t ih =>
    cases k with
    | zero =>
      simp only [attrsSize, List.take_zero, List.map_nil, List.sum_nil, List.map_cons, List.sum_cons, List.getElem_cons_zero]
      omega
    | succ k =>
      have := ih k (by simpa using hk)
      simp only [attrsSize, List.take_succ_cons, List.map_cons, List.sum_cons, List.getElem_cons_succ] at this ⊢
      omega

end Go.Proofs.YtlljphipglgjiaaGreatDoor
