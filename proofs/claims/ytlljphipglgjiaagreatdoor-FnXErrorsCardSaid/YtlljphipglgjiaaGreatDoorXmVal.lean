/-
  The encoder: Value.Close, Value.String.
  The encoder: Value.Close, Value.String.
  The encoder: writeStartElement.
-/
import Derived.Test.YtlljphipglgjiaaGreatDoorXmAt
import Derived.Test.YtlljphipglgjiaaGreatDoorXmCom
namespace Go.Proofs.YtlljphipglgjiaaGreatDoor
open Go.RowKit Go.Lib
set_option linter.unusedSimpArgs false

set_option maxRecDepth 100000 in
set_option maxHeartbeats 4000000 in
theorem close_any (M : Nat → Prop) (b : Nat) (bs : List UInt8) (scr at' fl : Value) (sp loc : ByteArray) (w : World) (h : EncB M w b bs) (hloc : 0 < loc.size) (hlim : bs.length + 20 * sp.size + 20 * loc.size + 100 ≤ 50000000) :
    Calls Tryz.prog 89 #[.agg #[wr b, scr, .string sp, .string loc, at', fl]] w fun e w' => e = .returned (.tuple #[]) ∧ EncB M w' b (bs ++ endTag sp loc) ∧ Fr M w w' := by
  obtain ⟨W, hW⟩ : ∃ W, w.alloc (.cells #[wr b, scr, .string sp, .string loc, at', fl] 95) = W := ⟨_, rfl⟩
  have hb : EncB M W b bs := by rw [← hW]; exact h.fr ((Fr.refl _ _).alloc (fun k hk => hk) _)
  have hf : Fr M w W := by rw [← hW]; exact (Fr.refl _ _).alloc h.2.1 _
  have hblk : Blk W w.heap.size 95 #[wr b, scr, .string sp, .string loc, at', fl] := by rw [← hW]; exact Blk.new _ _ _
  have HB := Lib.hid hb
  have HF := Lib.hid hf
  have HK := Lib.hid hblk
  have c0 := hblk.cell 0
  have c2 := hblk.cell 2
  have c3 := hblk.cell 3
  have c4 := hblk.cell 4
  clear hb hf hblk h
  unfold wr at c0 c2 c3 c4 hW ⊢
  go_enter Tryz.func89, Tryz.ntmps89
  go_wp2_with fail
  go_region_with (first
    | (go_at_call 130
       refine (end_any sp loc at' _).mono ?_
       rintro e w2 ⟨rfl, hbel⟩
       have hk2 : Blk w2 w.heap.size 95 #[wr b, scr, .string sp, .string loc, at', fl] := (hbel.block _ HK.out.lt).trans HK.out
       have k0 := hk2.cell 0
       unfold wr at k0
       have hb2 := (EncB.new (M := M) (b := b) (bs := bs) (w := W.drew) HB.out hbel).1
       have hf2 := HF.out.drew.trans (EncB.new (M := M) (b := b) (bs := bs) (w := W.drew) HB.out hbel).2
       have HB2 := Lib.hid hb2
       have HF2 := Lib.hid hf2
       clear hk2 hb2 hf2 hbel)
    | (go_at_call 129
       refine (writeEnd_any M b bs sp loc _ HB2.out hloc hlim).mono ?_
       rintro e w3 ⟨rfl, h3, hf3⟩
       have H3 := Lib.hid h3
       have HF3 := Lib.hid (HF2.out.trans hf3)
       clear h3 hf3))
  all_goals
    go_wp2_with fail
    go_end0
    exact ⟨rfl, H3.out, HF3.out⟩

end Go.Proofs.YtlljphipglgjiaaGreatDoor

namespace Go.Proofs.YtlljphipglgjiaaGreatDoor
open Go.RowKit Go.Lib
set_option linter.unusedSimpArgs false

set_option maxRecDepth 100000 in
set_option maxHeartbeats 4000000 in
theorem string_any (M : Nat → Prop) (b : Nat) (bs : List UInt8) (scr at' fl : Value) (sp loc s : ByteArray) (w : World) (h : EncB M w b bs) (hloc : 0 < loc.size) (hlim : bs.length + 20 * sp.size + 20 * loc.size + 20 * s.size + 100 ≤ 50000000) :
    Calls Tryz.prog 78 #[.agg #[wr b, scr, .string sp, .string loc, at', fl], .string s] w fun e w' => e = .returned (.tuple #[]) ∧ EncB M w' b (bs ++ esc s.data.toList ++ endTag sp loc) ∧ Fr M w w' := by
  obtain ⟨W, hW⟩ : ∃ W, w.alloc (.cells #[wr b, scr, .string sp, .string loc, at', fl] 95) = W := ⟨_, rfl⟩
  have hb : EncB (fun k => M k ∧ k ≠ w.heap.size) W b bs := by rw [← hW]; exact h.but _
  have hf : Fr M w W := by rw [← hW]; exact (Fr.refl _ _).alloc h.2.1 _
  have hblk : Blk W w.heap.size 95 #[wr b, scr, .string sp, .string loc, at', fl] := by rw [← hW]; exact Blk.new _ _ _
  have HT := Lib.hid (h.2.2.1.fr hf)
  have HB := Lib.hid hb
  have HF := Lib.hid hf
  have HK := Lib.hid hblk
  have c0 := hblk.cell 0
  have e1 := esc_le s
  clear hb hf hblk h
  unfold wr at c0 hW ⊢
  go_enter Tryz.func78, Tryz.ntmps78
  go_wp2_with fail
  refine (escapeString_any _ b bs s W HB.out (by omega)).mono ?_
  rintro e w2 ⟨rfl, h2, hf2⟩
  have hk2 := HK.out.fr hf2 (fun h => h.2 rfl)
  have k0 := hk2.cell 0
  have k1 := hk2.cell 1
  have k2 := hk2.cell 2
  have k3 := hk2.cell 3
  have k4 := hk2.cell 4
  have k5 := hk2.cell 5
  unfold wr at k0
  have hf2' : Fr M W w2 := hf2.mono fun k hk => hk.1
  have H2 := Lib.hid (h2.wide (M := M) (fun k hk => hk.1) (HT.out.fr hf2'))
  have HF2 := Lib.hid (HF.out.trans hf2')
  clear h2 hf2 hf2' hk2 c0
  go_wp2_with fail
  refine (close_any M b _ scr at' fl sp loc w2 H2.out hloc (by simp; omega)).mono ?_
  rintro e w3 ⟨rfl, h3, hf3⟩
  have H3 := Lib.hid h3
  have HF3 := Lib.hid (HF2.out.trans hf3)
  clear h3 hf3
  go_wp2_with fail
  go_end0
  exact ⟨rfl, H3.out, HF3.out⟩

end Go.Proofs.YtlljphipglgjiaaGreatDoor

namespace Go.Proofs.YtlljphipglgjiaaGreatDoor
open Go.RowKit Go.Lib
set_option linter.unusedSimpArgs false

def AttrS.tag (a : AttrS) : List UInt8 := 32 :: attrTag a.sp a.loc a.val
def attrsSize (l : List AttrS) : Nat := (l.map fun a => 20 * a.sp.size + 20 * a.loc.size + 20 * a.val.size + 101).sum
/-- The slice v holds these attributes (type xml.Attr). -/
abbrev AttrsH (w : World) (v : Value) (l : List AttrS) : Prop := AttrsT 171 w v l
def startTag (sp loc : ByteArray) (l : List AttrS) : List UInt8 := [60] ++ escName sp loc ++ l.flatMap AttrS.tag ++ [62]

theorem escName_le (sp loc : ByteArray) : (escName sp loc).length ≤ 9 * sp.size + 9 * loc.size + 1 := by
  have e1 := esc_le sp
  have e2 := esc_le loc
  unfold escName
  split <;> simp <;> omega
theorem tag_le (a : AttrS) : a.tag.length ≤ 20 * a.sp.size + 20 * a.loc.size + 20 * a.val.size + 101 := by
  have e1 := escName_le a.sp a.loc
  have e2 := esc_le a.val
  simp only [AttrS.tag, attrTag, List.length_cons, List.length_append, List.length_nil]
  omega
theorem tags_le (l : List AttrS) : (l.flatMap AttrS.tag).length ≤ attrsSize l := by
  induction l with
  | nil => simp
  | cons a t ih =>
    have := tag_le a
    rw [List.flatMap_cons, List.length_append]
    simp only [attrsSize, List.map_cons, List.sum_cons] at ih ⊢
    omega
theorem attrs_split (l : List AttrS) (k : Nat) (hk : k < l.length) : attrsSize (l.take k) + (20 * l[k].sp.size + 20 * l[k].loc.size + 20 * l[k].val.size + 101) ≤ attrsSize l := by
  induction l generalizing k with
  | nil => simp at hk
  | cons a t ih =>
    cases k with
    | zero =>
      simp only [attrsSize, List.take_zero, List.map_nil, List.sum_nil, List.map_cons, List.sum_cons, List.getElem_cons_zero]
      omega
    | succ k =>
      have := ih k (by simpa using hk)
      simp only [attrsSize, List.take_succ_cons, List.map_cons, List.sum_cons, List.getElem_cons_succ] at this ⊢
      omega

end Go.Proofs.YtlljphipglgjiaaGreatDoor
