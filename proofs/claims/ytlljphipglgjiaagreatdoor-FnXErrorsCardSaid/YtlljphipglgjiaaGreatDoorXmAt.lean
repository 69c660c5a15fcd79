/-
  The encoder: writeAttribute, StartElement.End, Value.Close (printed by gen_at.py).
-/
import Derived.Test.YtlljphipglgjiaaGreatDoorXmEl
namespace Go.Proofs.YtlljphipglgjiaaGreatDoor
open Go.RowKit Go.Lib
set_option linter.unusedSimpArgs false

/-- An attribute as it is written. -/
def attrTag (sp loc val : ByteArray) : List UInt8 := escName sp loc ++ [61, 34] ++ esc val.data.toList ++ [34]

set_option maxRecDepth 100000 in
set_option maxHeartbeats 4000000 in
theorem writeAttr_any (M : Nat → Prop) (b g : Nat) (bs : List UInt8) (sp loc val : ByteArray) (w : World) (h : EncB M w b bs) (hg : Blk w g 171 #[.string sp, .string loc, .string val]) (hgM : ¬ M g) (hloc : 0 < loc.size)
    (hlim : bs.length + 20 * sp.size + 20 * loc.size + 20 * val.size + 100 ≤ 50000000) :
    Calls Tryz.prog 179 #[wr b, .pointer (some ⟨g, 0, none⟩)] w fun e w' => e = .returned (.tuple #[]) ∧ EncB M w' b (bs ++ attrTag sp loc val) ∧ Fr M w w' := by
  have m1 := method_WriteRune
  have m2 := nilAhead_WriteRune
  have H1 := Lib.hid h
  have BL1 := Lib.hid hg
  have F1 := Lib.hid (Fr.refl M w)
  have e1 := esc_le sp
  have e2 := esc_le loc
  have e3 := esc_le val
  have c0 := hg.cell 0
  have c1 := hg.cell 1
  have c2 := hg.cell 2
  have d2 : ((loc.size : Int) == 0) = false := by rw [beq_eq_false_iff_ne]; omega
  have d3 : ((loc.size : Int) != 0) = true := by rw [bne_iff_ne]; omega
  clear h hg
  unfold wr
  by_cases hsp : sp.size = 0
  · have d1 : ((sp.size : Int) != 0) = false := by simp [hsp]
    go_enter Tryz.func179, Tryz.ntmps179
    go_wp2_with fail
    refine (escapeString_any _ b _ loc _ H1.out (by (try simp); omega)).mono ?_
    rintro e w2 ⟨rfl, h, hf⟩
    replace h : EncB M w2 b (bs ++ esc loc.data.toList) := by simpa using h
    have H2 := Lib.hid h
    have F2 := Lib.hid (F1.out.trans hf)
    have hbl := BL1.out.fr hf hgM
    have BL2 := Lib.hid hbl
    have c0 := hbl.cell 0
    have c1 := hbl.cell 1
    have c2 := hbl.cell 2
    clear h hf hbl H1 F1 BL1
    go_wp2_with fail
    refine (enc_WriteRune _ b _ 61 _ H2.out (by decide) (by (try simp); omega)).mono ?_
    rintro e w3 ⟨rfl, h, hf⟩
    replace h : EncB M w3 b (bs ++ esc loc.data.toList ++ [61]) := by simpa using h
    have H3 := Lib.hid h
    have F3 := Lib.hid (F2.out.trans hf)
    have hbl := BL2.out.fr hf hgM
    have BL3 := Lib.hid hbl
    have c0 := hbl.cell 0
    have c1 := hbl.cell 1
    have c2 := hbl.cell 2
    clear h hf hbl H2 F2 BL2
    go_wp2_with fail
    refine (enc_WriteRune _ b _ 34 _ H3.out (by decide) (by (try simp); omega)).mono ?_
    rintro e w4 ⟨rfl, h, hf⟩
    replace h : EncB M w4 b (bs ++ esc loc.data.toList ++ [61] ++ [34]) := by simpa using h
    have H4 := Lib.hid h
    have F4 := Lib.hid (F3.out.trans hf)
    have hbl := BL3.out.fr hf hgM
    have BL4 := Lib.hid hbl
    have c0 := hbl.cell 0
    have c1 := hbl.cell 1
    have c2 := hbl.cell 2
    clear h hf hbl H3 F3 BL3
    go_wp2_with fail
    refine (escapeString_any _ b _ val _ H4.out (by (try simp); omega)).mono ?_
    rintro e w5 ⟨rfl, h, hf⟩
    replace h : EncB M w5 b (bs ++ esc loc.data.toList ++ [61] ++ [34] ++ esc val.data.toList) := by simpa using h
    have H5 := Lib.hid h
    have F5 := Lib.hid (F4.out.trans hf)
    have hbl := BL4.out.fr hf hgM
    have BL5 := Lib.hid hbl
    have c0 := hbl.cell 0
    have c1 := hbl.cell 1
    have c2 := hbl.cell 2
    clear h hf hbl H4 F4 BL4
    go_wp2_with fail
    refine (enc_WriteRune _ b _ 34 _ H5.out (by decide) (by (try simp); omega)).mono ?_
    rintro e w6 ⟨rfl, h, hf⟩
    replace h : EncB M w6 b (bs ++ esc loc.data.toList ++ [61] ++ [34] ++ esc val.data.toList ++ [34]) := by simpa using h
    have H6 := Lib.hid h
    have F6 := Lib.hid (F5.out.trans hf)
    have hbl := BL5.out.fr hf hgM
    have BL6 := Lib.hid hbl
    have c0 := hbl.cell 0
    have c1 := hbl.cell 1
    have c2 := hbl.cell 2
    clear h hf hbl H5 F5 BL5
    go_wp2_with fail
    go_end0
    refine ⟨rfl, ?_, F6.out⟩
    simpa [attrTag, escName, hsp] using H6.out
  · have d1 : ((sp.size : Int) != 0) = true := by rw [bne_iff_ne]; omega
    go_enter Tryz.func179, Tryz.ntmps179
    go_wp2_with fail
    refine (escapeString_any _ b _ sp _ H1.out (by (try simp); omega)).mono ?_
    rintro e w2 ⟨rfl, h, hf⟩
    replace h : EncB M w2 b (bs ++ esc sp.data.toList) := by simpa using h
    have H2 := Lib.hid h
    have F2 := Lib.hid (F1.out.trans hf)
    have hbl := BL1.out.fr hf hgM
    have BL2 := Lib.hid hbl
    have c0 := hbl.cell 0
    have c1 := hbl.cell 1
    have c2 := hbl.cell 2
    clear h hf hbl H1 F1 BL1
    go_wp2_with fail
    refine (enc_WriteRune _ b _ 58 _ H2.out (by decide) (by (try simp); omega)).mono ?_
    rintro e w3 ⟨rfl, h, hf⟩
    replace h : EncB M w3 b (bs ++ esc sp.data.toList ++ [58]) := by simpa using h
    have H3 := Lib.hid h
    have F3 := Lib.hid (F2.out.trans hf)
    have hbl := BL2.out.fr hf hgM
    have BL3 := Lib.hid hbl
    have c0 := hbl.cell 0
    have c1 := hbl.cell 1
    have c2 := hbl.cell 2
    clear h hf hbl H2 F2 BL2
    go_wp2_with fail
    refine (escapeString_any _ b _ loc _ H3.out (by (try simp); omega)).mono ?_
    rintro e w4 ⟨rfl, h, hf⟩
    replace h : EncB M w4 b (bs ++ esc sp.data.toList ++ [58] ++ esc loc.data.toList) := by simpa using h
    have H4 := Lib.hid h
    have F4 := Lib.hid (F3.out.trans hf)
    have hbl := BL3.out.fr hf hgM
    have BL4 := Lib.hid hbl
    have c0 := hbl.cell 0
    have c1 := hbl.cell 1
    have c2 := hbl.cell 2
    clear h hf hbl H3 F3 BL3
    go_wp2_with fail
    refine (enc_WriteRune _ b _ 61 _ H4.out (by decide) (by (try simp); omega)).mono ?_
    rintro e w5 ⟨rfl, h, hf⟩
    replace h : EncB M w5 b (bs ++ esc sp.data.toList ++ [58] ++ esc loc.data.toList ++ [61]) := by simpa using h
    have H5 := Lib.hid h
    have F5 := Lib.hid (F4.out.trans hf)
    have hbl := BL4.out.fr hf hgM
    have BL5 := Lib.hid hbl
    have c0 := hbl.cell 0
    have c1 := hbl.cell 1
    have c2 := hbl.cell 2
    clear h hf hbl H4 F4 BL4
    go_wp2_with fail
    refine (enc_WriteRune _ b _ 34 _ H5.out (by decide) (by (try simp); omega)).mono ?_
    rintro e w6 ⟨rfl, h, hf⟩
    replace h : EncB M w6 b (bs ++ esc sp.data.toList ++ [58] ++ esc loc.data.toList ++ [61] ++ [34]) := by simpa using h
    have H6 := Lib.hid h
    have F6 := Lib.hid (F5.out.trans hf)
    have hbl := BL5.out.fr hf hgM
    have BL6 := Lib.hid hbl
    have c0 := hbl.cell 0
    have c1 := hbl.cell 1
    have c2 := hbl.cell 2
    clear h hf hbl H5 F5 BL5
    go_wp2_with fail
    refine (escapeString_any _ b _ val _ H6.out (by (try simp); omega)).mono ?_
    rintro e w7 ⟨rfl, h, hf⟩
    replace h : EncB M w7 b (bs ++ esc sp.data.toList ++ [58] ++ esc loc.data.toList ++ [61] ++ [34] ++ esc val.data.toList) := by simpa using h
    have H7 := Lib.hid h
    have F7 := Lib.hid (F6.out.trans hf)
    have hbl := BL6.out.fr hf hgM
    have BL7 := Lib.hid hbl
    have c0 := hbl.cell 0
    have c1 := hbl.cell 1
    have c2 := hbl.cell 2
    clear h hf hbl H6 F6 BL6
    go_wp2_with fail
    refine (enc_WriteRune _ b _ 34 _ H7.out (by decide) (by (try simp); omega)).mono ?_
    rintro e w8 ⟨rfl, h, hf⟩
    replace h : EncB M w8 b (bs ++ esc sp.data.toList ++ [58] ++ esc loc.data.toList ++ [61] ++ [34] ++ esc val.data.toList ++ [34]) := by simpa using h
    have H8 := Lib.hid h
    have F8 := Lib.hid (F7.out.trans hf)
    have hbl := BL7.out.fr hf hgM
    have BL8 := Lib.hid hbl
    have c0 := hbl.cell 0
    have c1 := hbl.cell 1
    have c2 := hbl.cell 2
    clear h hf hbl H7 F7 BL7
    go_wp2_with fail
    go_end0
    refine ⟨rfl, ?_, F8.out⟩
    simpa [attrTag, escName, hsp] using H8.out

theorem end_any (sp loc : ByteArray) (at' : Value) (w : World) :
    Calls Tryz.prog 130 #[.agg #[.string sp, .string loc, at']] w fun e w' => e = .returned (.agg #[.string sp, .string loc]) ∧ Below w.heap.size w w' := by
  go_enter Tryz.func130, Tryz.ntmps130
  go_wp2_with fail
  have hb : Blk ((w.alloc (.cells #[.string sp, .string loc, at'] 93)).alloc (.cells #[.string sp, .string loc] 223)) (w.heap.size + 1) 223 #[.string sp, .string loc] := by
    have := Blk.new (w.alloc (.cells #[.string sp, .string loc, at'] 93)) 223 #[.string sp, .string loc]
    simpa using this
  have k0 := hb.cell 0
  have k1 := hb.cell 1
  exact bodyPost_ret (v := .agg #[.string sp, .string loc]) (by simp [results, Tryz.results130, go_sem, k0, k1]) rfl ⟨rfl, ((Below.refl _ _).alloc (Nat.le_refl _) _).alloc (by simp) _⟩

end Go.Proofs.YtlljphipglgjiaaGreatDoor
