/-
  The encoder's tags: writeEndElement.
-/
import Derived.Test.YtlljphipglgjiaaGreatDoorXmEsc2
namespace Go.Proofs.YtlljphipglgjiaaGreatDoor
open Go.RowKit Go.Lib
set_option linter.unusedSimpArgs false

/-- A name as it is written: with its prefix, if it has one. -/
def escName (sp loc : ByteArray) : List UInt8 := (if sp.size = 0 then [] else esc sp.data.toList ++ [58]) ++ esc loc.data.toList
def endTag (sp loc : ByteArray) : List UInt8 := [60, 47] ++ escName sp loc ++ [62]

theorem esc_le (s : ByteArray) : (esc s.data.toList).length ≤ 9 * s.size := by
  have := esc_length _ s.data.toList (Nat.le_refl _)
  rw [Array.length_toList] at this
  exact this

theorem EncB.le {M : Nat → Prop} {w : World} {b : Nat} {bs : List UInt8} (h : EncB M w b bs) : bs.length ≤ 100000000 := h.2.2.2.1

theorem isZeroEnd (sp loc : ByteArray) (w : World) (hloc : 0 < loc.size) :
    Calls Tryz.prog 173 #[.agg #[.string sp, .string loc]] w fun e w' => e = .returned (.bool false) ∧ Below w.heap.size w w' := by
  have d1 : ((loc.size : Int) == 0) = false := by rw [beq_eq_false_iff_ne]; omega
  have hne : ¬ loc.size = 0 := by omega
  go_enter Tryz.func173, Tryz.ntmps173
  go_wp2_with fail
  go_ret
  exact ⟨rfl, (Below.refl _ _).alloc (Nat.le_refl _) _⟩
theorem isZeroStart (sp loc : ByteArray) (at' : Value) (w : World) (hloc : 0 < loc.size) :
    Calls Tryz.prog 178 #[.agg #[.string sp, .string loc, at']] w fun e w' => e = .returned (.bool false) ∧ Below w.heap.size w w' := by
  have d1 : ((loc.size : Int) == 0) = false := by rw [beq_eq_false_iff_ne]; omega
  have hne : ¬ loc.size = 0 := by omega
  go_enter Tryz.func178, Tryz.ntmps178
  go_wp2_with fail
  go_ret
  exact ⟨rfl, (Below.refl _ _).alloc (Nat.le_refl _) _⟩

set_option maxRecDepth 100000 in
set_option maxHeartbeats 4000000 in
theorem writeEnd_any (M : Nat → Prop) (b : Nat) (bs : List UInt8) (sp loc : ByteArray) (w : World) (h : EncB M w b bs) (hloc : 0 < loc.size) (hlim : bs.length + 20 * sp.size + 20 * loc.size + 100 ≤ 50000000) :
    Calls Tryz.prog 129 #[wr b, .agg #[.string sp, .string loc]] w fun e w' => e = .returned .nilIface ∧ EncB M w' b (bs ++ endTag sp loc) ∧ Fr M w w' := by
  have m1 := method_WriteRune
  have m2 := nilAhead_WriteRune
  have hN := h.2.1
  have hT := h.2.2.1
  have f0 : Fr M w (w.alloc (.cells #[.string sp, .string loc] 223)) := (Fr.refl _ _).alloc hN _
  obtain ⟨W, hW⟩ : ∃ W, w.alloc (.cells #[.string sp, .string loc] 223) = W := ⟨_, rfl⟩
  have hb : EncB (fun k => M k ∧ k ≠ w.heap.size) W b bs := by rw [← hW]; exact h.but _
  have hblk : Blk W w.heap.size 223 #[.string sp, .string loc] := by rw [← hW]; exact Blk.new _ _ _
  rw [hW] at f0
  have HB := Lib.hid hb
  have HT := Lib.hid (hT.fr f0)
  have F0 := Lib.hid f0
  have HBL := Lib.hid hblk
  clear h hb hT f0 hN
  have e1 := esc_le sp
  have e2 := esc_le loc
  unfold wr
  go_enter Tryz.func129, Tryz.ntmps129
  have c0 := hblk.cell 0
  have c1 := hblk.cell 1
  clear hblk
  go_wp2_with fail
  refine (isZeroEnd sp loc _ hloc).mono ?_
  rintro e w1 ⟨rfl, hbel⟩
  obtain ⟨h1, hf1⟩ := HB.out.new hbel
  have H1 := Lib.hid h1
  have F1 := Lib.hid ((Fr.refl (fun k => M k ∧ k ≠ w.heap.size) W).trans hf1)
  have hbl := HBL.out.fr hf1 (fun h => h.2 rfl)
  have BL1 := Lib.hid hbl
  have c0 := hbl.cell 0
  have c1 := hbl.cell 1
  clear h1 hf1 hbel hbl HB
  by_cases hsp : sp.size = 0
  · have d1 : ((sp.size : Int) == 0) = true := by rw [beq_iff_eq]; omega
    go_wp2_with fail
    refine (enc_WriteRune _ b _ 60 _ H1.out (by decide) (by simp; omega)).mono ?_
    rintro e w2 ⟨rfl, h, hf⟩
    replace h : EncB (fun k => M k ∧ k ≠ w.heap.size) w2 b (bs ++ [60]) := by simpa using h
    have H2 := Lib.hid h
    have F2 := Lib.hid (F1.out.trans hf)
    have hbl := BL1.out.fr hf (fun h => h.2 rfl)
    have BL2 := Lib.hid hbl
    have c0 := hbl.cell 0
    have c1 := hbl.cell 1
    clear h hf hbl H1 F1 BL1
    go_wp2_with fail
    refine (enc_WriteRune _ b _ 47 _ H2.out (by decide) (by simp; omega)).mono ?_
    rintro e w3 ⟨rfl, h, hf⟩
    replace h : EncB (fun k => M k ∧ k ≠ w.heap.size) w3 b (bs ++ [60, 47]) := by simpa using h
    have H3 := Lib.hid h
    have F3 := Lib.hid (F2.out.trans hf)
    have hbl := BL2.out.fr hf (fun h => h.2 rfl)
    have BL3 := Lib.hid hbl
    have c0 := hbl.cell 0
    have c1 := hbl.cell 1
    clear h hf hbl H2 F2 BL2
    go_wp2_with fail
    refine (escapeString_any _ b _ loc _ H3.out (by simp; omega)).mono ?_
    rintro e w4 ⟨rfl, h, hf⟩
    replace h : EncB (fun k => M k ∧ k ≠ w.heap.size) w4 b (bs ++ [60, 47] ++ esc loc.data.toList) := by simpa using h
    have H4 := Lib.hid h
    have F4 := Lib.hid (F3.out.trans hf)
    have hbl := BL3.out.fr hf (fun h => h.2 rfl)
    have BL4 := Lib.hid hbl
    have c0 := hbl.cell 0
    have c1 := hbl.cell 1
    clear h hf hbl H3 F3 BL3
    go_wp2_with fail
    refine (enc_WriteRune _ b _ 62 _ H4.out (by decide) (by simp; omega)).mono ?_
    rintro e w5 ⟨rfl, h, hf⟩
    replace h : EncB (fun k => M k ∧ k ≠ w.heap.size) w5 b (bs ++ [60, 47] ++ esc loc.data.toList ++ [62]) := by simpa using h
    have H5 := Lib.hid h
    have F5 := Lib.hid (F4.out.trans hf)
    have hbl := BL4.out.fr hf (fun h => h.2 rfl)
    have BL5 := Lib.hid hbl
    have c0 := hbl.cell 0
    have c1 := hbl.cell 1
    clear h hf hbl H4 F4 BL4
    go_wp2_with fail
    go_ret
    refine ⟨rfl, ?_, F0.out.trans (F5.out.mono fun k hk => hk.1)⟩
    have h := H5.out.wide (M := M) (fun k hk => hk.1) (HT.out.fr (F5.out.mono fun k hk => hk.1))
    simpa [endTag, escName, hsp] using h
  · have d1 : ((sp.size : Int) == 0) = false := by rw [beq_eq_false_iff_ne]; omega
    go_wp2_with fail
    refine (enc_WriteRune _ b _ 60 _ H1.out (by decide) (by simp; omega)).mono ?_
    rintro e w2 ⟨rfl, h, hf⟩
    replace h : EncB (fun k => M k ∧ k ≠ w.heap.size) w2 b (bs ++ [60]) := by simpa using h
    have H2 := Lib.hid h
    have F2 := Lib.hid (F1.out.trans hf)
    have hbl := BL1.out.fr hf (fun h => h.2 rfl)
    have BL2 := Lib.hid hbl
    have c0 := hbl.cell 0
    have c1 := hbl.cell 1
    clear h hf hbl H1 F1 BL1
    go_wp2_with fail
    refine (enc_WriteRune _ b _ 47 _ H2.out (by decide) (by simp; omega)).mono ?_
    rintro e w3 ⟨rfl, h, hf⟩
    replace h : EncB (fun k => M k ∧ k ≠ w.heap.size) w3 b (bs ++ [60, 47]) := by simpa using h
    have H3 := Lib.hid h
    have F3 := Lib.hid (F2.out.trans hf)
    have hbl := BL2.out.fr hf (fun h => h.2 rfl)
    have BL3 := Lib.hid hbl
    have c0 := hbl.cell 0
    have c1 := hbl.cell 1
    clear h hf hbl H2 F2 BL2
    go_wp2_with fail
    refine (escapeString_any _ b _ sp _ H3.out (by simp; omega)).mono ?_
    rintro e w4 ⟨rfl, h, hf⟩
    replace h : EncB (fun k => M k ∧ k ≠ w.heap.size) w4 b (bs ++ [60, 47] ++ esc sp.data.toList) := by simpa using h
    have H4 := Lib.hid h
    have F4 := Lib.hid (F3.out.trans hf)
    have hbl := BL3.out.fr hf (fun h => h.2 rfl)
    have BL4 := Lib.hid hbl
    have c0 := hbl.cell 0
    have c1 := hbl.cell 1
    clear h hf hbl H3 F3 BL3
    go_wp2_with fail
    refine (enc_WriteRune _ b _ 58 _ H4.out (by decide) (by simp; omega)).mono ?_
    rintro e w5 ⟨rfl, h, hf⟩
    replace h : EncB (fun k => M k ∧ k ≠ w.heap.size) w5 b (bs ++ [60, 47] ++ esc sp.data.toList ++ [58]) := by simpa using h
    have H5 := Lib.hid h
    have F5 := Lib.hid (F4.out.trans hf)
    have hbl := BL4.out.fr hf (fun h => h.2 rfl)
    have BL5 := Lib.hid hbl
    have c0 := hbl.cell 0
    have c1 := hbl.cell 1
    clear h hf hbl H4 F4 BL4
    go_wp2_with fail
    refine (escapeString_any _ b _ loc _ H5.out (by simp; omega)).mono ?_
    rintro e w6 ⟨rfl, h, hf⟩
    replace h : EncB (fun k => M k ∧ k ≠ w.heap.size) w6 b (bs ++ [60, 47] ++ esc sp.data.toList ++ [58] ++ esc loc.data.toList) := by simpa using h
    have H6 := Lib.hid h
    have F6 := Lib.hid (F5.out.trans hf)
    have hbl := BL5.out.fr hf (fun h => h.2 rfl)
    have BL6 := Lib.hid hbl
    have c0 := hbl.cell 0
    have c1 := hbl.cell 1
    clear h hf hbl H5 F5 BL5
    go_wp2_with fail
    refine (enc_WriteRune _ b _ 62 _ H6.out (by decide) (by simp; omega)).mono ?_
    rintro e w7 ⟨rfl, h, hf⟩
    replace h : EncB (fun k => M k ∧ k ≠ w.heap.size) w7 b (bs ++ [60, 47] ++ esc sp.data.toList ++ [58] ++ esc loc.data.toList ++ [62]) := by simpa using h
    have H7 := Lib.hid h
    have F7 := Lib.hid (F6.out.trans hf)
    have hbl := BL6.out.fr hf (fun h => h.2 rfl)
    have BL7 := Lib.hid hbl
    have c0 := hbl.cell 0
    have c1 := hbl.cell 1
    clear h hf hbl H6 F6 BL6
    go_wp2_with fail
    go_ret
    refine ⟨rfl, ?_, F0.out.trans (F7.out.mono fun k hk => hk.1)⟩
    have h := H7.out.wide (M := M) (fun k hk => hk.1) (HT.out.fr (F7.out.mono fun k hk => hk.1))
    simpa [endTag, escName, hsp] using h

end Go.Proofs.YtlljphipglgjiaaGreatDoor
