/-
  The encoder: writeStartElement.
-/
import Derived.Test.YtlljphipglgjiaaGreatDoorXmVal
namespace Go.Proofs.YtlljphipglgjiaaGreatDoor
open Go.RowKit Go.Lib
set_option linter.unusedSimpArgs false

set_option maxRecDepth 100000 in
set_option maxHeartbeats 4000000 in
theorem writeStart_any (M : Nat → Prop) (b : Nat) (bs : List UInt8) (sp loc : ByteArray) (at' : Value) (l : List AttrS) (w : World) (h : EncB M w b bs) (hat : AttrsH w at' l) (hatM : ∀ g, at'.ownBlock = some g → ¬ M g)
    (hloc : 0 < loc.size) (hall : ∀ a ∈ l, 0 < a.loc.size) (hlim : bs.length + 20 * sp.size + 20 * loc.size + attrsSize l + 100 ≤ 50000000) :
    Calls Tryz.prog 139 #[wr b, .agg #[.string sp, .string loc, at']] w fun e w' => e = .returned .nilIface ∧ EncB M w' b (bs ++ startTag sp loc l) ∧ Fr M w w' := by
  have m1 := method_WriteRune
  have m2 := nilAhead_WriteRune
  have hT := h.2.2.1
  have f0 : Fr M w (w.alloc (.cells #[.string sp, .string loc, at'] 93)) := (Fr.refl _ _).alloc h.2.1 _
  obtain ⟨W, hW⟩ : ∃ W, w.alloc (.cells #[.string sp, .string loc, at'] 93) = W := ⟨_, rfl⟩
  have hb : EncB (fun k => M k ∧ k ≠ w.heap.size) W b bs := by rw [← hW]; exact h.but _
  have hblk : Blk W w.heap.size 93 #[.string sp, .string loc, at'] := by rw [← hW]; exact Blk.new _ _ _
  rw [hW] at f0
  have HB := Lib.hid hb
  have HB0 := Lib.hid hb
  have HT := Lib.hid (hT.fr f0)
  have F0 := Lib.hid f0
  have HBL := Lib.hid hblk
  have HA := Lib.hid hat
  clear h hb hT f0 hat
  have e1 := esc_le sp
  have e2 := esc_le loc
  rcases HA.out.cases with ⟨rfl, rfl⟩ | ⟨g, cap, cur, rfl, hg, hl, hm, hcs, ht⟩
  · unfold wr
    go_enter Tryz.func139, Tryz.ntmps139
    have c0 := hblk.cell 0
    have c1 := hblk.cell 1
    have c2 := hblk.cell 2
    clear hblk
    go_wp2_with fail
    refine (isZeroStart sp loc _ _ hloc).mono ?_
    rintro e w1 ⟨rfl, hbel⟩
    obtain ⟨h1, hf1⟩ := HB.out.new hbel
    have H1 := Lib.hid h1
    have F1 := Lib.hid ((Fr.refl (fun k => M k ∧ k ≠ w.heap.size) W).trans hf1)
    have hbl := HBL.out.fr hf1 (fun h => h.2 rfl)
    have BL1 := Lib.hid hbl
    have c0 := hbl.cell 0
    have c1 := hbl.cell 1
    have c2 := hbl.cell 2
    clear h1 hf1 hbel hbl HB
    by_cases hsp : sp.size = 0
    · have d1 : ((sp.size : Int) != 0) = false := by simp [hsp]
      go_wp2_with fail
      refine (enc_WriteRune _ b _ 60 _ H1.out (by decide) (by (try simp); omega)).mono ?_
      rintro e w2 ⟨rfl, h, hf⟩
      replace h : EncB (fun k => M k ∧ k ≠ w.heap.size) w2 b (bs ++ [60]) := by simpa using h
      have H2 := Lib.hid h
      have F2 := Lib.hid (F1.out.trans hf)
      have hbl := BL1.out.fr hf (fun h => h.2 rfl)
      have BL2 := Lib.hid hbl
      have c0 := hbl.cell 0
      have c1 := hbl.cell 1
      have c2 := hbl.cell 2
      clear h hf hbl H1 F1 BL1
      go_wp2_with fail
      refine (escapeString_any _ b _ loc _ H2.out (by (try simp); omega)).mono ?_
      rintro e w3 ⟨rfl, h, hf⟩
      replace h : EncB (fun k => M k ∧ k ≠ w.heap.size) w3 b (bs ++ [60] ++ esc loc.data.toList) := by simpa using h
      have H3 := Lib.hid h
      have F3 := Lib.hid (F2.out.trans hf)
      have hbl := BL2.out.fr hf (fun h => h.2 rfl)
      have BL3 := Lib.hid hbl
      have c0 := hbl.cell 0
      have c1 := hbl.cell 1
      have c2 := hbl.cell 2
      clear h hf hbl H2 F2 BL2
      go_wp2_with fail
      have hA : bs ++ [60] ++ esc loc.data.toList = bs ++ ([60] ++ escName sp loc) := by simp [escName, hsp]
      rw [hA] at H3
      refine wp_loop_once ?_
      go_wp2_with fail
      refine (enc_WriteRune _ b _ 62 _ H3.out (by decide) (by simp [escName, hsp]; omega)).mono ?_
      rintro e wz ⟨rfl, hz, hfz⟩
      have HZ := Lib.hid (hz.wide (M := M) (fun k hk => hk.1) (HT.out.fr ((F3.out.trans hfz).mono fun k hk => hk.1)))
      have FZ := Lib.hid (F0.out.trans ((F3.out.trans hfz).mono fun k hk => hk.1))
      clear hz hfz
      go_wp2_with fail
      go_ret
      refine ⟨rfl, ?_, FZ.out⟩
      simpa [startTag] using HZ.out

    · have d1 : ((sp.size : Int) != 0) = true := by rw [bne_iff_ne]; omega
      go_wp2_with fail
      refine (enc_WriteRune _ b _ 60 _ H1.out (by decide) (by (try simp); omega)).mono ?_
      rintro e w2 ⟨rfl, h, hf⟩
      replace h : EncB (fun k => M k ∧ k ≠ w.heap.size) w2 b (bs ++ [60]) := by simpa using h
      have H2 := Lib.hid h
      have F2 := Lib.hid (F1.out.trans hf)
      have hbl := BL1.out.fr hf (fun h => h.2 rfl)
      have BL2 := Lib.hid hbl
      have c0 := hbl.cell 0
      have c1 := hbl.cell 1
      have c2 := hbl.cell 2
      clear h hf hbl H1 F1 BL1
      go_wp2_with fail
      refine (escapeString_any _ b _ sp _ H2.out (by (try simp); omega)).mono ?_
      rintro e w3 ⟨rfl, h, hf⟩
      replace h : EncB (fun k => M k ∧ k ≠ w.heap.size) w3 b (bs ++ [60] ++ esc sp.data.toList) := by simpa using h
      have H3 := Lib.hid h
      have F3 := Lib.hid (F2.out.trans hf)
      have hbl := BL2.out.fr hf (fun h => h.2 rfl)
      have BL3 := Lib.hid hbl
      have c0 := hbl.cell 0
      have c1 := hbl.cell 1
      have c2 := hbl.cell 2
      clear h hf hbl H2 F2 BL2
      go_wp2_with fail
      refine (enc_WriteRune _ b _ 58 _ H3.out (by decide) (by (try simp); omega)).mono ?_
      rintro e w4 ⟨rfl, h, hf⟩
      replace h : EncB (fun k => M k ∧ k ≠ w.heap.size) w4 b (bs ++ [60] ++ esc sp.data.toList ++ [58]) := by simpa using h
      have H4 := Lib.hid h
      have F4 := Lib.hid (F3.out.trans hf)
      have hbl := BL3.out.fr hf (fun h => h.2 rfl)
      have BL4 := Lib.hid hbl
      have c0 := hbl.cell 0
      have c1 := hbl.cell 1
      have c2 := hbl.cell 2
      clear h hf hbl H3 F3 BL3
      go_wp2_with fail
      refine (escapeString_any _ b _ loc _ H4.out (by (try simp); omega)).mono ?_
      rintro e w5 ⟨rfl, h, hf⟩
      replace h : EncB (fun k => M k ∧ k ≠ w.heap.size) w5 b (bs ++ [60] ++ esc sp.data.toList ++ [58] ++ esc loc.data.toList) := by simpa using h
      have H5 := Lib.hid h
      have F5 := Lib.hid (F4.out.trans hf)
      have hbl := BL4.out.fr hf (fun h => h.2 rfl)
      have BL5 := Lib.hid hbl
      have c0 := hbl.cell 0
      have c1 := hbl.cell 1
      have c2 := hbl.cell 2
      clear h hf hbl H4 F4 BL4
      go_wp2_with fail
      have hA : bs ++ [60] ++ esc sp.data.toList ++ [58] ++ esc loc.data.toList = bs ++ ([60] ++ escName sp loc) := by simp [escName, hsp]
      rw [hA] at H5
      refine wp_loop_once ?_
      go_wp2_with fail
      refine (enc_WriteRune _ b _ 62 _ H5.out (by decide) (by simp [escName, hsp]; omega)).mono ?_
      rintro e wz ⟨rfl, hz, hfz⟩
      have HZ := Lib.hid (hz.wide (M := M) (fun k hk => hk.1) (HT.out.fr ((F5.out.trans hfz).mono fun k hk => hk.1)))
      have FZ := Lib.hid (F0.out.trans ((F5.out.trans hfz).mono fun k hk => hk.1))
      clear hz hfz
      go_wp2_with fail
      go_ret
      refine ⟨rfl, ?_, FZ.out⟩
      simpa [startTag] using HZ.out

  · have HCS := Lib.hid hcs
    have HTK := Lib.hid ht
    have HGG := Lib.hid hg
    clear hcs ht hg
    unfold maxLen at hm
    unfold wr
    go_enter Tryz.func139, Tryz.ntmps139
    have c0 := hblk.cell 0
    have c1 := hblk.cell 1
    have c2 := hblk.cell 2
    clear hblk
    go_wp2_with fail
    refine (isZeroStart sp loc _ _ hloc).mono ?_
    rintro e w1 ⟨rfl, hbel⟩
    obtain ⟨h1, hf1⟩ := HB.out.new hbel
    have H1 := Lib.hid h1
    have F1 := Lib.hid ((Fr.refl (fun k => M k ∧ k ≠ w.heap.size) W).trans hf1)
    have hbl := HBL.out.fr hf1 (fun h => h.2 rfl)
    have BL1 := Lib.hid hbl
    have c0 := hbl.cell 0
    have c1 := hbl.cell 1
    have c2 := hbl.cell 2
    clear h1 hf1 hbel hbl HB
    by_cases hsp : sp.size = 0
    · have d1 : ((sp.size : Int) != 0) = false := by simp [hsp]
      go_wp2_with fail
      refine (enc_WriteRune _ b _ 60 _ H1.out (by decide) (by (try simp); omega)).mono ?_
      rintro e w2 ⟨rfl, h, hf⟩
      replace h : EncB (fun k => M k ∧ k ≠ w.heap.size) w2 b (bs ++ [60]) := by simpa using h
      have H2 := Lib.hid h
      have F2 := Lib.hid (F1.out.trans hf)
      have hbl := BL1.out.fr hf (fun h => h.2 rfl)
      have BL2 := Lib.hid hbl
      have c0 := hbl.cell 0
      have c1 := hbl.cell 1
      have c2 := hbl.cell 2
      clear h hf hbl H1 F1 BL1
      go_wp2_with fail
      refine (escapeString_any _ b _ loc _ H2.out (by (try simp); omega)).mono ?_
      rintro e w3 ⟨rfl, h, hf⟩
      replace h : EncB (fun k => M k ∧ k ≠ w.heap.size) w3 b (bs ++ [60] ++ esc loc.data.toList) := by simpa using h
      have H3 := Lib.hid h
      have F3 := Lib.hid (F2.out.trans hf)
      have hbl := BL2.out.fr hf (fun h => h.2 rfl)
      have BL3 := Lib.hid hbl
      have c0 := hbl.cell 0
      have c1 := hbl.cell 1
      have c2 := hbl.cell 2
      clear h hf hbl H2 F2 BL2
      go_wp2_with fail
      have hA : bs ++ [60] ++ esc loc.data.toList = bs ++ ([60] ++ escName sp loc) := by simp [escName, hsp]
      rw [hA] at H3
      have hgM := hatM g rfl
      go_loopg [32] l.length (fun gk iv wr => ∃ k : Nat, gk = l.length - k ∧ k ≤ l.length ∧ iv = .int .i64 k ∧ EncB (fun k => M k ∧ k ≠ w.heap.size) wr b (bs ++ ([60] ++ escName sp loc) ++ (l.take k).flatMap AttrS.tag) ∧ Fr (fun k => M k ∧ k ≠ w.heap.size) W wr)
      case atStart => exact ⟨0, rfl, Nat.zero_le _, rfl, by simpa using H3.out, F3.out⟩
      case round =>
        obtain ⟨k, hgk, hk, rfl, hr, hfr⟩ := hrel
        have hgW : W.heap[g]? = some (.cells cur 171 (0, 0)) := by rw [← hW]; exact (Below.heap_alloc w _ g (Blk.lt (t := 171) (cs := cur) HGG.out)).trans HGG.out
        have hgr : wr.heap[g]? = some (.cells cur 171 (0, 0)) := hfr.heap hgW (fun h => hgM h.1)
        have HR := Lib.hid hr
        have HFR := Lib.hid hfr
        have HGK := Lib.hid hgk
        have HGR := Lib.hid hgr
        clear hr hfr hgk hgW hgr
        by_cases hkl : k < l.length
        · have a0 : wr.cell? ⟨g, k * 3, none⟩ = some (.string l[k].sp) := AttrsT.cell HGR.out HTK.out k 0 hkl (by omega)
          have a1 : wr.cell? ⟨g, k * 3 + 1, none⟩ = some (.string l[k].loc) := AttrsT.cell HGR.out HTK.out k 1 hkl (by omega)
          have a2 : wr.cell? ⟨g, k * 3 + 2, none⟩ = some (.string l[k].val) := AttrsT.cell HGR.out HTK.out k 2 hkl (by omega)
          have b1 := escName_le sp loc
          have b2 := tags_le (l.take k)
          have b3 := attrs_split l k hkl
          have B4 := Lib.hid (hall l[k] (List.getElem_mem hkl))
          obtain ⟨V, hV⟩ : ∃ V, wr.alloc (.cells #[.string l[k].sp, .string l[k].loc, .string l[k].val] 171) = V := ⟨_, rfl⟩
          have hb : EncB (fun x => (M x ∧ x ≠ w.heap.size) ∧ x ≠ wr.heap.size) V b (bs ++ ([60] ++ escName sp loc) ++ (l.take k).flatMap AttrS.tag) := by rw [← hV]; exact HR.out.but _
          have hvb : Blk V wr.heap.size 171 #[.string l[k].sp, .string l[k].loc, .string l[k].val] := by rw [← hV]; exact Blk.new _ _ _
          have hvf : Fr (fun k => M k ∧ k ≠ w.heap.size) W V := by rw [← hV]; exact HFR.out.alloc HB0.out.2.1 _
          have HVB := Lib.hid hvb
          have HVF := Lib.hid hvf
          have HB := Lib.hid hb
          clear hvb hvf hb
          go_wp2_with fail
          refine (enc_WriteRune _ b _ 32 V HB.out (by decide) (by simp only [List.length_append, List.length_cons, List.length_nil]; omega)).mono ?_
          rintro e wa ⟨rfl, ha, hfa⟩
          have HVA := Lib.hid (HVB.out.fr hfa (fun h => h.2 rfl))
          have HA2 := Lib.hid ha
          have HFA := Lib.hid hfa
          clear ha hfa
          go_wp2_with fail
          refine (writeAttr_any _ b wr.heap.size _ l[k].sp l[k].loc l[k].val _ HA2.out HVA.out (fun h => h.2 rfl) B4.out (by simp only [List.length_append, List.length_cons, List.length_nil]; omega)).mono ?_
          rintro e wb ⟨rfl, hb2, hfb⟩
          have HFR2 := Lib.hid (HVF.out.trans ((HFA.out.trans hfb).mono fun x hx => hx.1))
          have hTW : Tabs (fun k => M k ∧ k ≠ w.heap.size) wb := HB0.out.2.2.1.fr HFR2.out
          have HB2 := Lib.hid (hb2.wide (M := fun k => M k ∧ k ≠ w.heap.size) (fun k hk => hk.1) hTW)
          clear hb2 hfb hTW
          go_wp2_with fail
          go_roundg (l.length - (k + 1))
          case rel => exact ⟨k + 1, rfl, by omega, by go_num, by rw [List.take_succ_eq_append_getElem hkl, List.flatMap_append]; simpa [AttrS.tag] using HB2.out, HFR2.out⟩
          case measure => have := HGK.out; omega
        · obtain rfl : k = l.length := by omega
          have b2 := tags_le l
          have b1 := escName_le sp loc
          have htk : l.take l.length = l := List.take_length
          rw [htk] at HR
          go_wp2_with fail
          refine (enc_WriteRune _ b _ 62 _ HR.out (by decide) (by simp only [List.length_append, List.length_cons, List.length_nil]; omega)).mono ?_
          rintro e wz ⟨rfl, hz, hfz⟩
          have HZ := Lib.hid (hz.wide (M := M) (fun k hk => hk.1) (HT.out.fr ((HFR.out.trans hfz).mono fun k hk => hk.1)))
          have FZ := Lib.hid (F0.out.trans ((HFR.out.trans hfz).mono fun k hk => hk.1))
          clear hz hfz
          go_wp2_with fail
          go_ret
          refine ⟨rfl, ?_, FZ.out⟩
          simpa [startTag] using HZ.out

    · have d1 : ((sp.size : Int) != 0) = true := by rw [bne_iff_ne]; omega
      go_wp2_with fail
      refine (enc_WriteRune _ b _ 60 _ H1.out (by decide) (by (try simp); omega)).mono ?_
      rintro e w2 ⟨rfl, h, hf⟩
      replace h : EncB (fun k => M k ∧ k ≠ w.heap.size) w2 b (bs ++ [60]) := by simpa using h
      have H2 := Lib.hid h
      have F2 := Lib.hid (F1.out.trans hf)
      have hbl := BL1.out.fr hf (fun h => h.2 rfl)
      have BL2 := Lib.hid hbl
      have c0 := hbl.cell 0
      have c1 := hbl.cell 1
      have c2 := hbl.cell 2
      clear h hf hbl H1 F1 BL1
      go_wp2_with fail
      refine (escapeString_any _ b _ sp _ H2.out (by (try simp); omega)).mono ?_
      rintro e w3 ⟨rfl, h, hf⟩
      replace h : EncB (fun k => M k ∧ k ≠ w.heap.size) w3 b (bs ++ [60] ++ esc sp.data.toList) := by simpa using h
      have H3 := Lib.hid h
      have F3 := Lib.hid (F2.out.trans hf)
      have hbl := BL2.out.fr hf (fun h => h.2 rfl)
      have BL3 := Lib.hid hbl
      have c0 := hbl.cell 0
      have c1 := hbl.cell 1
      have c2 := hbl.cell 2
      clear h hf hbl H2 F2 BL2
      go_wp2_with fail
      refine (enc_WriteRune _ b _ 58 _ H3.out (by decide) (by (try simp); omega)).mono ?_
      rintro e w4 ⟨rfl, h, hf⟩
      replace h : EncB (fun k => M k ∧ k ≠ w.heap.size) w4 b (bs ++ [60] ++ esc sp.data.toList ++ [58]) := by simpa using h
      have H4 := Lib.hid h
      have F4 := Lib.hid (F3.out.trans hf)
      have hbl := BL3.out.fr hf (fun h => h.2 rfl)
      have BL4 := Lib.hid hbl
      have c0 := hbl.cell 0
      have c1 := hbl.cell 1
      have c2 := hbl.cell 2
      clear h hf hbl H3 F3 BL3
      go_wp2_with fail
      refine (escapeString_any _ b _ loc _ H4.out (by (try simp); omega)).mono ?_
      rintro e w5 ⟨rfl, h, hf⟩
      replace h : EncB (fun k => M k ∧ k ≠ w.heap.size) w5 b (bs ++ [60] ++ esc sp.data.toList ++ [58] ++ esc loc.data.toList) := by simpa using h
      have H5 := Lib.hid h
      have F5 := Lib.hid (F4.out.trans hf)
      have hbl := BL4.out.fr hf (fun h => h.2 rfl)
      have BL5 := Lib.hid hbl
      have c0 := hbl.cell 0
      have c1 := hbl.cell 1
      have c2 := hbl.cell 2
      clear h hf hbl H4 F4 BL4
      go_wp2_with fail
      have hA : bs ++ [60] ++ esc sp.data.toList ++ [58] ++ esc loc.data.toList = bs ++ ([60] ++ escName sp loc) := by simp [escName, hsp]
      rw [hA] at H5
      have hgM := hatM g rfl
      go_loopg [32] l.length (fun gk iv wr => ∃ k : Nat, gk = l.length - k ∧ k ≤ l.length ∧ iv = .int .i64 k ∧ EncB (fun k => M k ∧ k ≠ w.heap.size) wr b (bs ++ ([60] ++ escName sp loc) ++ (l.take k).flatMap AttrS.tag) ∧ Fr (fun k => M k ∧ k ≠ w.heap.size) W wr)
      case atStart => exact ⟨0, rfl, Nat.zero_le _, rfl, by simpa using H5.out, F5.out⟩
      case round =>
        obtain ⟨k, hgk, hk, rfl, hr, hfr⟩ := hrel
        have hgW : W.heap[g]? = some (.cells cur 171 (0, 0)) := by rw [← hW]; exact (Below.heap_alloc w _ g (Blk.lt (t := 171) (cs := cur) HGG.out)).trans HGG.out
        have hgr : wr.heap[g]? = some (.cells cur 171 (0, 0)) := hfr.heap hgW (fun h => hgM h.1)
        have HR := Lib.hid hr
        have HFR := Lib.hid hfr
        have HGK := Lib.hid hgk
        have HGR := Lib.hid hgr
        clear hr hfr hgk hgW hgr
        by_cases hkl : k < l.length
        · have a0 : wr.cell? ⟨g, k * 3, none⟩ = some (.string l[k].sp) := AttrsT.cell HGR.out HTK.out k 0 hkl (by omega)
          have a1 : wr.cell? ⟨g, k * 3 + 1, none⟩ = some (.string l[k].loc) := AttrsT.cell HGR.out HTK.out k 1 hkl (by omega)
          have a2 : wr.cell? ⟨g, k * 3 + 2, none⟩ = some (.string l[k].val) := AttrsT.cell HGR.out HTK.out k 2 hkl (by omega)
          have b1 := escName_le sp loc
          have b2 := tags_le (l.take k)
          have b3 := attrs_split l k hkl
          have B4 := Lib.hid (hall l[k] (List.getElem_mem hkl))
          obtain ⟨V, hV⟩ : ∃ V, wr.alloc (.cells #[.string l[k].sp, .string l[k].loc, .string l[k].val] 171) = V := ⟨_, rfl⟩
          have hb : EncB (fun x => (M x ∧ x ≠ w.heap.size) ∧ x ≠ wr.heap.size) V b (bs ++ ([60] ++ escName sp loc) ++ (l.take k).flatMap AttrS.tag) := by rw [← hV]; exact HR.out.but _
          have hvb : Blk V wr.heap.size 171 #[.string l[k].sp, .string l[k].loc, .string l[k].val] := by rw [← hV]; exact Blk.new _ _ _
          have hvf : Fr (fun k => M k ∧ k ≠ w.heap.size) W V := by rw [← hV]; exact HFR.out.alloc HB0.out.2.1 _
          have HVB := Lib.hid hvb
          have HVF := Lib.hid hvf
          have HB := Lib.hid hb
          clear hvb hvf hb
          go_wp2_with fail
          refine (enc_WriteRune _ b _ 32 V HB.out (by decide) (by simp only [List.length_append, List.length_cons, List.length_nil]; omega)).mono ?_
          rintro e wa ⟨rfl, ha, hfa⟩
          have HVA := Lib.hid (HVB.out.fr hfa (fun h => h.2 rfl))
          have HA2 := Lib.hid ha
          have HFA := Lib.hid hfa
          clear ha hfa
          go_wp2_with fail
          refine (writeAttr_any _ b wr.heap.size _ l[k].sp l[k].loc l[k].val _ HA2.out HVA.out (fun h => h.2 rfl) B4.out (by simp only [List.length_append, List.length_cons, List.length_nil]; omega)).mono ?_
          rintro e wb ⟨rfl, hb2, hfb⟩
          have HFR2 := Lib.hid (HVF.out.trans ((HFA.out.trans hfb).mono fun x hx => hx.1))
          have hTW : Tabs (fun k => M k ∧ k ≠ w.heap.size) wb := HB0.out.2.2.1.fr HFR2.out
          have HB2 := Lib.hid (hb2.wide (M := fun k => M k ∧ k ≠ w.heap.size) (fun k hk => hk.1) hTW)
          clear hb2 hfb hTW
          go_wp2_with fail
          go_roundg (l.length - (k + 1))
          case rel => exact ⟨k + 1, rfl, by omega, by go_num, by rw [List.take_succ_eq_append_getElem hkl, List.flatMap_append]; simpa [AttrS.tag] using HB2.out, HFR2.out⟩
          case measure => have := HGK.out; omega
        · obtain rfl : k = l.length := by omega
          have b2 := tags_le l
          have b1 := escName_le sp loc
          have htk : l.take l.length = l := List.take_length
          rw [htk] at HR
          go_wp2_with fail
          refine (enc_WriteRune _ b _ 62 _ HR.out (by decide) (by simp only [List.length_append, List.length_cons, List.length_nil]; omega)).mono ?_
          rintro e wz ⟨rfl, hz, hfz⟩
          have HZ := Lib.hid (hz.wide (M := M) (fun k hk => hk.1) (HT.out.fr ((HFR.out.trans hfz).mono fun k hk => hk.1)))
          have FZ := Lib.hid (F0.out.trans ((HFR.out.trans hfz).mono fun k hk => hk.1))
          clear hz hfz
          go_wp2_with fail
          go_ret
          refine ⟨rfl, ?_, FZ.out⟩
          simpa [startTag] using HZ.out


end Go.Proofs.YtlljphipglgjiaaGreatDoor
