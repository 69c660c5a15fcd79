/-
  zxml's Decoder.text on the good road: up to '<'.
-/
import Derived.Test.YtlljphipglgjiaaGreatDoorXmDec
import Derived.Deep.CutBlock
import Derived.Deep.DeepCutAuto
import Derived.Deep.RegionHeld3
namespace Go.Proofs.YtlljphipglgjiaaGreatDoor
open Go.RowKit Go.Lib
set_option linter.unusedSimpArgs false

set_option maxRecDepth 100000 in
set_option maxHeartbeats 20000000 in
theorem textN_any (j : Nat) (M : Nat → Prop) (w : World) (L : LS) (s : ByteArray) (i : Nat) (f : Bool) (bs v r : List UInt8)
    (h : LowB M w L s i f bs) (hT : Utf8Tabs 4 5 w) (hT4 : ¬ M 4 ∧ ¬ M 5) (hP : TxP 60 0 0 (s.data.toList.drop i) v r) (hG : GoodT v) (hj : s.data.toList.drop j = r) (_hjs : j ≤ s.size) (hv : v ≠ []) :
    Calls Tryz.prog 153 #[.pointer (some ⟨L.p, 0, none⟩), .int .i64 (-1), .bool false] w (TxPost M w L s j false v) := by
  have hss := h.parts.2.2.2.1
  have hbl := h.parts.2.2.2.2
  obtain ⟨post, hpost⟩ : ∃ post, TxPost M w L s j false v = post := ⟨_, rfl⟩
  have hfin : ∀ (buf : Value) (w' : World), BufH w' buf v → LowB M w' L s j false v → Fr M w w' → post (.returned buf) w' := by
    intro buf w' h1 h2 h3
    rw [← hpost]
    exact TxPost.mk hv h1 h2 h3
  rw [hpost]
  have HFIN := Lib.hid hfin
  have H := Lib.hid h
  have HT := Lib.hid hT
  have HT4 := Lib.hid hT4
  have HP0 := Lib.hid hP
  have HGD := Lib.hid hG
  have HJ := Lib.hid hj
  have HV := Lib.hid hv
  clear hpost hfin h hT hT4 hP hG hj hv
  go_enter Tryz.func153, Tryz.ntmps153
  go_wp2_with fail
  go_step3
  go_wp2_with fail
  refine (ResetB H.out).mono ?_
  rintro e w1 ⟨rfl, h1, hf1⟩
  have H1 := Lib.hid h1
  have F1 := Lib.hid hf1
  clear h1 hf1
  go_wp2_with fail
  go_step3
  go_wp2_with fail
  go_loopg [7, 8, 9] (s.size - i) (fun g b0v b1v tv wr => ∃ (k : Nat) (fk : Bool) (acc v' : List UInt8) (b0 b1 : UInt8), g = s.size - k ∧ i ≤ k ∧ b0v = .int .u8 b0.toNat ∧ b1v = .int .u8 b1.toNat ∧ tv = .int .i64 0 ∧ b1 ≠ 13 ∧ acc.length ≤ 4 * (k - i) ∧
    LowB M wr L s k fk acc ∧ Fr M w wr ∧ Hid (TxP 60 b0 b1 (s.data.toList.drop k) v' r ∧ v = acc ++ v'))
  case atStart => exact ⟨i, f, [], v, 0, 0, rfl, Nat.le_refl _, rfl, rfl, rfl, by decide, by simp, H1.out, F1.out, Lib.hid ⟨HP0.out, rfl⟩⟩
  case round =>
    obtain ⟨k, fk, acc, v', b0, b1, hg, hik, rfl, rfl, rfl, h13, hal, hl, hf, HP⟩ := hrel
    have hks : k < s.size := TxP.lt HP.out.1
    have hal2 : acc.length ≤ 4 * s.size := by omega
    have HG := Lib.hid hg
    have HL := Lib.hid hl
    have HF := Lib.hid hf
    have HR0 := Lib.hid (TxP.three HP.out.1 hks (by decide))
    clear hl hf hg
    go_wp2_with fail
    refine (getcB HL.out hks).mono ?_
    rintro e w2 ⟨rfl, h1, hf1⟩
    have H2 := Lib.hid h1
    have F2 := Lib.hid (HF.out.trans hf1)
    clear h1 hf1 HL HF
    have hsk := s[k].toNat_lt
    have e13 : ((b1.toNat : Int) == 13) = false := u8_ne 13 rfl h13
    have E13 := Lib.hid e13
    clear e13
    go_upto_region 10 with fail
    go_cut [66] (fun cv wc => cv = .bool false ∧ wc = w2)
    case first =>
      by_cases c0 : b0 = 93
      · have g0 : ((b0.toNat : Int) == 93) = true := u8_eq 93 rfl c0
        by_cases c1 : b1 = 93
        · have g1 : ((b1.toNat : Int) == 93) = true := u8_eq 93 rfl c1
          have g2 : ((s[k].toNat : Int) == 62) = false := u8_ne 62 rfl (fun e => HR0.out ⟨c0, c1, e⟩)
          clear c0 c1
          as_aux_lemma =>
            go_wp2_with fail
            go_meet
            exact ⟨rfl, rfl⟩
        · have g1 : ((b1.toNat : Int) == 93) = false := u8_ne 93 rfl c1
          clear c0 c1
          as_aux_lemma =>
            go_wp2_with fail
            go_meet
            exact ⟨rfl, rfl⟩
      · have g0 : ((b0.toNat : Int) == 93) = false := u8_ne 93 rfl c0
        clear c0
        as_aux_lemma =>
          go_wp2_with fail
          go_meet
          exact ⟨rfl, rfl⟩
    case rest =>
      obtain ⟨rfl, hcut⟩ := hcut
      subst hcut
      obtain ⟨hx, hvv⟩ := HP.out
      have HVV := Lib.hid hvv
      clear hvv HP
      rcases TxP.inv hx hks with ⟨hkq, hv0, hr0⟩ | ⟨v2, hv0, hn60, hnq, hn38, hn13, hx2⟩ | ⟨t2, o, v2, nm, hk38, hq38, hv0, hsub, h59, hent, hx2⟩
      · as_aux_lemma =>
          subst hv0
          have HJK : Hid (k = j) := Lib.hid (drop_inj s hks HJ.out (hr0.symm ▸ rfl))
          have hva : v = acc := by rw [HVV.out, List.append_nil]
          have e60 : ((s[k].toNat : Int) == 60) = true := u8_eq 60 rfl hkq
          have hu := ungetcB H2.out hks
          rw [show (s[k].toNat : Int) = 60 by rw [hkq]; rfl] at hu
          have HU := Lib.hid hu
          have HVA := Lib.hid hva
          clear hu hr0 hkq hva
          go_wp2_with fail
          refine HU.out.mono ?_
          rintro e w3 ⟨rfl, h1, hf1⟩
          rw [← HVA.out, HJK.out] at h1
          have HL := Lib.hid h1
          have HF := Lib.hid (F2.out.trans hf1)
          have hvl := h1.parts.2.2.2.2
          clear h1 hf1 H2 F2 HU
          go_wp2_with fail
          refine (BytesB HL.out).mono ?_
          rintro e w3t ⟨buf, rfl, hlow, hbuf, h3, hf3⟩
          have H3 := Lib.hid h3
          have F3 := Lib.hid (HF.out.trans hf3)
          clear h3 hf3 hlow
          rcases hbuf.cases with ⟨rfl, hnil⟩ | ⟨g, cap, cur, rfl, hg, hlc, hm, hcs, ht⟩
          · exact absurd hnil HV.out
          have HB := Lib.hid hbuf
          have q1 : IntKind.i64.wrap ((v.length : Int) - 0) = (v.length : Int) := by rw [IntKind.wrap_i64]; omega
          have hgl : g < w3t.heap.size := Blk.lt (t := 5) (cs := cur) hg
          have HR := Lib.hid (fun p (hp : p < v.length) => row_byte hg ht p hp)
          have hm' := hm
          unfold maxLen at hm'
          clear hbuf hg hcs ht hm
          go_wp2_with fail
          go_loopg [27] v.length (fun gk bv wr => ∃ (p : Nat) (ad : Option Addr), gk = v.length - p ∧ p ≤ v.length ∧ bv = .slice ad (v.length - p) (cap - p) ∧ (p < v.length → ad = some ⟨g, p, none⟩) ∧ Below w3t.heap.size w3t wr ∧ Hid (GoodT (v.drop p)))
          case atStart => exact ⟨0, some ⟨g, 0, none⟩, by simp, Nat.zero_le _, by simp, fun _ => rfl, Below.refl _ _, Lib.hid (by simpa using HGD.out)⟩
          case round =>
            obtain ⟨p, ad, hg', hp, rfl, had, hbr, HGT⟩ := hrel
            have HG2 := Lib.hid hg'
            have HBR := Lib.hid hbr
            clear hg' hbr
            by_cases hpl : p < v.length
            · obtain rfl := had hpl
              clear had
              have hd : decide ((0 : Int) < ((v.length - p : Nat) : Int)) = true := by rw [decide_eq_true_eq]; omega
              have hne : v.drop p ≠ [] := by
                intro e
                have := congrArg List.length e
                rw [List.length_drop] at this
                simp at this
                omega
              obtain ⟨hx1, hx2, hx3⟩ := HGT.out.step hne
              obtain ⟨ch, hch⟩ : ∃ c, (decodeL (v.drop p)).1 = c := ⟨_, rfl⟩
              obtain ⟨n, hn⟩ : ∃ c, (decodeL (v.drop p)).2 = c := ⟨_, rfl⟩
              have hn1 : 1 ≤ n := by rw [← hn]; exact decodeL_width _
              have hn2 : n ≤ v.length - p := by rw [← hn, ← List.length_drop]; exact decodeL_le _ hne
              have hdr : Calls Tryz.prog 175 #[.slice (some ⟨g, p, none⟩) (v.length - p) (cap - p)] wr fun e w' => e = .returned (.tuple #[.int .i32 (ch : Int), .int .i64 (n : Int)]) ∧ Below wr.heap.size wr w' := by
                have := Tryz.utf8_DecodeRune (bst (v.drop p)) g p (cap - p) wr (utf8_fr HT.out ((F3.out.trans (Fr.below HBR.out (Nat.le_refl _) H3.out.parts.2.2.1)) ) HT4.out) (fun j hj => ?_)
                · rw [bst_size, List.length_drop, decodeGo_bst _ hne, hch, hn] at this
                  exact this
                · rw [bst_size, List.length_drop] at hj
                  have h1 : wr.cell? ⟨g, p + j, none⟩ = w3t.cell? ⟨g, p + j, none⟩ := HBR.out.cell (p := ⟨g, p + j, none⟩) hgl
                  rw [h1, HR.out (p + j) (by omega)]
                  rw [get_bst _ _ (by rw [List.length_drop]; omega)]
                  simp
              have HDR := Lib.hid hdr
              have hcb := isXChar_inv hx1
              rw [hch] at hx1 hx2 hcb
              rw [hn] at hx2
              have HX1 := Lib.hid hx1
              have HX3 : Hid (GoodT (v.drop (p + n))) := Lib.hid (by rw [← List.drop_drop, ← hn]; exact hx3)
              have q2 : IntKind.i64.wrap (n : Int) = (n : Int) := by rw [IntKind.wrap_i64]; omega
              clear hch hn hne hdr hx3
              by_cases h65 : ch = 65533
              · have e1 : ((ch : Int) == 65533) = true := by rw [h65]; rfl
                have e2 : ((n : Int) == 1) = false := by rw [beq_eq_false_iff_ne]; intro e; exact hx2 ⟨h65, by omega⟩
                clear h65 hx2 hx1
                by_cases hcn : cap - p = n
                · subst hcn
                  go_wp2_with fail
                  refine HDR.out.mono ?_
                  rintro e w4 ⟨rfl, hb4⟩
                  have HB4 := Lib.hid hb4
                  clear hb4
                  go_wp2_with fail
                  refine (zInRange_any ch _ (by omega)).mono ?_
                  rintro e w5 ⟨rfl, rfl⟩
                  rw [HX1.out]
                  go_wp2_with fail
                  go_roundg (v.length - (p + (cap - p)))
                  case rel => exact ⟨p + (cap - p), some ⟨g, p, none⟩, rfl, by omega, by first | (simp; omega) | (simp; done), fun h => by exfalso; omega, HBR.out.trans (HB4.out.mono HBR.out.size), HX3⟩
                  case measure => have := HG2.out; omega
                · go_wp2_with fail
                  refine HDR.out.mono ?_
                  rintro e w4 ⟨rfl, hb4⟩
                  have HB4 := Lib.hid hb4
                  clear hb4
                  go_wp2_with fail
                  refine (zInRange_any ch _ (by omega)).mono ?_
                  rintro e w5 ⟨rfl, rfl⟩
                  rw [HX1.out]
                  go_wp2_with fail
                  go_roundg (v.length - (p + n))
                  case rel => exact ⟨p + n, _, rfl, by omega, by rw [Nat.sub_add_eq, Nat.sub_add_eq], fun h => by first | rfl | (exfalso; omega), HBR.out.trans (HB4.out.mono HBR.out.size), HX3⟩
                  case measure => have := HG2.out; omega
              · have e1 : ((ch : Int) == 65533) = false := by rw [beq_eq_false_iff_ne]; omega
                clear h65 hx2 hx1
                by_cases hcn : cap - p = n
                · subst hcn
                  go_wp2_with fail
                  refine HDR.out.mono ?_
                  rintro e w4 ⟨rfl, hb4⟩
                  have HB4 := Lib.hid hb4
                  clear hb4
                  go_wp2_with fail
                  refine (zInRange_any ch _ (by omega)).mono ?_
                  rintro e w5 ⟨rfl, rfl⟩
                  rw [HX1.out]
                  go_wp2_with fail
                  go_roundg (v.length - (p + (cap - p)))
                  case rel => exact ⟨p + (cap - p), some ⟨g, p, none⟩, rfl, by omega, by first | (simp; omega) | (simp; done), fun h => by exfalso; omega, HBR.out.trans (HB4.out.mono HBR.out.size), HX3⟩
                  case measure => have := HG2.out; omega
                · go_wp2_with fail
                  refine HDR.out.mono ?_
                  rintro e w4 ⟨rfl, hb4⟩
                  have HB4 := Lib.hid hb4
                  clear hb4
                  go_wp2_with fail
                  refine (zInRange_any ch _ (by omega)).mono ?_
                  rintro e w5 ⟨rfl, rfl⟩
                  rw [HX1.out]
                  go_wp2_with fail
                  go_roundg (v.length - (p + n))
                  case rel => exact ⟨p + n, _, rfl, by omega, by rw [Nat.sub_add_eq, Nat.sub_add_eq], fun h => by first | rfl | (exfalso; omega), HBR.out.trans (HB4.out.mono HBR.out.size), HX3⟩
                  case measure => have := HG2.out; omega
            · clear had
              have hd : decide ((0 : Int) < ((v.length - p : Nat) : Int)) = false := by rw [decide_eq_false_iff_not]; omega
              go_wp2_with fail
              exact HFIN.out (.slice (some ⟨g, 0, none⟩) v.length cap) _ (HB.out.keep fun g' _ cur' hc => (HBR.out.block g' (Blk.lt (t := 5) (cs := cur') hc)).trans hc) (H3.out.below HBR.out) (F3.out.trans (Fr.below HBR.out (Nat.le_refl _) H3.out.parts.2.2.1))
      · have e60 : ((s[k].toNat : Int) == 60) = false := u8_ne 60 rfl hn60
        have e38 : ((s[k].toNat : Int) == 38) = false := u8_ne 38 rfl hn38
        have e14 : ((s[k].toNat : Int) == 13) = false := u8_ne 13 rfl hn13
        have e13 := E13.out
        have HN13 := Lib.hid hn13
        have HX2 := Lib.hid hx2
        have HV0 := Lib.hid hv0
        clear hn60 hn38 hn13 hx2 hv0 hnq
        as_aux_lemma =>
          go_wp2_with fail
          refine (WriteByteB s[k] H2.out (by omega)).mono ?_
          rintro e w3 ⟨rfl, h1, hf1⟩
          have H3 := Lib.hid h1
          have F3 := Lib.hid (F2.out.trans hf1)
          clear h1 hf1
          go_wp2_with fail
          go_roundg (s.size - (k + 1))
          case rel => exact ⟨k + 1, true, acc ++ [s[k]], v2, b1, s[k], rfl, by omega, rfl, rfl, rfl, HN13.out, by rw [List.length_append, List.length_singleton]; omega, H3.out, F3.out, Lib.hid ⟨HX2.out, by rw [HVV.out, HV0.out]; simp⟩⟩
          case measure => have := HG.out; omega
      · have hsk38 := hk38
        obtain ⟨hjs2, h59s, hsubn, hdr2, hgetn⟩ := ref_place hsub
        have e60 : ((s[k].toNat : Int) == 60) = false := u8_ne 60 rfl (by rw [hk38]; decide)
        have e38 : ((s[k].toNat : Int) == 38) = true := u8_eq 38 rfl hk38
        have hk1 : k + 1 < s.size := by omega
        have HV0 := Lib.hid hv0
        have HX2 := Lib.hid hx2
        have HDR2 := Lib.hid hdr2
        have HSUBN := Lib.hid hsubn
        have HGN := Lib.hid hgetn
        have H59S := Lib.hid h59s
        have HENT := Lib.hid hent
        have HNM59 := Lib.hid h59
        clear hv0 hx2 hdr2 hsubn hgetn h59s hent h59 hsub hsk38 hk38
        go_wp2_with fail
        refine (LenB H2.out).mono ?_
        rintro e w3 ⟨rfl, h1, hf1⟩
        have H3 := Lib.hid h1
        have F3 := Lib.hid (F2.out.trans hf1)
        clear h1 hf1
        go_wp2_with fail
        refine (WriteByteN 38 38 rfl H3.out (by omega)).mono ?_
        rintro e w4 ⟨rfl, h1, hf1⟩
        have H4 := Lib.hid h1
        have F4 := Lib.hid (F3.out.trans hf1)
        clear h1 hf1 H3 F3
        go_wp2_with fail
        rcases HENT.out with ⟨_, c, hmem⟩ | ⟨ds, n, hd1, hd2, hd3, hd4⟩ | ⟨ds, n, hd1, hd2, hd3, hd4⟩
        · as_aux_lemma =>
            obtain ⟨⟨hn1, hn4⟩, hn2, hn3, hn5⟩ := entNames_props hmem
            have hnl : 0 < nm.length := List.length_pos_iff.2 hn1
            obtain ⟨hf0, hn35⟩ := hn3 hnl
            have hs1 : s[k + 1] = nm[0] := HGN.out 0 hnl
            have e35 : ((s[k + 1].toNat : Int) == 35) = false := u8_ne 35 rfl (by rw [hs1]; exact hn35)
            have HMEM := Lib.hid hmem
            have HN2 := Lib.hid hn2
            have HN5 := Lib.hid hn5
            have HF0 := Lib.hid hf0
            clear hmem hn2 hn3 hn5 hf0 hs1 hn1 hn35
            refine (mustgetcB H4.out hk1).mono ?_
            rintro e w5 ⟨rfl, h1, hf1⟩
            have H5 := Lib.hid h1
            have F5 := Lib.hid (F4.out.trans hf1)
            clear h1 hf1 H4 F4
            go_wp2_with fail
            refine (ungetcB H5.out hk1).mono ?_
            rintro e w6 ⟨rfl, h1, hf1⟩
            have H6 := Lib.hid h1
            have F6 := Lib.hid (F5.out.trans hf1)
            clear h1 hf1 H5 F5
            go_wp2_with fail
            refine (readNameB (k + 1 + nm.length) H6.out (by omega) hjs2 (fun x hx h1 h2 => ?_) (by rw [H59S.out]; decide) (by rw [H59S.out]; decide) (by rw [List.length_append, List.length_singleton]; omega)).mono ?_
            · have := HGN.out (x - (k + 1)) (by omega)
              have hxx : s[x] = s[k + 1 + (x - (k + 1))]'(by omega) := by congr 1; omega
              rw [hxx, this]
              exact HN2.out _ (List.getElem_mem _)
            rintro e w7 ⟨rfl, h1, hf1⟩
            rw [HSUBN.out] at h1
            have H7 := Lib.hid h1
            have F7 := Lib.hid (F6.out.trans hf1)
            clear h1 hf1 H6 F6
            have e59 : ((s[k + 1 + nm.length].toNat : Int) != 59) = false := u8_bne 59 rfl H59S.out
            go_wp2_with fail
            refine (mustgetcB H7.out hjs2).mono ?_
            rintro e w8 ⟨rfl, h1, hf1⟩
            obtain ⟨T, hT0⟩ : ∃ T, acc ++ [38] ++ nm = T := ⟨_, rfl⟩
            rw [hT0] at h1
            have HTL : Hid (T.length = acc.length + 1 + nm.length) := Lib.hid (by rw [← hT0]; simp; omega)
            have hT2 : T = T.take (acc.length + 1) ++ nm := by rw [← hT0, List.take_left' (by simp)]
            have hT3 : (T ++ [59]).take acc.length = acc := by rw [← hT0, List.append_assoc, List.append_assoc, List.take_left']; rfl
            have H8 := Lib.hid h1
            have F8 := Lib.hid (F7.out.trans hf1)
            have HT2 := Lib.hid hT2
            have HT3 := Lib.hid hT3
            clear h1 hf1 H7 F7 hT2 hT3 hT0
            go_wp2_with fail
            refine (BytesB H8.out).mono ?_
            rintro e w9 ⟨buf, rfl, hlow, hbuf, h3, hf3⟩
            have H9 := Lib.hid h3
            have F9 := Lib.hid (F8.out.trans hf3)
            clear h3 hf3 H8 F8
            rcases hbuf.cases with ⟨rfl, hnil⟩ | ⟨g, cap, cur, rfl, hg, hlc, hm, hcs, ht⟩
            · have hTl := HTL.out; rw [hnil] at hTl; simp at hTl; omega
            have HLOW := Lib.hid hlow
            have hm' := hm
            unfold maxLen at hm'
            clear hbuf hlow hg hcs ht hm
            have q1 : IntKind.i64.wrap ((acc.length : Int) + 1) = (acc.length : Int) + 1 := by rw [IntKind.wrap_i64]; omega
            have q3 : ((acc.length : Int) + 1).toNat = acc.length + 1 := by omega
            have q4 : (acc.length : Int) + 1 ≤ (T.length : Int) := by have := HTL.out; omega
            have q5 : (0 : Int) ≤ (acc.length : Int) + 1 := by omega
            have q6 : ¬ cap = acc.length + 1 := by have := HTL.out; omega
            have q7 : acc.length + 1 ≤ T.length := by have := HTL.out; omega
            have HNM2 : Hid (T.length - (acc.length + 1) = nm.length) := Lib.hid (by have := HTL.out; omega)
            have hT4 : T.length + 1 ≤ 5000000 := by have := HTL.out; omega
            go_wp2_with fail
            refine (WriteByteK 59 59 rfl g cap H9.out HLOW.out hT4 (by omega)).mono ?_
            rintro e w10 ⟨rfl, h1, hf1, cur2, hg2, ht2⟩
            have H10 := Lib.hid h1
            have F10 := Lib.hid (F9.out.trans hf1)
            have HG2 := Lib.hid hg2
            have HTT := Lib.hid ht2
            have hgl : g < w10.heap.size := Blk.lt (t := 5) (cs := cur2) hg2
            clear h1 hf1 hg2 ht2 H9 F9
            go_wp2_with fail
            refine (isName_at g (acc.length + 1) (T.length - (acc.length + 1)) (cap - (acc.length + 1)) nm w10 HNM2.out.symm (by have := HTL.out; omega) (by omega) (by omega) (piece_cell HG2.out HTT.out HT2.out q7) hgl HN2.out (fun _ => HF0.out)).mono ?_
            rintro e w11 ⟨rfl, hb11⟩
            have hg11 : w11.heap[g]? = some (.cells cur2 5 (0, 0)) := (hb11.block g hgl).trans HG2.out
            have hconv : (convert 77 9 (.slice (some ⟨g, acc.length + 1, none⟩) (T.length - (acc.length + 1)) (cap - (acc.length + 1)))).run Tryz.prog w11 = .ok (.string (bst nm)) w11 := run_piece_string hg11 HTT.out HT2.out q7 HNM2.out.symm
            have H11 := Lib.hid (H10.out.below hb11)
            have F11 := Lib.hid (F10.out.trans (Fr.below hb11 (Nat.le_refl _) H10.out.parts.2.2.1))
            clear hb11 hg11 H10 F10 HG2
            go_wp2_with fail
            refine (entity_any nm c HMEM.out w11).mono ?_
            rintro e w12 ⟨rfl, rfl⟩
            have hout : Utf8.encode ((c.toNat : Nat) : Int) = bst [c] := ba_ext (by rw [utf8_encode, bst_toList, HN5.out])
            clear hconv
            go_wp2_with fail
            refine (TruncateB acc.length H11.out (by rw [List.length_append]; have := HTL.out; omega)).mono ?_
            rintro e w13 ⟨rfl, h1, hf1⟩
            rw [HT3.out] at h1
            have H13 := Lib.hid h1
            have F13 := Lib.hid (F11.out.trans hf1)
            clear h1 hf1 H11 F11
            go_wp2_with fail
            have hl13 : acc.length + (bst [c]).size ≤ 5000000 := by rw [bst_size, List.length_singleton]; omega
            refine (WriteStringB (bst [c]) H13.out hl13).mono ?_
            rintro e w14 ⟨rfl, h1, hf1⟩
            have H14 := Lib.hid h1
            have F14 := Lib.hid (F13.out.trans hf1)
            clear h1 hf1 H13 F13
            go_wp2_with fail
            go_roundg (s.size - (k + 1 + nm.length + 1))
            case rel => exact ⟨k + 1 + nm.length + 1, true, acc ++ [c], v2, 0, 0, rfl, by omega, rfl, rfl, rfl, by decide, by rw [List.length_append, List.length_singleton]; omega, H14.out, F14.out, Lib.hid ⟨by rw [HDR2.out]; exact HX2.out, by rw [HVV.out, HV0.out]; simp⟩⟩
            case measure => have := HG.out; omega
        · as_aux_lemma =>
            have hs1 : s[k + 1] = 35 := (HGN.out 0 (Nat.succ_pos _)).trans (List.getElem_cons_zero ..)
            have hm5 := mustgetcB H4.out hk1
            rw [show ((s[k + 1]'hk1).toNat : Int) = 35 by rw [hs1]; rfl] at hm5
            have HM5 := Lib.hid hm5
            clear hm5
            have hdl : 1 ≤ ds.length := by
              rcases Nat.eq_zero_or_pos ds.length with h | h
              · exact absurd (List.eq_nil_of_length_eq_zero h) hd1
              · exact h
            have HD1 := Lib.hid hd1
            have HD2 := Lib.hid hd2
            have HD3 := Lib.hid hd3
            have HD4 := Lib.hid hd4
            obtain ⟨hns, hat⟩ := digits_at (pre := [35]) (ds := ds) (o := 2) rfl rfl hjs2 H59S.out HGN.out
            have HAT := Lib.hid hat
            clear hat
            clear hd2 hd3 hd4 hs1 hd1
            refine HM5.out.mono ?_
            rintro e w5 ⟨rfl, h1, hf1⟩
            have H5 := Lib.hid h1
            have F5 := Lib.hid (F4.out.trans hf1)
            clear h1 hf1 H4 F4
            go_wp2_with fail
            refine (WriteByteN 35 35 rfl H5.out (by rw [List.length_append, List.length_singleton]; omega)).mono ?_
            rintro e w6 ⟨rfl, h1, hf1⟩
            have H6 := Lib.hid h1
            have F6 := Lib.hid (F5.out.trans hf1)
            clear h1 hf1 H5 F5
            go_wp2_with fail
            refine (mustgetcB H6.out (by omega)).mono ?_
            rintro e w7 ⟨rfl, h1, hf1⟩
            have H7 := Lib.hid h1
            have F7 := Lib.hid (F6.out.trans hf1)
            clear h1 hf1 H6 F6
            obtain ⟨c0, hc0⟩ : ∃ c, s[k + 1 + 1]'(by omega) = c := ⟨_, rfl⟩
            have hat0 := HAT.out 0 (by omega) (Nat.zero_le _)
            rw [show s[k + 2 + 0]'(by omega) = c0 from hc0] at hat0
            rw [hc0]
            have HAT0 := Lib.hid hat0
            have e120 : ((c0.toNat : Int) == 120) = false := by
              rw [List.getElem?_append_left (by omega), List.getElem?_eq_getElem (by omega)] at hat0
              refine u8_ne 120 rfl fun e => ?_
              have := HD2.out c0 (by rw [← Option.some.inj hat0]; exact List.getElem_mem _)
              rw [e] at this
              exact absurd this (by decide)
            clear hat0 hc0
            obtain ⟨T0, hT0⟩ : ∃ T, acc ++ [38] ++ [35] = T := ⟨_, rfl⟩
            have HT0 := Lib.hid hT0
            have H7 := Lib.hid (hT0 ▸ H7.out)
            have HT0L : Hid (T0.length = acc.length + 2) := Lib.hid (by rw [← hT0]; simp)
            clear hT0
            go_wp2_with fail
            refine (LenB H7.out).mono ?_
            rintro e w8 ⟨rfl, h1, hf1⟩
            have H8 := Lib.hid h1
            have F8 := Lib.hid (F7.out.trans hf1)
            clear h1 hf1 H7 F7
            go_wp2_with fail
            go_loopg [10, 13] ds.length (fun gi bv okv wr => ∃ (i : Nat) (c : UInt8), gi = ds.length - i ∧ i ≤ ds.length ∧ bv = .int .u8 c.toNat ∧ okv = .bool true ∧ LowB M wr L s (k + 2 + 1 + i) true (T0 ++ ds.take i) ∧ Fr M w wr ∧ Hid ((ds ++ [59])[i]? = some c))
            case atStart => exact ⟨0, c0, rfl, Nat.zero_le _, rfl, rfl, by simpa using H8.out, F8.out, HAT0⟩
            case round =>
              obtain ⟨i, c, hgi, hil, rfl, rfl, hl, hf, HC⟩ := hrel
              have HL2 := Lib.hid hl
              have HFF := Lib.hid hf
              have HGI := Lib.hid hgi
              clear hl hf hgi H8 F8
              by_cases hid : i < ds.length
              · have hcd : c ∈ ds := by
                  have := HC.out
                  rw [List.getElem?_append_left hid] at this
                  exact List.mem_of_getElem? this
                have hcB := HD2.out c hcd
                have hci : ds.take i ++ [c] = ds.take (i + 1) := by
                  have := HC.out
                  rw [List.getElem?_append_left hid] at this
                  rw [List.take_add_one, this]
                  rfl
                have HCI := Lib.hid hci
                have hlim : (T0 ++ ds.take i).length + 1 ≤ 5000000 := by rw [List.length_append, List.length_take, HT0L.out]; omega
                have HLIM := Lib.hid hlim
                have hnx : k + 2 + 1 + i < s.size := by omega
                have HNX := HAT.out (i + 1) (by omega) (by omega)
                obtain ⟨c2, hc2⟩ : ∃ c2, s[k + 2 + 1 + i] = c2 := ⟨_, rfl⟩
                have HC2 : Hid ((ds ++ [59])[i + 1]? = some c2) := Lib.hid (by rw [HNX, ← hc2]; congr 1; congr 1; omega)
                have HS2 := Lib.hid hc2
                clear hcd hci hlim HNX hc2
                have hb := (decB_iff c).1 hcB
                have x1 : decide ((48 : Int) ≤ (c.toNat : Int)) = true := by rw [decide_eq_true_eq]; omega
                have x2 : decide ((c.toNat : Int) ≤ 57) = true := by rw [decide_eq_true_eq]; omega
                clear hcB hb
                go_wp2_with fail
                refine (WriteByteB c HL2.out HLIM.out).mono ?_
                rintro e w9 ⟨rfl, h1, hf1⟩
                rw [List.append_assoc, HCI.out] at h1
                have H9 := Lib.hid h1
                have F9 := Lib.hid (HFF.out.trans hf1)
                clear h1 hf1
                go_wp2_with fail
                have hmg := mustgetcB H9.out hnx
                rw [HS2.out] at hmg
                refine hmg.mono ?_
                rintro e w10 ⟨rfl, h1, hf1⟩
                have H10 := Lib.hid h1
                have F10 := Lib.hid (F9.out.trans hf1)
                clear h1 hf1 H9 F9 hmg
                go_wp2_with fail
                go_roundg (ds.length - (i + 1))
                case rel => exact ⟨i + 1, c2, rfl, by omega, rfl, rfl, H10.out, F10.out, HC2⟩
                case measure => have := HGI.out; omega
              · obtain rfl : i = ds.length := by omega
                have hc59 : c = 59 := by
                  have := HC.out
                  rw [List.getElem?_append_right (Nat.le_refl _), Nat.sub_self] at this
                  exact (Option.some.inj this).symm
                have x1 : decide ((48 : Int) ≤ (c.toNat : Int)) = true := by rw [hc59]; rfl
                have x2 : decide ((c.toNat : Int) ≤ 57) = false := by rw [hc59]; rfl
                have x3 : decide ((97 : Int) ≤ (c.toNat : Int)) = false := by rw [hc59]; rfl
                have x4 : decide ((65 : Int) ≤ (c.toNat : Int)) = false := by rw [hc59]; rfl
                have e59 : ((c.toNat : Int) != 59) = false := u8_bne 59 rfl hc59
                clear hc59 hid
                obtain ⟨T, hT0⟩ : ∃ T, T0 ++ ds = T := ⟨_, rfl⟩
                have HTL : Hid (T.length = T0.length + ds.length) := Lib.hid (by rw [← hT0]; simp)
                have HT2 : Hid (T = T.take T0.length ++ ds) := Lib.hid (by rw [← hT0, List.take_left' rfl])
                have HT3 : Hid ((T ++ [59]).take acc.length = acc) := Lib.hid (by rw [← hT0, ← HT0.out]; simp only [List.append_assoc]; rw [List.take_left' rfl])
                have hL3 := HL2.out
                rw [List.take_length, hT0] at hL3
                have H8 := Lib.hid hL3
                clear hL3 hT0
                go_wp2_with fail
                refine (BytesB H8.out).mono ?_
                rintro e w9 ⟨buf, rfl, hlow, hbuf, h3, hf3⟩
                have H9 := Lib.hid h3
                have F9 := Lib.hid (HFF.out.trans hf3)
                clear h3 hf3 H8
                rcases hbuf.cases with ⟨rfl, hnil⟩ | ⟨g, cap, cur, rfl, hg, hlc, hm, hcs, ht⟩
                · have hTl := HTL.out; rw [hnil] at hTl; simp at hTl; omega
                have hm' := hm
                unfold maxLen at hm'
                have q4 : (T0.length : Int) ≤ (T.length : Int) := by have := HTL.out; omega
                have q6 : ¬ cap = T0.length := by have := HTL.out; omega
                have q7 : T0.length ≤ T.length := by have := HTL.out; omega
                have hT4 : T.length + 1 ≤ 5000000 := by have := HTL.out; have := HT0L.out; omega
                have hconv : (convert 77 9 (.slice (some ⟨g, T0.length, none⟩) (T.length - T0.length) (cap - T0.length))).run Tryz.prog w9 = .ok (.string (bst ds)) w9 := run_piece_string hg ht HT2.out q7 (by have := HTL.out; omega)
                clear hbuf hlow hg hcs ht hm
                go_wp2_with fail
                refine (WriteByteN 59 59 rfl H9.out hT4).mono ?_
                rintro e w10 ⟨rfl, h1, hf1⟩
                have H10 := Lib.hid h1
                have F10 := Lib.hid (F9.out.trans hf1)
                clear h1 hf1 H9 F9 hconv q4 q6 q7
                have hpu := pu_pub64 10 (by omega) (bst ds) n (by rw [bst_toList]; exact HD3.out) (by rw [bst_toList]; exact HD1.out) (by rw [bst_size]; omega) w10
                rw [show ((10 : Nat) : Int) = 10 from rfl] at hpu
                have HPU := Lib.hid hpu
                have hnb := isXChar_inv HD4.out
                have qn1 : wrap32 (n : Int) = (n : Int) := by unfold wrap32; omega
                have qn2 : decide ((n : Int) ≤ 1114111) = true := by rw [decide_eq_true_eq]; omega
                have hout : Utf8.encode (n : Int) = bst (encodeRune (n : Int)) := ba_ext (by rw [utf8_encode, bst_toList])
                clear hpu
                go_wp2_with fail
                refine HPU.out.mono ?_
                rintro e w11 ⟨rfl, hb11⟩
                have H11 := Lib.hid (H10.out.below hb11)
                have F11 := Lib.hid (F10.out.trans (Fr.below hb11 (Nat.le_refl _) H10.out.parts.2.2.1))
                clear hb11 H10 F10 hnb
                go_wp2_with fail
                refine (TruncateB acc.length H11.out (by rw [List.length_append]; have := HTL.out; have := HT0L.out; omega)).mono ?_
                rintro e w13 ⟨rfl, h1, hf1⟩
                rw [HT3.out] at h1
                have H13 := Lib.hid h1
                have F13 := Lib.hid (F11.out.trans hf1)
                clear h1 hf1 H11 F11
                go_wp2_with fail
                have hl13 : acc.length + (bst (encodeRune (n : Int))).size ≤ 5000000 := by rw [bst_size]; have := enc_len (n : Int); omega
                refine (WriteStringB (bst (encodeRune (n : Int))) H13.out hl13).mono ?_
                rintro e w14 ⟨rfl, h1, hf1⟩
                have H14 := Lib.hid h1
                have F14 := Lib.hid (F13.out.trans hf1)
                clear h1 hf1 H13 F13
                go_wp2_with fail
                go_roundg (s.size - (k + 2 + ds.length + 1))
                case rel => exact ⟨k + 2 + ds.length + 1, true, acc ++ encodeRune (n : Int), v2, 0, 0, rfl, by omega, rfl, rfl, rfl, by decide, by rw [List.length_append]; have := enc_len (n : Int); omega, by rw [show k + 2 + ds.length + 1 = k + 2 + 1 + ds.length by omega]; exact H14.out, F14.out, Lib.hid ⟨by have h := HDR2.out; simp only [List.length_cons] at h; rw [show k + 2 + ds.length + 1 = k + 1 + (ds.length + 1) + 1 by omega, h]; exact HX2.out, by rw [HVV.out, HV0.out]; simp⟩⟩
                case measure => have := HG.out; omega
        · as_aux_lemma =>
            have hs1 : s[k + 1] = 35 := (HGN.out 0 (Nat.succ_pos _)).trans (List.getElem_cons_zero ..)
            have hm5 := mustgetcB H4.out hk1
            rw [show ((s[k + 1]'hk1).toNat : Int) = 35 by rw [hs1]; rfl] at hm5
            have HM5 := Lib.hid hm5
            clear hm5
            have hdl : 1 ≤ ds.length := by
              rcases Nat.eq_zero_or_pos ds.length with h | h
              · exact absurd (List.eq_nil_of_length_eq_zero h) hd1
              · exact h
            have HD1 := Lib.hid hd1
            have HD2 := Lib.hid hd2
            have HD3 := Lib.hid hd3
            have HD4 := Lib.hid hd4
            obtain ⟨hns, hat⟩ := digits_at (pre := [35, 120]) (ds := ds) (o := 3) rfl rfl hjs2 H59S.out HGN.out
            have HAT := Lib.hid hat
            clear hat
            clear hd2 hd3 hd4 hs1 hd1
            refine HM5.out.mono ?_
            rintro e w5 ⟨rfl, h1, hf1⟩
            have H5 := Lib.hid h1
            have F5 := Lib.hid (F4.out.trans hf1)
            clear h1 hf1 H4 F4
            go_wp2_with fail
            refine (WriteByteN 35 35 rfl H5.out (by rw [List.length_append, List.length_singleton]; omega)).mono ?_
            rintro e w6 ⟨rfl, h1, hf1⟩
            have H6 := Lib.hid h1
            have F6 := Lib.hid (F5.out.trans hf1)
            clear h1 hf1 H5 F5
            go_wp2_with fail
            have hs2 : s[k + 1 + 1]'(by omega) = 120 := (HGN.out 1 (by simp)).trans (by rw [List.getElem_cons_succ, List.getElem_cons_zero])
            have hm6 := mustgetcB H6.out (by omega : k + 1 + 1 < s.size)
            rw [show ((s[k + 1 + 1]'(by omega)).toNat : Int) = 120 by rw [hs2]; rfl] at hm6
            refine hm6.mono ?_
            rintro e w7 ⟨rfl, h1, hf1⟩
            have H7 := Lib.hid h1
            have F7 := Lib.hid (F6.out.trans hf1)
            clear h1 hf1 H6 F6
            clear hs2 hm6
            go_wp2_with fail
            refine (WriteByteN 120 120 rfl H7.out (by rw [List.length_append, List.length_append, List.length_singleton, List.length_singleton]; omega)).mono ?_
            rintro e w7 ⟨rfl, h1, hf1⟩
            have H7 := Lib.hid h1
            have F7 := Lib.hid (F7.out.trans hf1)
            clear h1 hf1
            go_wp2_with fail
            refine (mustgetcB H7.out (by omega)).mono ?_
            rintro e w7 ⟨rfl, h1, hf1⟩
            have H7 := Lib.hid h1
            have F7 := Lib.hid (F7.out.trans hf1)
            clear h1 hf1
            obtain ⟨c0, hc0⟩ : ∃ c, s[k + 1 + 1 + 1]'(by omega) = c := ⟨_, rfl⟩
            have hat0 := HAT.out 0 (by omega) (Nat.zero_le _)
            rw [show s[k + 3 + 0]'(by omega) = c0 from hc0] at hat0
            rw [hc0]
            have HAT0 := Lib.hid hat0
            clear hat0 hc0
            obtain ⟨T0, hT0⟩ : ∃ T, acc ++ [38] ++ [35] ++ [120] = T := ⟨_, rfl⟩
            have HT0 := Lib.hid hT0
            have H7 := Lib.hid (hT0 ▸ H7.out)
            have HT0L : Hid (T0.length = acc.length + 3) := Lib.hid (by rw [← hT0]; simp)
            clear hT0
            go_wp2_with fail
            refine (LenB H7.out).mono ?_
            rintro e w8 ⟨rfl, h1, hf1⟩
            have H8 := Lib.hid h1
            have F8 := Lib.hid (F7.out.trans hf1)
            clear h1 hf1 H7 F7
            go_wp2_with fail
            go_loopg [10, 13] ds.length (fun gi bv okv wr => ∃ (i : Nat) (c : UInt8), gi = ds.length - i ∧ i ≤ ds.length ∧ bv = .int .u8 c.toNat ∧ okv = .bool true ∧ LowB M wr L s (k + 3 + 1 + i) true (T0 ++ ds.take i) ∧ Fr M w wr ∧ Hid ((ds ++ [59])[i]? = some c))
            case atStart => exact ⟨0, c0, rfl, Nat.zero_le _, rfl, rfl, by simpa using H8.out, F8.out, HAT0⟩
            case round =>
              obtain ⟨i, c, hgi, hil, rfl, rfl, hl, hf, HC⟩ := hrel
              have HL2 := Lib.hid hl
              have HFF := Lib.hid hf
              have HGI := Lib.hid hgi
              clear hl hf hgi H8 F8
              by_cases hid : i < ds.length
              · have hcd : c ∈ ds := by
                  have := HC.out
                  rw [List.getElem?_append_left hid] at this
                  exact List.mem_of_getElem? this
                have hcB := HD2.out c hcd
                have hci : ds.take i ++ [c] = ds.take (i + 1) := by
                  have := HC.out
                  rw [List.getElem?_append_left hid] at this
                  rw [List.take_add_one, this]
                  rfl
                have HCI := Lib.hid hci
                have hlim : (T0 ++ ds.take i).length + 1 ≤ 5000000 := by rw [List.length_append, List.length_take, HT0L.out]; omega
                have HLIM := Lib.hid hlim
                have hnx : k + 3 + 1 + i < s.size := by omega
                have HNX := HAT.out (i + 1) (by omega) (by omega)
                obtain ⟨c2, hc2⟩ : ∃ c2, s[k + 3 + 1 + i] = c2 := ⟨_, rfl⟩
                have HC2 : Hid ((ds ++ [59])[i + 1]? = some c2) := Lib.hid (by rw [HNX, ← hc2]; congr 1; congr 1; omega)
                have HS2 := Lib.hid hc2
                clear hcd hci hlim HNX hc2
                rcases (hexB_iff c).1 hcB with hb | hb | hb
                · have x0 : decide ((48 : Int) ≤ (c.toNat : Int)) = true := by rw [decide_eq_true_eq]; omega
                  have x1 : decide ((c.toNat : Int) ≤ 57) = true := by rw [decide_eq_true_eq]; omega
                  clear hcB hb
                  go_wp2_with fail
                  refine (WriteByteB c HL2.out HLIM.out).mono ?_
                  rintro e w9 ⟨rfl, h1, hf1⟩
                  rw [List.append_assoc, HCI.out] at h1
                  have H9 := Lib.hid h1
                  have F9 := Lib.hid (HFF.out.trans hf1)
                  clear h1 hf1
                  go_wp2_with fail
                  have hmg := mustgetcB H9.out hnx
                  rw [HS2.out] at hmg
                  refine hmg.mono ?_
                  rintro e w10 ⟨rfl, h1, hf1⟩
                  have H10 := Lib.hid h1
                  have F10 := Lib.hid (F9.out.trans hf1)
                  clear h1 hf1 H9 F9 hmg
                  go_wp2_with fail
                  go_roundg (ds.length - (i + 1))
                  case rel => exact ⟨i + 1, c2, rfl, by omega, rfl, rfl, H10.out, F10.out, HC2⟩
                  case measure => have := HGI.out; omega
                · have x0 : decide ((48 : Int) ≤ (c.toNat : Int)) = true := by rw [decide_eq_true_eq]; omega
                  have x1 : decide ((c.toNat : Int) ≤ 57) = false := by rw [decide_eq_false_iff_not]; omega
                  have x2 : decide ((97 : Int) ≤ (c.toNat : Int)) = true := by rw [decide_eq_true_eq]; omega
                  have x3 : decide ((c.toNat : Int) ≤ 102) = true := by rw [decide_eq_true_eq]; omega
                  clear hcB hb
                  go_wp2_with fail
                  refine (WriteByteB c HL2.out HLIM.out).mono ?_
                  rintro e w9 ⟨rfl, h1, hf1⟩
                  rw [List.append_assoc, HCI.out] at h1
                  have H9 := Lib.hid h1
                  have F9 := Lib.hid (HFF.out.trans hf1)
                  clear h1 hf1
                  go_wp2_with fail
                  have hmg := mustgetcB H9.out hnx
                  rw [HS2.out] at hmg
                  refine hmg.mono ?_
                  rintro e w10 ⟨rfl, h1, hf1⟩
                  have H10 := Lib.hid h1
                  have F10 := Lib.hid (F9.out.trans hf1)
                  clear h1 hf1 H9 F9 hmg
                  go_wp2_with fail
                  go_roundg (ds.length - (i + 1))
                  case rel => exact ⟨i + 1, c2, rfl, by omega, rfl, rfl, H10.out, F10.out, HC2⟩
                  case measure => have := HGI.out; omega
                · have x0 : decide ((48 : Int) ≤ (c.toNat : Int)) = true := by rw [decide_eq_true_eq]; omega
                  have x1 : decide ((c.toNat : Int) ≤ 57) = false := by rw [decide_eq_false_iff_not]; omega
                  have x2 : decide ((97 : Int) ≤ (c.toNat : Int)) = false := by rw [decide_eq_false_iff_not]; omega
                  have x3 : decide ((65 : Int) ≤ (c.toNat : Int)) = true := by rw [decide_eq_true_eq]; omega
                  have x4 : decide ((c.toNat : Int) ≤ 70) = true := by rw [decide_eq_true_eq]; omega
                  clear hcB hb
                  go_wp2_with fail
                  refine (WriteByteB c HL2.out HLIM.out).mono ?_
                  rintro e w9 ⟨rfl, h1, hf1⟩
                  rw [List.append_assoc, HCI.out] at h1
                  have H9 := Lib.hid h1
                  have F9 := Lib.hid (HFF.out.trans hf1)
                  clear h1 hf1
                  go_wp2_with fail
                  have hmg := mustgetcB H9.out hnx
                  rw [HS2.out] at hmg
                  refine hmg.mono ?_
                  rintro e w10 ⟨rfl, h1, hf1⟩
                  have H10 := Lib.hid h1
                  have F10 := Lib.hid (F9.out.trans hf1)
                  clear h1 hf1 H9 F9 hmg
                  go_wp2_with fail
                  go_roundg (ds.length - (i + 1))
                  case rel => exact ⟨i + 1, c2, rfl, by omega, rfl, rfl, H10.out, F10.out, HC2⟩
                  case measure => have := HGI.out; omega
              · obtain rfl : i = ds.length := by omega
                have hc59 : c = 59 := by
                  have := HC.out
                  rw [List.getElem?_append_right (Nat.le_refl _), Nat.sub_self] at this
                  exact (Option.some.inj this).symm
                have x1 : decide ((48 : Int) ≤ (c.toNat : Int)) = true := by rw [hc59]; rfl
                have x2 : decide ((c.toNat : Int) ≤ 57) = false := by rw [hc59]; rfl
                have x3 : decide ((97 : Int) ≤ (c.toNat : Int)) = false := by rw [hc59]; rfl
                have x4 : decide ((65 : Int) ≤ (c.toNat : Int)) = false := by rw [hc59]; rfl
                have e59 : ((c.toNat : Int) != 59) = false := u8_bne 59 rfl hc59
                clear hc59 hid
                obtain ⟨T, hT0⟩ : ∃ T, T0 ++ ds = T := ⟨_, rfl⟩
                have HTL : Hid (T.length = T0.length + ds.length) := Lib.hid (by rw [← hT0]; simp)
                have HT2 : Hid (T = T.take T0.length ++ ds) := Lib.hid (by rw [← hT0, List.take_left' rfl])
                have HT3 : Hid ((T ++ [59]).take acc.length = acc) := Lib.hid (by rw [← hT0, ← HT0.out]; simp only [List.append_assoc]; rw [List.take_left' rfl])
                have hL3 := HL2.out
                rw [List.take_length, hT0] at hL3
                have H8 := Lib.hid hL3
                clear hL3 hT0
                go_wp2_with fail
                refine (BytesB H8.out).mono ?_
                rintro e w9 ⟨buf, rfl, hlow, hbuf, h3, hf3⟩
                have H9 := Lib.hid h3
                have F9 := Lib.hid (HFF.out.trans hf3)
                clear h3 hf3 H8
                rcases hbuf.cases with ⟨rfl, hnil⟩ | ⟨g, cap, cur, rfl, hg, hlc, hm, hcs, ht⟩
                · have hTl := HTL.out; rw [hnil] at hTl; simp at hTl; omega
                have hm' := hm
                unfold maxLen at hm'
                have q4 : (T0.length : Int) ≤ (T.length : Int) := by have := HTL.out; omega
                have q6 : ¬ cap = T0.length := by have := HTL.out; omega
                have q7 : T0.length ≤ T.length := by have := HTL.out; omega
                have hT4 : T.length + 1 ≤ 5000000 := by have := HTL.out; have := HT0L.out; omega
                have hconv : (convert 77 9 (.slice (some ⟨g, T0.length, none⟩) (T.length - T0.length) (cap - T0.length))).run Tryz.prog w9 = .ok (.string (bst ds)) w9 := run_piece_string hg ht HT2.out q7 (by have := HTL.out; omega)
                clear hbuf hlow hg hcs ht hm
                go_wp2_with fail
                refine (WriteByteN 59 59 rfl H9.out hT4).mono ?_
                rintro e w10 ⟨rfl, h1, hf1⟩
                have H10 := Lib.hid h1
                have F10 := Lib.hid (F9.out.trans hf1)
                clear h1 hf1 H9 F9 hconv q4 q6 q7
                have hpu := pu_pub64 16 (by omega) (bst ds) n (by rw [bst_toList]; exact HD3.out) (by rw [bst_toList]; exact HD1.out) (by rw [bst_size]; omega) w10
                rw [show ((16 : Nat) : Int) = 16 from rfl] at hpu
                have HPU := Lib.hid hpu
                have hnb := isXChar_inv HD4.out
                have qn1 : wrap32 (n : Int) = (n : Int) := by unfold wrap32; omega
                have qn2 : decide ((n : Int) ≤ 1114111) = true := by rw [decide_eq_true_eq]; omega
                have hout : Utf8.encode (n : Int) = bst (encodeRune (n : Int)) := ba_ext (by rw [utf8_encode, bst_toList])
                clear hpu
                go_wp2_with fail
                refine HPU.out.mono ?_
                rintro e w11 ⟨rfl, hb11⟩
                have H11 := Lib.hid (H10.out.below hb11)
                have F11 := Lib.hid (F10.out.trans (Fr.below hb11 (Nat.le_refl _) H10.out.parts.2.2.1))
                clear hb11 H10 F10 hnb
                go_wp2_with fail
                refine (TruncateB acc.length H11.out (by rw [List.length_append]; have := HTL.out; have := HT0L.out; omega)).mono ?_
                rintro e w13 ⟨rfl, h1, hf1⟩
                rw [HT3.out] at h1
                have H13 := Lib.hid h1
                have F13 := Lib.hid (F11.out.trans hf1)
                clear h1 hf1 H11 F11
                go_wp2_with fail
                have hl13 : acc.length + (bst (encodeRune (n : Int))).size ≤ 5000000 := by rw [bst_size]; have := enc_len (n : Int); omega
                refine (WriteStringB (bst (encodeRune (n : Int))) H13.out hl13).mono ?_
                rintro e w14 ⟨rfl, h1, hf1⟩
                have H14 := Lib.hid h1
                have F14 := Lib.hid (F13.out.trans hf1)
                clear h1 hf1 H13 F13
                go_wp2_with fail
                go_roundg (s.size - (k + 3 + ds.length + 1))
                case rel => exact ⟨k + 3 + ds.length + 1, true, acc ++ encodeRune (n : Int), v2, 0, 0, rfl, by omega, rfl, rfl, rfl, by decide, by rw [List.length_append]; have := enc_len (n : Int); omega, by rw [show k + 3 + ds.length + 1 = k + 3 + 1 + ds.length by omega]; exact H14.out, F14.out, Lib.hid ⟨by have h := HDR2.out; simp only [List.length_cons] at h; rw [show k + 3 + ds.length + 1 = k + 1 + (ds.length + 2) + 1 by omega, h]; exact HX2.out, by rw [HVV.out, HV0.out]; simp⟩⟩
                case measure => have := HG.out; omega
end Go.Proofs.YtlljphipglgjiaaGreatDoor
