/-
  spec.xReader.text.
-/
import Derived.Test.YtlljphipglgjiaaGreatDoorXmRef2
import Derived.StillTailTactics
import Derived.Deep.RegionHeld3
namespace Go.Proofs.YtlljphipglgjiaaGreatDoor
open Go.RowKit Go.Lib
set_option linter.unusedSimpArgs false

theorem quiet_xchar (c : Int) (w : World) : Calls Tryz.prog 57 #[.int .i32 c] w fun e w' => e = .returned (.bool (isXCharI c)) ∧ w' = w :=
  (xChar_any c w).mono fun _ _ h => ⟨h.1, h.2.symm⟩

/-- Where a text's reading stands: behind acc, at place k; F fuel at the start. -/
def TxtAt (a c : UInt8) (s : ByteArray) (i k : Nat) (acc : List UInt8) (bd : Bool) (F : Nat) : Prop :=
  i ≤ k ∧ acc.length ≤ 4 * (k - i) ∧ (bd = false → ∃ f, (s.data.toList.drop k).length < f ∧ txtF a c F (s.data.toList.drop i) = (txtF a c f (s.data.toList.drop k)).map fun q => (acc ++ q.1, q.2)) ∧ (bd = true → txtF a c F (s.data.toList.drop i) = none)

theorem txt_at_end {a c : UInt8} {s : ByteArray} {i k : Nat} {acc : List UInt8} {bd : Bool} {F : Nat} {M : Nat → Prop} {b : Nat} {w wr : World} (h : TxtAt a c s i k acc bd F) (hr : RdM M wr b s k bd) (hf : Fr M w wr)
    (hend : bd = true ∨ k = s.size ∨ ∃ hk : k < s.size, s[k] = a ∨ s[k] = c) (n : Nat) : StrPost M b s i w (txtF a c F (s.data.toList.drop i)) (.returned (.string (bst acc))) (wr.drewN n) := by
  refine ⟨acc, k, bd, rfl, hr, hf.drewN n, h.1, h.2.1, ?_⟩
  cases bd with
  | true => rw [h.2.2.2 rfl]
  | false =>
    obtain ⟨f, hlt, he⟩ := h.2.2.1 rfl
    obtain ⟨g, rfl⟩ : ∃ g, f = g + 1 := ⟨f - 1, by omega⟩
    rcases hend with h0 | rfl | ⟨hk, h0⟩
    · cases h0
    · have hd : s.data.toList.drop s.size = [] := List.drop_of_length_le (by rw [list_size]; exact Nat.le_refl _)
      rw [he, hd]
      simp [txtF]
    · rw [he, drop_cons s k hk, txtF, if_pos h0]
      simp

theorem byte_38 {l t : List UInt8} {x : UInt8} {ch : Nat} (hl : l = x :: t) (hc : (decodeL l).1 = ch) (h : ch = 38) : x = 38 := by
  subst hl
  subst hc
  rw [decodeL_N] at h
  have k0 := x.toNat_lt
  simp only [List.getD_cons_zero] at h
  rcases decodeN_shape (x :: t).length x.toNat ((x :: t).getD 1 0).toNat ((x :: t).getD 2 0).toNat ((x :: t).getD 3 0).toNat with ⟨c, e⟩ | ⟨c1, c2, c3, cv, e⟩ | ⟨c1, c2, c3, c4, cv, cs, e⟩ | ⟨c1, c2, c3, c4, c5, cv, cw, e⟩ | e
  all_goals (rw [e] at h; simp only at h)
  · exact UInt8.toNat_inj.1 h
  all_goals omega
theorem bst_app (x y : List UInt8) : bst (x ++ y) = bst x ++ bst y := ba_ext (by rw [bst_toList, ByteArray.data_append, Array.toList_append, bst_toList, bst_toList])
section
variable {a c : UInt8} {s : ByteArray} {i k : Nat} {acc : List UInt8} {F : Nat}
theorem TxtAt.ref {j : Nat} {o : List UInt8} {bd : Bool} (h : TxtAt a c s i k acc false F) (hk : k < s.size) (h38 : s[k] = 38) (hna : s[k] ≠ a) (hnc : s[k] ≠ c) (hkj : k + 1 ≤ j) (hol : o.length ≤ 4 * (j - (k + 1)))
    (hm : match refL (s.data.toList.drop (k + 1)) with | some p => bd = false ∧ o = p.1 ∧ s.data.toList.drop j = p.2 | none => bd = true) : TxtAt a c s i j (acc ++ o) bd F := by
  obtain ⟨h1, h2, h3, -⟩ := h
  obtain ⟨f, hlt, he⟩ := h3 rfl
  have hlen : ∀ x, (s.data.toList.drop x).length = s.size - x := fun x => by rw [List.length_drop, list_size]
  rw [hlen] at hlt
  obtain ⟨g, rfl⟩ : ∃ g, f = g + 1 := ⟨f - 1, by omega⟩
  refine ⟨by omega, by rw [List.length_append]; omega, ?_, ?_⟩
  · rintro rfl
    refine ⟨g, by rw [hlen]; omega, ?_⟩
    rw [he, drop_cons s k hk, txtF, if_neg (by rintro (h | h); exact hna h; exact hnc h), if_pos h38]
    cases hr : refL (s.data.toList.drop (k + 1)) with
    | none => rw [hr] at hm; cases hm
    | some p =>
      rw [hr] at hm
      obtain ⟨-, rfl, h5⟩ := hm
      simp only
      rw [h5]
      cases txtF a c g p.2 <;> simp
  · rintro rfl
    rw [he, drop_cons s k hk, txtF, if_neg (by rintro (h | h); exact hna h; exact hnc h), if_pos h38]
    cases hr : refL (s.data.toList.drop (k + 1)) with
    | none => rfl
    | some p => rw [hr] at hm; cases hm.1
theorem TxtAt.raw {n : Nat} {l : List UInt8} (h : TxtAt a c s i k acc false F) (hl : s.data.toList.drop k = l) (hn : (decodeL l).2 = n) (hk : k < s.size) (h38 : s[k] ≠ 38) (hna : s[k] ≠ a) (hnc : s[k] ≠ c) (hn2 : n ≤ s.size - k) (hb : badCh l = false) : TxtAt a c s i (k + n) (acc ++ l.take n) false F := by
  have hn1 := decodeL_width l
  obtain ⟨h1, h2, h3, -⟩ := h
  obtain ⟨f, hlt, he⟩ := h3 rfl
  have hlen : ∀ x, (s.data.toList.drop x).length = s.size - x := fun x => by rw [List.length_drop, list_size]
  rw [hlen] at hlt
  obtain ⟨g, rfl⟩ : ∃ g, f = g + 1 := ⟨f - 1, by omega⟩
  refine ⟨by omega, by rw [List.length_append, List.length_take]; omega, fun _ => ⟨g, by rw [hlen]; omega, ?_⟩, fun h => nomatch h⟩
  have hc := drop_cons s k hk
  rw [hl] at hc
  rw [he, hl, hc, txtF, if_neg (by rintro (h | h); exact hna h; exact hnc h), if_neg h38, ← hc, if_neg (by rw [hb]; exact Bool.false_ne_true), hn]
  have : s.data.toList.drop (k + n) = l.drop n := by rw [← hl, List.drop_drop]
  rw [this]
  cases txtF a c g (l.drop n) <;> simp
theorem TxtAt.bad_ {n : Nat} {l : List UInt8} (h : TxtAt a c s i k acc false F) (hl : s.data.toList.drop k = l) (hn : (decodeL l).2 = n) (hk : k < s.size) (h38 : s[k] ≠ 38) (hna : s[k] ≠ a) (hnc : s[k] ≠ c) (_hn2 : n ≤ s.size - k) (hb : badCh l = true) : TxtAt a c s i (k + n) (acc ++ l.take n) true F := by
  have hn1 := decodeL_width l
  obtain ⟨h1, h2, h3, -⟩ := h
  obtain ⟨f, hlt, he⟩ := h3 rfl
  obtain ⟨g, rfl⟩ : ∃ g, f = g + 1 := ⟨f - 1, by omega⟩
  refine ⟨by omega, by rw [List.length_append, List.length_take]; omega, (fun h => nomatch h), fun _ => ?_⟩
  have hc := drop_cons s k hk
  rw [hl] at hc
  rw [he, hl, hc, txtF, if_neg (by rintro (h | h); exact hna h; exact hnc h), if_neg h38, ← hc, if_pos hb]
  rfl
end

set_option maxRecDepth 100000 in
set_option maxHeartbeats 20000000 in
theorem text_any (M : Nat → Prop) (b : Nat) (s : ByteArray) (i : Nat) (bad : Bool) (a c : UInt8) (w : World) (hR : RdM M w b s i bad) (hE : Errs M w) (F : Nat) (hF : s.size < F + i) (hbad : bad = false) :
    Calls Tryz.prog 104 #[.pointer (some ⟨b, 0, none⟩), .int .u8 a.toNat, .int .u8 c.toNat] w (StrPost M b s i w (txtF a c F (s.data.toList.drop i))) := by
  subst hbad
  have hb := hR.1
  have hss := hR.2.2.1
  have hi := hR.2.2.2.1
  obtain ⟨post, hpost⟩ : ∃ post, StrPost M b s i w (txtF a c F (s.data.toList.drop i)) = post := ⟨_, rfl⟩
  have hX : ∀ (k : Nat) (acc : List UInt8) (bd : Bool) (wr : World), TxtAt a c s i k acc bd F → RdM M wr b s k bd → Fr M w wr → (bd = true ∨ k = s.size ∨ ∃ hk : k < s.size, s[k] = a ∨ s[k] = c) → ∀ n, post (.returned (.string (bst acc))) (wr.drewN n) := by
    intro k acc bd wr h1 h2 h3 h4 n
    rw [← hpost]
    exact txt_at_end h1 h2 h3 h4 n
  rw [hpost]
  have HX := Lib.hid hX
  have HR := Lib.hid hR
  have HE := Lib.hid hE
  clear hpost hX hR hE
  go_enter Tryz.func104, Tryz.ntmps104
  go_wp2_with fail
  go_loopg [7] (s.size - i + 1) (fun g ov wr => ∃ (k : Nat) (acc : List UInt8) (bd : Bool), g = (if bd then 0 else s.size - k + 1) ∧ ov = .string (bst acc) ∧ RdM M wr b s k bd ∧ Fr M w wr ∧ Hid (TxtAt a c s i k acc bd F))
  case atStart => exact ⟨i, [], false, by simp, rfl, HR.out, Fr.refl _ _, Lib.hid ⟨Nat.le_refl _, by simp, fun _ => ⟨F, by rw [List.length_drop, list_size]; omega, by cases txtF a c F (s.data.toList.drop i) <;> simp⟩, fun h => nomatch h⟩⟩
  case round =>
    obtain ⟨k, acc, bd, hg, rfl, hr, hf, HT⟩ := hrel
    have c0 := hr.c0
    have c1 := hr.c1
    have c2 := hr.c2
    have fz := hr.2.2.2.2.frozen
    have hk := hr.2.2.2.1
    have HR2 := Lib.hid hr
    have HF2 := Lib.hid hf
    have HG := Lib.hid hg
    clear hr hf hg HR
    by_cases hks : k < s.size
    · have HEA : ∀ x : UInt8, s[k] = x → ((s[k].toNat : Int) != (x.toNat : Int)) = false := fun x h => by rw [h]; exact bne_self_eq_false _
      have HNA : ∀ x : UInt8, s[k] ≠ x → ((s[k].toNat : Int) != (x.toNat : Int)) = true := fun x h => by
        rw [bne_iff_ne]
        intro e
        exact h (UInt8.toNat_inj.1 (by omega))
      by_cases hka : s[k] = a
      · have e1 := HEA a hka
        have HKA := Lib.hid hka
        clear hka HEA HNA
        go_wp2_with fail
        go_quiet (fail)
        go_wp2_with fail
        exact HX.out _ _ _ _ HT.out HR2.out HF2.out (.inr (.inr ⟨hks, .inl HKA.out⟩)) _
      by_cases hkc : s[k] = c
      · have e1 := HNA a hka
        have e2 := HEA c hkc
        have HKA := Lib.hid hkc
        clear hka hkc HEA HNA
        go_wp2_with fail
        go_quiet (fail)
        go_wp2_with fail
        exact HX.out _ _ _ _ HT.out HR2.out HF2.out (.inr (.inr ⟨hks, .inr HKA.out⟩)) _
      have e1 := HNA a hka
      have e2 := HNA c hkc
      have HKA := Lib.hid hka
      have HKC := Lib.hid hkc
      clear hka hkc HEA HNA
      cases bd with
      | true =>
        go_wp2_with fail
        go_quiet (fail)
        go_wp2_with fail
        exact HX.out _ _ _ _ HT.out HR2.out HF2.out (.inl rfl) _
      | false =>
        go_wp2_with fail
        go_quiet (fail)
        go_wp2_with fail
        go_region_held3 (fun w' => w'.cell? ⟨b, 0, none⟩ = some (.string s) ∧ w'.cell? ⟨b, 1, none⟩ = some (.int .i64 k)) (go_keep)
          (first | (go_at_call 56
                    refine (xRune_any s k _ hss hks).mono ?_
                    rintro e w2 ⟨rfl, hb2⟩
                    have k0 := cell_below hb2 (v := .string s) (a := ⟨b, 0, none⟩) (by simpa using c0)
                    have k1 := cell_below hb2 (v := .int .i64 k) (a := ⟨b, 1, none⟩) (by simpa using c1)
                    have HB2 := Lib.hid hb2
                    clear hb2))
        have h2 : RdM M w2 b s k false := (HR2.out.drewN (nq + 1)).below HB2.out
        have HF3 := Lib.hid (HF2.out.trans ((Fr.refl M wr).drewN (nq + 1) |>.trans (Fr.below HB2.out (Nat.le_refl _) HR2.out.2.1)))
        have H2 := Lib.hid h2
        have c2 := h2.c2
        have fz := h2.2.2.2.2.frozen
        clear h2
        obtain ⟨l, hl⟩ : ∃ l, s.data.toList.drop k = l := ⟨_, rfl⟩
        have hlc : l = s[k] :: s.data.toList.drop (k + 1) := by rw [← hl]; exact drop_cons s k hks
        have hlne : l ≠ [] := by rw [hlc]; simp
        have hll : l.length = s.size - k := by rw [← hl, List.length_drop, list_size]
        rw [hl]
        obtain ⟨ch, hch⟩ : ∃ ch, (decodeL l).1 = ch := ⟨_, rfl⟩
        obtain ⟨n, hn⟩ : ∃ n, (decodeL l).2 = n := ⟨_, rfl⟩
        have hn1 : 1 ≤ n := by rw [← hn]; exact decodeL_width _
        have hn2 : n ≤ s.size - k := by rw [← hn, ← hll]; exact decodeL_le _ hlne
        have hal := HT.out.2.1
        have hik := HT.out.1
        rw [hch, hn]
        have HL := Lib.hid hl
        have HLC := Lib.hid hlc
        have HCH := Lib.hid hch
        have HN := Lib.hid hn
        clear hl hlc hlne hll hch hn
        have q1 : IntKind.i64.wrap ((k : Int) + 1) = (k : Int) + 1 := by rw [IntKind.wrap_i64]; omega
        by_cases h38 : ch = 38
        · have e38 : ((ch : Int) == 38) = true := by rw [beq_iff_eq]; omega
          have H38 := Lib.hid h38
          clear h38
          go_wp2_with fail
          have hka' : RdM M (w2.setCell ⟨b, 1, none⟩ (.int .i64 ((k + 1 : Nat) : Int))) b s (k + 1) false := H2.out.at' (k + 1) (by omega)
          refine (ref_any M b s (k + 1) _ hka' ((HE.out.fr HF3.out).fr (Fr.setCell (Fr.refl _ _) hb _))).mono ?_
          rintro e w3 ⟨o, j, bd, rfl, h3, hf3, hkj, hol, hm⟩
          have HM := Lib.hid hm
          have H3 := Lib.hid h3
          have HF4 := Lib.hid ((HF3.out.setCell (p := ⟨b, 1, none⟩) hb _).trans hf3)
          clear hm h3 hf3 hka'
          have hsum : (bst acc).size + (bst o).size ≤ 100000000 := by
            have := H3.out.2.2.2.1
            rw [bst_size, bst_size]
            omega
          go_wp2_with fail
          go_roundg (if bd then 0 else s.size - j + 1)
          case rel => exact ⟨j, acc ++ o, bd, rfl, by rw [bst_app], H3.out, HF4.out, Lib.hid (HT.out.ref hks (byte_38 HLC.out HCH.out H38.out) HKA.out HKC.out hkj hol HM.out)⟩
          case measure => have := HG.out; simp at this; split <;> omega
        have HK38 : Hid (s[k] ≠ 38) := Lib.hid fun h => h38 (by
          have := decode_ascii 38 (s.data.toList.drop (k + 1)) (by decide)
          rw [← h, ← HLC.out] at this
          rw [← HCH.out, this, h]
          rfl)
        have e38 : ((ch : Int) == 38) = false := by rw [beq_eq_false_iff_ne]; omega
        clear h38
        have q3 : IntKind.i64.wrap ((k : Int) + 3) = (k : Int) + 3 := by rw [IntKind.wrap_i64]; omega
        have q3n : ((k : Int) + 3).toNat = k + 3 := by omega
        have q5 : IntKind.i64.wrap ((k : Int) + (n : Int)) = (k : Int) + (n : Int) := by rw [IntKind.wrap_i64]; omega
        have q5n : ((k : Int) + (n : Int)).toNat = k + n := by omega
        have q6 : (k : Int) + (n : Int) ≤ (s.size : Int) := by omega
        have q7 : (k : Int) ≤ (k : Int) + (n : Int) := by omega
        have hsum : (bst acc).size + (s.extract k (k + n)).size ≤ 100000000 := by
          rw [bst_size, ByteArray.size_extract]
          omega
        have HST : Hid (bst acc ++ s.extract k (k + n) = bst (acc ++ l.take n)) := Lib.hid (by
          rw [bst_app]
          congr 1
          exact ba_ext (by rw [ext_list, HL.out, show k + n - k = n by omega, bst_toList]))
        by_cases hx0 : isXChar ch = false
        · have hx : isXCharI (ch : Int) = false := by unfold isXCharI; simp [hx0]
          have hq : ∀ w, Calls Tryz.prog 57 #[.int .i32 (ch : Int)] w fun e w' => e = .returned (.bool false) ∧ w' = w := fun w => by rw [← hx]; exact quiet_xchar _ w
          have HBC : Hid (badCh l = true) := Lib.hid (by
            unfold badCh
            rw [HCH.out, HN.out]
            simp [hx0])
          clear hx hx0
          go_wp2_with fail
          go_quiet ((go_at_call 57; exact Calls.quiet_of_same (hq _)))
          go_wp2_with fail
          go_quiet (fail)
          go_wp2_with fail
          go_roundg 0
          case rel => exact ⟨k + n, acc ++ l.take n, true, rfl, by rw [HST.out], RdM.at' (RdM.bad' (H2.out.drewN _) true) (k + n) (by omega), (((HF3.out.drewN _).setCell (p := ⟨b, 2, none⟩) hb _).drewN _).setCell (p := ⟨b, 1, none⟩) hb _, Lib.hid (HT.out.bad_ HL.out HN.out hks HK38.out HKA.out HKC.out hn2 HBC.out)⟩
          case measure => have := HG.out; simp at this; omega
        have hx1 : isXChar ch = true := by simpa using hx0
        have hx : isXCharI (ch : Int) = true := by unfold isXCharI; simp [hx1]
        by_cases h13 : ch = 13
        · have hq : ∀ w, Calls Tryz.prog 57 #[.int .i32 (ch : Int)] w fun e w' => e = .returned (.bool true) ∧ w' = w := fun w => by rw [← hx]; exact quiet_xchar _ w
          have e13 : ((ch : Int) == 13) = true := by rw [beq_iff_eq]; omega
          have HBC : Hid (badCh l = true) := Lib.hid (by
            unfold badCh
            rw [HCH.out, HN.out]
            simp [h13])
          clear hx hx0 hx1 h13
          go_wp2_with fail
          go_quiet ((go_at_call 57; exact Calls.quiet_of_same (hq _)))
          go_wp2_with fail
          go_quiet (fail)
          go_wp2_with fail
          go_roundg 0
          case rel => exact ⟨k + n, acc ++ l.take n, true, rfl, by rw [HST.out], RdM.at' (RdM.bad' (H2.out.drewN _) true) (k + n) (by omega), (((HF3.out.drewN _).setCell (p := ⟨b, 2, none⟩) hb _).drewN _).setCell (p := ⟨b, 1, none⟩) hb _, Lib.hid (HT.out.bad_ HL.out HN.out hks HK38.out HKA.out HKC.out hn2 HBC.out)⟩
          case measure => have := HG.out; simp at this; omega
        by_cases h60 : ch = 60
        · have hq : ∀ w, Calls Tryz.prog 57 #[.int .i32 (ch : Int)] w fun e w' => e = .returned (.bool true) ∧ w' = w := fun w => by rw [← hx]; exact quiet_xchar _ w
          have e13 : ((ch : Int) == 13) = false := by rw [beq_eq_false_iff_ne]; omega
          have e60 : ((ch : Int) == 60) = true := by rw [beq_iff_eq]; omega
          have HBC : Hid (badCh l = true) := Lib.hid (by
            unfold badCh
            rw [HCH.out, HN.out]
            simp [h60])
          clear hx hx0 hx1 h13 h60
          go_wp2_with fail
          go_quiet ((go_at_call 57; exact Calls.quiet_of_same (hq _)))
          go_wp2_with fail
          go_quiet (fail)
          go_wp2_with fail
          go_roundg 0
          case rel => exact ⟨k + n, acc ++ l.take n, true, rfl, by rw [HST.out], RdM.at' (RdM.bad' (H2.out.drewN _) true) (k + n) (by omega), (((HF3.out.drewN _).setCell (p := ⟨b, 2, none⟩) hb _).drewN _).setCell (p := ⟨b, 1, none⟩) hb _, Lib.hid (HT.out.bad_ HL.out HN.out hks HK38.out HKA.out HKC.out hn2 HBC.out)⟩
          case measure => have := HG.out; simp at this; omega
        by_cases hv : ch = 65533 ∧ n = 1
        · obtain ⟨h655, hn1'⟩ := hv
          have hq : ∀ w, Calls Tryz.prog 57 #[.int .i32 (ch : Int)] w fun e w' => e = .returned (.bool true) ∧ w' = w := fun w => by rw [← hx]; exact quiet_xchar _ w
          have e13 : ((ch : Int) == 13) = false := by rw [beq_eq_false_iff_ne]; omega
          have e60 : ((ch : Int) == 60) = false := by rw [beq_eq_false_iff_ne]; omega
          have e655 : ((ch : Int) == 65533) = true := by rw [beq_iff_eq]; omega
          have en1 : ((n : Int) == 1) = true := by rw [beq_iff_eq]; omega
          have HBC : Hid (badCh l = true) := Lib.hid (by
            unfold badCh
            rw [HCH.out, HN.out]
            simp [h655, hn1'])
          clear hx hx0 hx1 h13 h60 h655 hn1'
          go_wp2_with fail
          go_quiet ((go_at_call 57; exact Calls.quiet_of_same (hq _)))
          go_wp2_with fail
          go_quiet (fail)
          go_wp2_with fail
          go_roundg 0
          case rel => exact ⟨k + n, acc ++ l.take n, true, rfl, by rw [HST.out], RdM.at' (RdM.bad' (H2.out.drewN _) true) (k + n) (by omega), (((HF3.out.drewN _).setCell (p := ⟨b, 2, none⟩) hb _).drewN _).setCell (p := ⟨b, 1, none⟩) hb _, Lib.hid (HT.out.bad_ HL.out HN.out hks HK38.out HKA.out HKC.out hn2 HBC.out)⟩
          case measure => have := HG.out; simp at this; omega
        by_cases h655 : ch = 65533
        · have hn1' : n ≠ 1 := fun h => hv ⟨h655, h⟩
          by_cases h3 : k + 3 ≤ s.size
          · have htk : l.take 3 = (s.extract k (k + 3)).data.toList := by rw [ext_list, HL.out, show k + 3 - k = 3 by omega]
            by_cases h33 : l.take 3 = [93, 93, 62]
            · have hq : ∀ w, Calls Tryz.prog 57 #[.int .i32 (ch : Int)] w fun e w' => e = .returned (.bool true) ∧ w' = w := fun w => by rw [← hx]; exact quiet_xchar _ w
              have e13 : ((ch : Int) == 13) = false := by rw [beq_eq_false_iff_ne]; omega
              have e60 : ((ch : Int) == 60) = false := by rw [beq_eq_false_iff_ne]; omega
              have e655 : ((ch : Int) == 65533) = true := by rw [beq_iff_eq]; omega
              have en1 : ((n : Int) == 1) = false := by rw [beq_eq_false_iff_ne]; omega
              have d3 : (k : Int) + 3 ≤ (s.size : Int) := by omega
              have e33 : ((s.extract k (k + 3)).toList == [93, 93, 62]) = true := by rw [Lib.toList_data, ← htk, h33]; rfl
              have HBC : Hid (badCh l = true) := Lib.hid (by
                unfold badCh
                rw [HCH.out, HN.out]
                simp [h33])
              clear hx hx0 hx1 h13 h60 h3 htk h33 hv h655 hn1'
              go_wp2_with fail
              go_quiet ((go_at_call 57; exact Calls.quiet_of_same (hq _)))
              go_wp2_with fail
              go_quiet (fail)
              go_wp2_with fail
              go_roundg 0
              case rel => exact ⟨k + n, acc ++ l.take n, true, rfl, by rw [HST.out], RdM.at' (RdM.bad' (H2.out.drewN _) true) (k + n) (by omega), (((HF3.out.drewN _).setCell (p := ⟨b, 2, none⟩) hb _).drewN _).setCell (p := ⟨b, 1, none⟩) hb _, Lib.hid (HT.out.bad_ HL.out HN.out hks HK38.out HKA.out HKC.out hn2 HBC.out)⟩
              case measure => have := HG.out; simp at this; omega
            · have hq : ∀ w, Calls Tryz.prog 57 #[.int .i32 (ch : Int)] w fun e w' => e = .returned (.bool true) ∧ w' = w := fun w => by rw [← hx]; exact quiet_xchar _ w
              have e13 : ((ch : Int) == 13) = false := by rw [beq_eq_false_iff_ne]; omega
              have e60 : ((ch : Int) == 60) = false := by rw [beq_eq_false_iff_ne]; omega
              have e655 : ((ch : Int) == 65533) = true := by rw [beq_iff_eq]; omega
              have en1 : ((n : Int) == 1) = false := by rw [beq_eq_false_iff_ne]; omega
              have d3 : (k : Int) + 3 ≤ (s.size : Int) := by omega
              have e33 : ((s.extract k (k + 3)).toList == [93, 93, 62]) = false := by rw [Lib.toList_data, ← htk, beq_eq_false_iff_ne]; exact h33
              have HBC : Hid (badCh l = false) := Lib.hid (by
                unfold badCh
                rw [HCH.out, HN.out]
                simp [hx1, h13, h60, h33, h655, hn1', (by decide : isXChar 65533 = true)])
              clear hx hx0 hx1 h13 h60 h3 htk h33 hv h655 hn1'
              go_wp2_with fail
              go_quiet ((go_at_call 57; exact Calls.quiet_of_same (hq _)))
              go_wp2_with fail
              go_quiet (fail)
              go_wp2_with fail
              go_roundg (s.size - (k + n) + 1)
              case rel => exact ⟨k + n, acc ++ l.take n, false, rfl, by rw [HST.out], RdM.at' (RdM.drewN H2.out _) (k + n) (by omega), (HF3.out.drewN _).setCell (p := ⟨b, 1, none⟩) hb _, Lib.hid (HT.out.raw HL.out HN.out hks HK38.out HKA.out HKC.out hn2 HBC.out)⟩
              case measure => have := HG.out; simp at this; omega
          · have h33 : l.take 3 ≠ [93, 93, 62] := by
              intro h
              have := congrArg List.length h
              rw [List.length_take, ← HL.out, List.length_drop, list_size] at this
              simp at this
              omega
            have hq : ∀ w, Calls Tryz.prog 57 #[.int .i32 (ch : Int)] w fun e w' => e = .returned (.bool true) ∧ w' = w := fun w => by rw [← hx]; exact quiet_xchar _ w
            have e13 : ((ch : Int) == 13) = false := by rw [beq_eq_false_iff_ne]; omega
            have e60 : ((ch : Int) == 60) = false := by rw [beq_eq_false_iff_ne]; omega
            have e655 : ((ch : Int) == 65533) = true := by rw [beq_iff_eq]; omega
            have en1 : ((n : Int) == 1) = false := by rw [beq_eq_false_iff_ne]; omega
            have d3 : decide ((k : Int) + 3 ≤ (s.size : Int)) = false := by rw [decide_eq_false_iff_not]; omega
            have HBC : Hid (badCh l = false) := Lib.hid (by
              unfold badCh
              rw [HCH.out, HN.out]
              simp [hx1, h13, h60, h33, h655, hn1', (by decide : isXChar 65533 = true)])
            clear hx hx0 hx1 h13 h60 h3 h33 hv h655 hn1'
            go_wp2_with fail
            go_quiet ((go_at_call 57; exact Calls.quiet_of_same (hq _)))
            go_wp2_with fail
            go_quiet (fail)
            go_wp2_with fail
            go_roundg (s.size - (k + n) + 1)
            case rel => exact ⟨k + n, acc ++ l.take n, false, rfl, by rw [HST.out], RdM.at' (RdM.drewN H2.out _) (k + n) (by omega), (HF3.out.drewN _).setCell (p := ⟨b, 1, none⟩) hb _, Lib.hid (HT.out.raw HL.out HN.out hks HK38.out HKA.out HKC.out hn2 HBC.out)⟩
            case measure => have := HG.out; simp at this; omega
        · by_cases h3 : k + 3 ≤ s.size
          · have htk : l.take 3 = (s.extract k (k + 3)).data.toList := by rw [ext_list, HL.out, show k + 3 - k = 3 by omega]
            by_cases h33 : l.take 3 = [93, 93, 62]
            · have hq : ∀ w, Calls Tryz.prog 57 #[.int .i32 (ch : Int)] w fun e w' => e = .returned (.bool true) ∧ w' = w := fun w => by rw [← hx]; exact quiet_xchar _ w
              have e13 : ((ch : Int) == 13) = false := by rw [beq_eq_false_iff_ne]; omega
              have e60 : ((ch : Int) == 60) = false := by rw [beq_eq_false_iff_ne]; omega
              have e655 : ((ch : Int) == 65533) = false := by rw [beq_eq_false_iff_ne]; omega
              have d3 : (k : Int) + 3 ≤ (s.size : Int) := by omega
              have e33 : ((s.extract k (k + 3)).toList == [93, 93, 62]) = true := by rw [Lib.toList_data, ← htk, h33]; rfl
              have HBC : Hid (badCh l = true) := Lib.hid (by
                unfold badCh
                rw [HCH.out, HN.out]
                simp [h33])
              clear hx hx0 hx1 h13 h60 h3 htk h33 hv h655
              go_wp2_with fail
              go_quiet ((go_at_call 57; exact Calls.quiet_of_same (hq _)))
              go_wp2_with fail
              go_quiet (fail)
              go_wp2_with fail
              go_roundg 0
              case rel => exact ⟨k + n, acc ++ l.take n, true, rfl, by rw [HST.out], RdM.at' (RdM.bad' (H2.out.drewN _) true) (k + n) (by omega), (((HF3.out.drewN _).setCell (p := ⟨b, 2, none⟩) hb _).drewN _).setCell (p := ⟨b, 1, none⟩) hb _, Lib.hid (HT.out.bad_ HL.out HN.out hks HK38.out HKA.out HKC.out hn2 HBC.out)⟩
              case measure => have := HG.out; simp at this; omega
            · have hq : ∀ w, Calls Tryz.prog 57 #[.int .i32 (ch : Int)] w fun e w' => e = .returned (.bool true) ∧ w' = w := fun w => by rw [← hx]; exact quiet_xchar _ w
              have e13 : ((ch : Int) == 13) = false := by rw [beq_eq_false_iff_ne]; omega
              have e60 : ((ch : Int) == 60) = false := by rw [beq_eq_false_iff_ne]; omega
              have e655 : ((ch : Int) == 65533) = false := by rw [beq_eq_false_iff_ne]; omega
              have d3 : (k : Int) + 3 ≤ (s.size : Int) := by omega
              have e33 : ((s.extract k (k + 3)).toList == [93, 93, 62]) = false := by rw [Lib.toList_data, ← htk, beq_eq_false_iff_ne]; exact h33
              have HBC : Hid (badCh l = false) := Lib.hid (by
                unfold badCh
                rw [HCH.out, HN.out]
                simp [hx1, h13, h60, h33, h655])
              clear hx hx0 hx1 h13 h60 h3 htk h33 hv h655
              go_wp2_with fail
              go_quiet ((go_at_call 57; exact Calls.quiet_of_same (hq _)))
              go_wp2_with fail
              go_quiet (fail)
              go_wp2_with fail
              go_roundg (s.size - (k + n) + 1)
              case rel => exact ⟨k + n, acc ++ l.take n, false, rfl, by rw [HST.out], RdM.at' (RdM.drewN H2.out _) (k + n) (by omega), (HF3.out.drewN _).setCell (p := ⟨b, 1, none⟩) hb _, Lib.hid (HT.out.raw HL.out HN.out hks HK38.out HKA.out HKC.out hn2 HBC.out)⟩
              case measure => have := HG.out; simp at this; omega
          · have h33 : l.take 3 ≠ [93, 93, 62] := by
              intro h
              have := congrArg List.length h
              rw [List.length_take, ← HL.out, List.length_drop, list_size] at this
              simp at this
              omega
            have hq : ∀ w, Calls Tryz.prog 57 #[.int .i32 (ch : Int)] w fun e w' => e = .returned (.bool true) ∧ w' = w := fun w => by rw [← hx]; exact quiet_xchar _ w
            have e13 : ((ch : Int) == 13) = false := by rw [beq_eq_false_iff_ne]; omega
            have e60 : ((ch : Int) == 60) = false := by rw [beq_eq_false_iff_ne]; omega
            have e655 : ((ch : Int) == 65533) = false := by rw [beq_eq_false_iff_ne]; omega
            have d3 : decide ((k : Int) + 3 ≤ (s.size : Int)) = false := by rw [decide_eq_false_iff_not]; omega
            have HBC : Hid (badCh l = false) := Lib.hid (by
              unfold badCh
              rw [HCH.out, HN.out]
              simp [hx1, h13, h60, h33, h655])
            clear hx hx0 hx1 h13 h60 h3 h33 hv h655
            go_wp2_with fail
            go_quiet ((go_at_call 57; exact Calls.quiet_of_same (hq _)))
            go_wp2_with fail
            go_quiet (fail)
            go_wp2_with fail
            go_roundg (s.size - (k + n) + 1)
            case rel => exact ⟨k + n, acc ++ l.take n, false, rfl, by rw [HST.out], RdM.at' (RdM.drewN H2.out _) (k + n) (by omega), (HF3.out.drewN _).setCell (p := ⟨b, 1, none⟩) hb _, Lib.hid (HT.out.raw HL.out HN.out hks HK38.out HKA.out HKC.out hn2 HBC.out)⟩
            case measure => have := HG.out; simp at this; omega
    · obtain rfl : k = s.size := by omega
      go_wp2_with fail
      go_quiet (fail)
      go_wp2_with fail
      go_outline
      exact HX.out _ _ _ _ HT.out HR2.out HF2.out (.inr (.inl rfl)) _

end Go.Proofs.YtlljphipglgjiaaGreatDoor
