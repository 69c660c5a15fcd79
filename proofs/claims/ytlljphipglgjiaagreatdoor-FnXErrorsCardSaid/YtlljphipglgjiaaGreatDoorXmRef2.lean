/-
  spec.xReader.reference.
-/
import Derived.Test.YtlljphipglgjiaaGreatDoorXmGram
namespace Go.Proofs.YtlljphipglgjiaaGreatDoor
open Go.RowKit Go.Lib
set_option linter.unusedSimpArgs false

/-- A step of the reader from place i that hands back a text: as r tells. -/
def StrPost (M : Nat → Prop) (b : Nat) (s : ByteArray) (i : Nat) (w : World) (r : Option (List UInt8 × List UInt8)) (e : Ending) (w' : World) : Prop :=
  ∃ (out : List UInt8) (j : Nat) (bad : Bool), e = .returned (.string (bst out)) ∧ RdM M w' b s j bad ∧ Fr M w w' ∧ i ≤ j ∧ out.length ≤ 4 * (j - i) ∧
    (match r with | some p => bad = false ∧ out = p.1 ∧ s.data.toList.drop j = p.2 | none => bad = true)

theorem list_size (s : ByteArray) : s.data.toList.length = s.size := by rw [Array.length_toList]; rfl
theorem hasB_one (s : ByteArray) (p : Nat) (c : UInt8) (hp : p < s.size) : hasB s p ⟨#[c]⟩ = decide (s[p] = c) := by
  unfold hasB
  have : sub s p (p + 1) = [s[p]] := by
    have := sub_snoc s p p (Nat.le_refl _) hp
    rw [sub_self] at this
    simpa using this
  rw [show p + (ByteArray.mk #[c]).size = p + 1 from rfl, this]
  simp
theorem drop_cons (s : ByteArray) (k : Nat) (hk : k < s.size) : s.data.toList.drop k = s[k] :: s.data.toList.drop (k + 1) :=
  List.drop_eq_getElem_cons (by rw [list_size]; exact hk)

theorem get_of_drop {s : ByteArray} {i : Nat} {x : List UInt8} (h : s.data.toList.drop i = x) {k : Nat} (hk : k < x.length) (hk2 : i + k < s.size) : s[i + k] = x[k] := by
  have h1 := drop_cons s (i + k) hk2
  have h2 : x.drop k = s.data.toList.drop (i + k) := by rw [← h, List.drop_drop]
  rw [← h2, List.drop_eq_getElem_cons hk] at h1
  exact (List.cons.inj h1).1.symm
theorem cut_app (c : UInt8) (a t : List UInt8) (h : c ∉ a) : cutL c (a ++ c :: t) = some (a, t) := by
  have htw : (a ++ c :: t).takeWhile (· != c) = a := by
    rw [List.takeWhile_append_of_pos (fun x hx => by rw [bne_iff_ne]; rintro rfl; exact h hx)]
    simp
  unfold cutL
  rw [if_pos (by simp), htw]
  simp

/-- until at a word of one byte: what stands ahead of it. -/
theorem until_one (M : Nat → Prop) (b : Nat) (s : ByteArray) (i : Nat) (c : UInt8) (w : World) (h : RdM M w b s i false) :
    ∃ (nm : List UInt8) (j : Nat) (bad : Bool), Calls Tryz.prog 102 #[.pointer (some ⟨b, 0, none⟩), .string ⟨#[c]⟩] w (fun e w' => e = .returned (.string (bst nm)) ∧ RdM M w' b s j bad ∧ Fr (fun k => k = b) w w') ∧
      i ≤ j ∧ (bad = false → cutL c (s.data.toList.drop i) = some (nm, s.data.toList.drop j) ∧ i + nm.length + 1 ≤ j) ∧ (bad = true → cutL c (s.data.toList.drop i) = none ∧ nm = []) := by
  have hi := h.2.2.2.1
  obtain ⟨l, hl⟩ : ∃ l, s.data.toList.drop i = l := ⟨_, rfl⟩
  have hll : l.length = s.size - i := by rw [← hl, List.length_drop, list_size]
  by_cases hm : c ∈ l
  · obtain ⟨a, t, hat, hca⟩ := List.eq_append_cons_of_mem hm
    have hal : a.length + t.length + 1 = l.length := by rw [hat]; simp; omega
    have hg : ∀ k (_ : k < l.length) (hk2 : i + k < s.size), s[i + k] = l[k] := fun k hk hk2 => get_of_drop hl hk hk2
    refine ⟨a, i + a.length + 1, false, (rd_until_yes M b s i (i + a.length) ⟨#[c]⟩ w h (by show 1 ≤ 1000; omega) (by omega) (by omega) ?_ ?_).mono ?_, by omega, fun _ => ⟨?_, by omega⟩, (fun h => nomatch h)⟩
    · rw [hasB_one s _ c (by omega), hg a.length (by omega) (by omega)]
      simp [hat]
    · intro k h1 h2
      obtain ⟨m, rfl⟩ : ∃ m, k = i + m := ⟨k - i, by omega⟩
      rw [hasB_one s _ c (by omega), hg m (by omega) (by omega)]
      have : l[m]'(by omega) = a[m]'(by omega) := by simp only [hat]; rw [List.getElem_append_left]
      rw [this]
      simp only [decide_eq_false_iff_not]
      rintro rfl
      exact hca (List.getElem_mem _)
    · rintro e w' ⟨rfl, h1, hf⟩
      refine ⟨?_, h1, hf⟩
      have : s.extract i (i + a.length) = bst a := ba_ext (by
        rw [ext_list, hl, hat, show i + a.length - i = a.length by omega, bst_toList]
        simp)
      rw [this]
    · rw [hl, hat, cut_app c a t hca]
      have : s.data.toList.drop (i + a.length + 1) = t := by
        rw [show i + a.length + 1 = i + (a.length + 1) by omega, ← List.drop_drop, hl, hat]
        simp
      rw [this]
  · refine ⟨[], s.size, true, (rd_until_no M b s i ⟨#[c]⟩ w h (by show 1 ≤ 1000; omega) ?_).mono ?_, hi, (fun h => nomatch h), fun _ => ⟨?_, rfl⟩⟩
    · intro k h1 h2
      obtain ⟨m, rfl⟩ : ∃ m, k = i + m := ⟨k - i, by omega⟩
      rw [hasB_one s _ c h2, get_of_drop hl (by omega) h2]
      simp only [decide_eq_false_iff_not]
      rintro rfl
      exact hm (List.getElem_mem _)
    · rintro e w' ⟨rfl, h1, hf⟩
      exact ⟨rfl, h1, hf⟩
    · rw [hl]
      unfold cutL
      rw [if_neg hm]

theorem chOf_none {ds : List UInt8} : chOf ds none = none := by unfold chOf; split <;> rfl
theorem chOf_nil (n : Option Nat) : chOf [] n = none := by unfold chOf; rw [if_pos rfl]
theorem chOf_no {ds : List UInt8} {n : Nat} (h : isXChar n = false) : chOf ds (some n) = none := by
  unfold chOf
  split
  · rfl
  · simp [h]
theorem chOf_yes {ds : List UInt8} {n : Nat} (hd : ds ≠ []) (h : isXChar n = true) : chOf ds (some n) = some (encodeRune (n : Int)) := by
  unfold chOf
  rw [if_neg hd]
  simp [h]
theorem numOf_some {B : Nat} {ds : List UInt8} {n : Nat} (h : numOf B ds = some n) : ds ≠ [] ∧ (∀ c t, ds = c :: t → c ≠ 43) := by
  unfold numOf at h
  split at h
  · cases h
  · rename_i h0
    refine ⟨h0, ?_⟩
    rintro c t rfl rfl
    unfold num at h
    rw [show dig B 43 = none by unfold dig; rw [if_neg (by decide), if_neg (by decide)]] at h
    cases h
theorem chOf_num (B : Nat) (ds : List UInt8) : chOf ds (numOf B ds) = chOf ds (num B 4294967295 0 ds) := by
  by_cases h : ds = []
  · subst h; rw [chOf_nil, chOf_nil]
  · unfold numOf
    rw [if_neg h]
theorem ext_tail (S : ByteArray) (h : 0 < S.size) : S.data.toList = S[0] :: (S.extract 1 S.size).data.toList := by
  have := drop_cons S 0 h
  rw [List.drop_zero] at this
  rw [this, ext_list]
  congr 1
  rw [List.take_of_length_le (by rw [List.length_drop, list_size]; omega)]
theorem numRef_x (x y : UInt8) (l : List UInt8) (hx : x = 35) (hy : y = 120) : numRef (x :: y :: l) = chOf l (numOf 16 l) := by
  subst hx; subst hy
  rw [chOf_num]
  simp [numRef]
theorem numRef_d (x y : UInt8) (l : List UInt8) (hx : x = 35) (hy : y ≠ 120) : numRef (x :: y :: l) = chOf (y :: l) (numOf 10 (y :: l)) := by
  subst hx
  rw [chOf_num]
  simp [numRef, hy]
theorem numRef_no (x : UInt8) (l : List UInt8) (hx : x ≠ 35) : numRef (x :: l) = none := by
  unfold numRef
  split
  · rename_i h; exact absurd (List.cons.inj h).1 hx
  · rfl
theorem num_lt (B : Nat) : ∀ (l : List UInt8) (acc n : Nat), acc ≤ 4294967295 → num B 4294967295 acc l = some n → n ≤ 4294967295
  | [], acc, n, ha, h => by simp [num] at h; omega
  | c :: t, acc, n, ha, h => by
    unfold num at h
    split at h
    · cases h
    · split at h
      · cases h
      · exact num_lt B t _ n (by omega) h
theorem numOf_lt {B : Nat} {l : List UInt8} {n : Nat} (h : numOf B l = some n) : n ≤ 4294967295 := by
  unfold numOf at h
  split at h
  · cases h
  · exact num_lt B l 0 n (by omega) h
theorem xchar_rune (n : Nat) (h : n ≤ 4294967295) : isXCharI (wrap32 (n : Int)) = isXChar n ∧ (isXChar n = true → wrap32 (n : Int) = n) := by
  by_cases hs : n ≤ 2147483647
  · have hw : wrap32 (n : Int) = n := by unfold wrap32; omega
    rw [hw]
    exact ⟨by unfold isXCharI; simp, fun _ => rfl⟩
  · have hw : wrap32 (n : Int) < 0 := by unfold wrap32; omega
    have hx : isXChar n = false := isXChar_no (by omega)
    rw [hx]
    refine ⟨?_, fun h => nomatch h⟩
    unfold isXCharI
    rw [decide_eq_false (by omega)]
    rfl
theorem RdM.below {M : Nat → Prop} {w w' : World} {b : Nat} {s : ByteArray} {i : Nat} {bad : Bool} (h : RdM M w b s i bad) (hb : Below w.heap.size w w') : RdM M w' b s i bad :=
  ⟨h.1, fun k hk => h.2.1 k (Nat.le_trans hb.size hk), h.2.2.1, h.2.2.2.1, (hb.block _ h.2.2.2.2.lt).trans h.2.2.2.2⟩
theorem RdM.drewN {M : Nat → Prop} {w : World} {b : Nat} {s : ByteArray} {i : Nat} {bad : Bool} (h : RdM M w b s i bad) (n : Nat) : RdM M (w.drewN n) b s i bad := h
theorem enc_len (r : Int) : (encodeRune r).length ≤ 4 := by
  unfold encodeRune encodeRuneZ
  rw [List.length_map]
  repeat' split
  all_goals simp

set_option maxRecDepth 100000 in
set_option maxHeartbeats 4000000 in
theorem ref_any (M : Nat → Prop) (b : Nat) (s : ByteArray) (i : Nat) (w : World) (hR : RdM M w b s i false) (hE : Errs M w) :
    Calls Tryz.prog 140 #[.pointer (some ⟨b, 0, none⟩)] w (StrPost M b s i w (refL (s.data.toList.drop i))) := by
  obtain ⟨nm, j, bad, hu, hij, hno, hyes⟩ := until_one M b s i 59 w hR
  have hb := hR.1
  have hss := hR.2.2.1
  have hfin : ∀ (o : Option (List UInt8)), (bad = true → o = none) → entL nm = o → refL (s.data.toList.drop i) = o.map fun x => (x, s.data.toList.drop j) := by
    intro o ho1 ho2
    unfold refL
    cases bad with
    | false =>
      rw [(hno rfl).1]
      simp only [ho2]
    | true =>
      rw [(hyes rfl).1, ho1 rfl]
      rfl
  have hbn : bad = true → nm = [] := fun h => (hyes h).2
  have hjn : bad = false → i + nm.length + 1 ≤ j := fun h => (hno h).2
  obtain ⟨post, hpost⟩ : ∃ post, StrPost M b s i w (refL (s.data.toList.drop i)) = post := ⟨_, rfl⟩
  have hY : ∀ (o : List UInt8) (W : World), o.length ≤ 4 → entL nm = some o → RdM M W b s j bad → Fr M w W → post (.returned (.string (bst o))) W := by
    intro o W hol ho h1 h2
    cases bad with
    | true =>
      rw [hbn rfl, show entL [] = none by decide] at ho
      cases ho
    | false =>
      rw [← hpost]
      refine ⟨o, j, false, rfl, h1, h2, hij, by have := hjn rfl; omega, ?_⟩
      rw [hfin (some o) (fun h => nomatch h) ho]
      exact ⟨rfl, rfl, rfl⟩
  have hN : ∀ (W : World), entL nm = none → RdM M W b s j true → Fr M w W → post (.returned (.string ⟨#[]⟩)) W := by
    intro W ho h1 h2
    rw [← hpost]
    refine ⟨[], j, true, rfl, h1, h2, hij, by simp, ?_⟩
    rw [hfin none (fun _ => rfl) ho]
    rfl
  rw [hpost]
  have HY := Lib.hid hY
  have HNO := Lib.hid hN
  have HU := Lib.hid hu
  have HE := Lib.hid hE
  clear hpost hY hN
  have HBN := Lib.hid hbn
  have HJN := Lib.hid hjn
  clear hu hno hyes hR hE hfin hbn hjn
  go_enter Tryz.func140, Tryz.ntmps140
  go_wp2_with fail
  refine HU.out.mono ?_
  rintro e w1 ⟨rfl, h1, hf1⟩
  have H1 := Lib.hid h1
  have HF := Lib.hid (hf1.mono (M' := M) fun k hk => by rw [hk]; exact hb)
  have c2 := h1.c2
  have fz := h1.2.2.2.2.frozen
  have hns : nm.length ≤ 1000000 := by
    cases bad with
    | false => have := HJN.out rfl; have := h1.2.2.2.1; omega
    | true => rw [HBN.out rfl]; simp
  clear h1 hf1
  obtain ⟨S, hS⟩ : ∃ S, bst nm = S := ⟨_, rfl⟩
  have hSl : S.toList = nm := by rw [← hS, Lib.toList_data, bst_toList]
  have hSs : S.size = nm.length := by rw [← hS, bst_size]
  have HSL := Lib.hid hSl
  have HSS := Lib.hid hSs
  rw [hS]
  clear hS hSl hSs
  go_wp2_with fail
  · have h0 : (S.toList == [97, 109, 112]) = true := by assumption
    exact HY.out [38] w1 (by decide) (by rw [← HSL.out, beq_iff_eq.1 h0]; rfl) H1.out HF.out
  · have h0 : (S.toList == [108, 116]) = true := by assumption
    exact HY.out [60] w1 (by decide) (by rw [← HSL.out, beq_iff_eq.1 h0]; rfl) H1.out HF.out
  · have h0 : (S.toList == [103, 116]) = true := by assumption
    exact HY.out [62] w1 (by decide) (by rw [← HSL.out, beq_iff_eq.1 h0]; rfl) H1.out HF.out
  · have h0 : (S.toList == [113, 117, 111, 116]) = true := by assumption
    exact HY.out [34] w1 (by decide) (by rw [← HSL.out, beq_iff_eq.1 h0]; rfl) H1.out HF.out
  · have h0 : (S.toList == [97, 112, 111, 115]) = true := by assumption
    exact HY.out [39] w1 (by decide) (by rw [← HSL.out, beq_iff_eq.1 h0]; rfl) H1.out HF.out
  all_goals
    have a1 : (S.toList == [97, 109, 112]) = false := by assumption
    have a2 : (S.toList == [108, 116]) = false := by assumption
    have a3 : (S.toList == [103, 116]) = false := by assumption
    have a4 : (S.toList == [113, 117, 111, 116]) = false := by assumption
    have a5 : (S.toList == [97, 112, 111, 115]) = false := by assumption
    have hent : entL nm = numRef nm := by
      rw [HSL.out] at a1 a2 a3 a4 a5
      unfold entL
      rw [if_neg (beq_eq_false_iff_ne.1 a1), if_neg (beq_eq_false_iff_ne.1 a2), if_neg (beq_eq_false_iff_ne.1 a3), if_neg (beq_eq_false_iff_ne.1 a4), if_neg (beq_eq_false_iff_ne.1 a5)]
    have HENT := Lib.hid hent
    clear hent a1 a2 a3 a4 a5
  · have g0 : 1 < (S.size : Int) := by assumption
    have g1 : (((S[0]'(by omega)).toNat : Int) == 35) = true := by assumption
    have hAs : (S.extract 1 S.size).size = S.size - 1 := by rw [ByteArray.size_extract]; omega
    have g2 : ((((S.extract 1 S.size)[0]'(by omega)).toNat : Int) == 120) = true := by assumption
    have HNR : Hid (numRef nm = chOf ((S.extract 1 S.size).extract 1 (S.size - 1)).data.toList (numOf 16 ((S.extract 1 S.size).extract 1 (S.size - 1)).data.toList)) := Lib.hid (by
      have k1 := ext_tail S (by omega)
      have k2 := ext_tail (S.extract 1 S.size) (by omega)
      have k3 : (S.extract 1 S.size).extract 1 (S.extract 1 S.size).size = (S.extract 1 S.size).extract 1 (S.size - 1) := by rw [hAs]
      rw [k3] at k2
      rw [← HSL.out, Lib.toList_data, k1, k2]
      exact numRef_x _ _ _ (UInt8.toNat_inj.1 (by have := beq_iff_eq.1 g1; show _ = 35; omega)) (UInt8.toNat_inj.1 (by have := beq_iff_eq.1 g2; show _ = 120; omega)))
    have HTM : Hid (((S.extract 1 S.size).extract 1 (S.size - 1)).size ≤ 1000000) := Lib.hid (by rw [ByteArray.size_extract]; have := HSS.out; omega)
    go_quiet (fail)
    go_wp2_with fail
    have HW : Hid (RdM M (w1.drewN nq) b s j bad) := Lib.hid (H1.out.drewN _)
    have HFW : Hid (Fr M w (w1.drewN nq)) := Lib.hid (HF.out.drewN _)
    clear c2 g1 g2
    have HP := Lib.hid (pu_pub 16 (.inr rfl) ((S.extract 1 S.size).extract 1 (S.size - 1)) HTM.out M _ (HE.out.fr HFW.out))
    cases hn : numOf 16 ((S.extract 1 S.size).extract 1 (S.size - 1)).data.toList with
    | none =>
      rw [hn] at HP
      have HENT2 : Hid (entL nm = none) := Lib.hid (by rw [HENT.out, HNR.out, hn, chOf_none])
      clear hn
      refine HP.out.mono ?_
      rintro e w2 ⟨⟨x, N, rfl⟩, hb2⟩
      have h2 := HW.out.below hb2
      have HF2 := Lib.hid (HFW.out.trans (Fr.below hb2 (Nat.le_refl _) (HW.out.2.1)))
      have H2 := Lib.hid h2
      have fz := h2.2.2.2.2.frozen
      have c2 := h2.c2
      clear h2 hb2
      go_wp2_with fail
      exact HNO.out _ HENT2.out (H2.out.bad' true) (HF2.out.setCell hb _)
    | some n =>
      rw [hn] at HP
      obtain ⟨hne, h43⟩ := numOf_some hn
      have hnl := numOf_lt hn
      obtain ⟨hx1, hx2⟩ := xchar_rune n hnl
      have HX2 := Lib.hid hx2
      have hTs : 0 < (((S.extract 1 S.size).extract 1 (S.size - 1))).size := by
        rcases Nat.eq_zero_or_pos (((S.extract 1 S.size).extract 1 (S.size - 1))).size with h | h
        · exact absurd (List.eq_nil_of_length_eq_zero (by rw [list_size]; exact h)) hne
        · exact h
      have hTs3 : 0 < S.size - 1 - 1 := by rw [ByteArray.size_extract] at hTs; omega
      have e43 : ((((((S.extract 1 S.size).extract 1 (S.size - 1)))[0]'hTs).toNat : Int) == 43) = false := by
        rw [beq_eq_false_iff_ne]
        intro h
        exact h43 _ _ (ext_tail _ hTs) (UInt8.toNat_inj.1 (show ((((S.extract 1 S.size).extract 1 (S.size - 1)))[0]'hTs).toNat = 43 by omega))
      have HENT2 : Hid (entL nm = chOf ((S.extract 1 S.size).extract 1 (S.size - 1)).data.toList (some n)) := Lib.hid (by rw [HENT.out, HNR.out, hn])
      have HNE := Lib.hid hne
      clear hn hne h43 hx2
      refine HP.out.mono ?_
      rintro e w2 ⟨h1, hb2⟩
      obtain rfl : e = _ := h1
      have h2 := HW.out.below hb2
      have HF2 := Lib.hid (HFW.out.trans (Fr.below hb2 (Nat.le_refl _) (HW.out.2.1)))
      have H2 := Lib.hid h2
      have fz := h2.2.2.2.2.frozen
      have c2 := h2.c2
      clear h2 hb2
      have HX1 := Lib.hid hx1
      clear hx1
      go_wp2_with fail
      refine (xChar_any _ _).mono ?_
      rintro e w3 ⟨rfl, rfl⟩
      rw [HX1.out]
      cases hx : isXChar n with
      | true =>
        have HENT3 : Hid (entL nm = some (encodeRune (n : Int))) := Lib.hid (by rw [HENT2.out, chOf_yes HNE.out hx])
        have HWR := Lib.hid (HX2.out hx)
        clear hx
        go_wp2_with fail
        have hout : Utf8.encode (wrap32 (n : Int)) = bst (encodeRune (n : Int)) := by
          rw [HWR.out]
          exact ba_ext (by rw [utf8_encode, bst_toList])
        have := HY.out (encodeRune (n : Int)) w2 (enc_len _) HENT3.out H2.out HF2.out
        rw [← hout] at this
        exact this
      | false =>
        have HENT3 : Hid (entL nm = none) := Lib.hid (by rw [HENT2.out, chOf_no hx])
        clear hx
        go_wp2_with fail
        exact HNO.out _ HENT3.out (H2.out.bad' true) (HF2.out.setCell hb _)
  · have g0 : 1 < (S.size : Int) := by assumption
    have g1 : (((S[0]'(by omega)).toNat : Int) == 35) = true := by assumption
    have hAs : (S.extract 1 S.size).size = S.size - 1 := by rw [ByteArray.size_extract]; omega
    have g2 : ((((S.extract 1 S.size)[0]'(by omega)).toNat : Int) == 120) = false := by assumption
    have HNR : Hid (numRef nm = chOf (S.extract 1 S.size).data.toList (numOf 10 (S.extract 1 S.size).data.toList)) := Lib.hid (by
      have k1 := ext_tail S (by omega)
      have k2 := ext_tail (S.extract 1 S.size) (by omega)
      rw [← HSL.out, Lib.toList_data, k1, k2]
      exact numRef_d _ _ _ (UInt8.toNat_inj.1 (by have := beq_iff_eq.1 g1; show _ = 35; omega)) (fun h => by rw [h] at g2; exact absurd g2 (by decide)))
    have HTM : Hid ((S.extract 1 S.size).size ≤ 1000000) := Lib.hid (by have := HSS.out; omega)
    go_wp2_with fail
    have HW := H1
    have HFW := HF
    clear c2 g1 g2
    have HP := Lib.hid (pu_pub 10 (.inl rfl) (S.extract 1 S.size) HTM.out M _ (HE.out.fr HFW.out))
    cases hn : numOf 10 (S.extract 1 S.size).data.toList with
    | none =>
      rw [hn] at HP
      have HENT2 : Hid (entL nm = none) := Lib.hid (by rw [HENT.out, HNR.out, hn, chOf_none])
      clear hn
      refine HP.out.mono ?_
      rintro e w2 ⟨⟨x, N, rfl⟩, hb2⟩
      have h2 := HW.out.below hb2
      have HF2 := Lib.hid (HFW.out.trans (Fr.below hb2 (Nat.le_refl _) (HW.out.2.1)))
      have H2 := Lib.hid h2
      have fz := h2.2.2.2.2.frozen
      have c2 := h2.c2
      clear h2 hb2
      go_wp2_with fail
      exact HNO.out _ HENT2.out (H2.out.bad' true) (HF2.out.setCell hb _)
    | some n =>
      rw [hn] at HP
      obtain ⟨hne, h43⟩ := numOf_some hn
      have hnl := numOf_lt hn
      obtain ⟨hx1, hx2⟩ := xchar_rune n hnl
      have HX2 := Lib.hid hx2
      have hTs : 0 < ((S.extract 1 S.size)).size := by
        rcases Nat.eq_zero_or_pos ((S.extract 1 S.size)).size with h | h
        · exact absurd (List.eq_nil_of_length_eq_zero (by rw [list_size]; exact h)) hne
        · exact h
      have e43 : (((((S.extract 1 S.size))[0]'hTs).toNat : Int) == 43) = false := by
        rw [beq_eq_false_iff_ne]
        intro h
        exact h43 _ _ (ext_tail _ hTs) (UInt8.toNat_inj.1 (show (((S.extract 1 S.size))[0]'hTs).toNat = 43 by omega))
      have HENT2 : Hid (entL nm = chOf (S.extract 1 S.size).data.toList (some n)) := Lib.hid (by rw [HENT.out, HNR.out, hn])
      have HNE := Lib.hid hne
      clear hn hne h43 hx2
      refine HP.out.mono ?_
      rintro e w2 ⟨h1, hb2⟩
      obtain rfl : e = _ := h1
      have h2 := HW.out.below hb2
      have HF2 := Lib.hid (HFW.out.trans (Fr.below hb2 (Nat.le_refl _) (HW.out.2.1)))
      have H2 := Lib.hid h2
      have fz := h2.2.2.2.2.frozen
      have c2 := h2.c2
      clear h2 hb2
      have HX1 := Lib.hid hx1
      clear hx1
      go_wp2_with fail
      refine (xChar_any _ _).mono ?_
      rintro e w3 ⟨rfl, rfl⟩
      rw [HX1.out]
      cases hx : isXChar n with
      | true =>
        have HENT3 : Hid (entL nm = some (encodeRune (n : Int))) := Lib.hid (by rw [HENT2.out, chOf_yes HNE.out hx])
        have HWR := Lib.hid (HX2.out hx)
        clear hx
        go_wp2_with fail
        have hout : Utf8.encode (wrap32 (n : Int)) = bst (encodeRune (n : Int)) := by
          rw [HWR.out]
          exact ba_ext (by rw [utf8_encode, bst_toList])
        have := HY.out (encodeRune (n : Int)) w2 (enc_len _) HENT3.out H2.out HF2.out
        rw [← hout] at this
        exact this
      | false =>
        have HENT3 : Hid (entL nm = none) := Lib.hid (by rw [HENT2.out, chOf_no hx])
        clear hx
        go_wp2_with fail
        exact HNO.out _ HENT3.out (H2.out.bad' true) (HF2.out.setCell hb _)
  · have g0 : 1 < (S.size : Int) := by assumption
    have g1 : (((S[0]'(by omega)).toNat : Int) == 35) = false := by assumption
    have HNR : Hid (numRef nm = none) := Lib.hid (by
      have k1 := ext_tail S (by omega)
      rw [← HSL.out, Lib.toList_data, k1]
      exact numRef_no _ _ (fun h => by rw [h] at g1; exact absurd g1 (by decide)))
    have HTM : Hid ((ByteArray.mk #[]).size ≤ 1000000) := Lib.hid (by decide)
    go_wp2_with fail
    have HW := H1
    have HFW := HF
    have HP := Lib.hid (pu_pub 10 (.inl rfl) (ByteArray.mk #[]) HTM.out M w1 (HE.out.fr HFW.out))
    rw [show numOf 10 (ByteArray.mk #[]).data.toList = none from rfl] at HP
    have HENT2 : Hid (entL nm = none) := Lib.hid (by rw [HENT.out, HNR.out])
    clear c2
    refine HP.out.mono ?_
    rintro e w2 ⟨⟨x, N, rfl⟩, hb2⟩
    have h2 := HW.out.below hb2
    have HF2 := Lib.hid (HFW.out.trans (Fr.below hb2 (Nat.le_refl _) (HW.out.2.1)))
    have H2 := Lib.hid h2
    have fz := h2.2.2.2.2.frozen
    have c2 := h2.c2
    clear h2 hb2
    go_wp2_with fail
    exact HNO.out _ HENT2.out (H2.out.bad' true) (HF2.out.setCell hb _)
  · have g0 : (S.size : Int) ≤ 1 := by assumption
    have HNR : Hid (numRef nm = none) := Lib.hid (by
      have hln : nm.length ≤ 1 := by have := HSS.out; omega
      match nm, hln with
      | [], _ => rfl
      | [x], _ => unfold numRef; simp)
    have HTM : Hid ((ByteArray.mk #[]).size ≤ 1000000) := Lib.hid (by decide)
    go_wp2_with fail
    have HW := H1
    have HFW := HF
    have HP := Lib.hid (pu_pub 10 (.inl rfl) (ByteArray.mk #[]) HTM.out M w1 (HE.out.fr HFW.out))
    rw [show numOf 10 (ByteArray.mk #[]).data.toList = none from rfl] at HP
    have HENT2 : Hid (entL nm = none) := Lib.hid (by rw [HENT.out, HNR.out])
    clear c2
    refine HP.out.mono ?_
    rintro e w2 ⟨⟨x, N, rfl⟩, hb2⟩
    have h2 := HW.out.below hb2
    have HF2 := Lib.hid (HFW.out.trans (Fr.below hb2 (Nat.le_refl _) (HW.out.2.1)))
    have H2 := Lib.hid h2
    have fz := h2.2.2.2.2.frozen
    have c2 := h2.c2
    clear h2 hb2
    go_wp2_with fail
    exact HNO.out _ HENT2.out (H2.out.bad' true) (HF2.out.setCell hb _)

end Go.Proofs.YtlljphipglgjiaaGreatDoor
