/-
  spec.xReader.comment (printed by gen_com.py).
  append on a slice of the call's own: as the kit's law, and where the new row lies: where it lay, or in a new block.
  Elements in memory: what holds of a tree of spec.XElement, and where it lies.
  Towards spec.xReader.element: text when it is bad already; the state of an element's reading.
  The state of an element's reading, whole: the reader, the element's blocks, its attributes, its kids.
  Attributes, step by step (plain), and where a run of bytes ends.
-/
import Derived.Test.YtlljphipglgjiaaGreatDoorXmTxt
import Derived.Test.YtlljphipglgjiaaGreatDoorXmBase
import Derived.Laws.AppendOwn
import Derived.Test.YtlljphipglgjiaaGreatDoorXmGram
namespace Go.Proofs.YtlljphipglgjiaaGreatDoor
open Go.RowKit Go.Lib
set_option linter.unusedSimpArgs false

theorem hasB_pre (s : ByteArray) (p : Nat) (wd : ByteArray) : hasB s p wd = isPre wd.data.toList (s.data.toList.drop p) := by
  unfold hasB isPre sub
  rw [Bool.eq_iff_iff, decide_eq_true_eq, beq_iff_eq, list_size, show p + wd.size - p = wd.size by omega]
theorem untilL_cases (wd : List UInt8) (hwd : wd ≠ []) : ∀ l : List UInt8, (untilL wd l = none ∧ ∀ k, k < l.length → isPre wd (l.drop k) = false) ∨
    ∃ n, n < l.length ∧ untilL wd l = some (l.take n, l.drop (n + wd.length)) ∧ isPre wd (l.drop n) = true ∧ ∀ k, k < n → isPre wd (l.drop k) = false
  | [] => .inl ⟨rfl, fun k hk => by simp at hk⟩
  | c :: t => by
    by_cases h : isPre wd (c :: t) = true
    · refine .inr ⟨0, by simp, ?_, by simpa using h, fun k hk => by omega⟩
      rw [untilL, if_pos h]
      simp
    · rcases untilL_cases wd hwd t with ⟨h1, h2⟩ | ⟨n, hn, h1, h2, h3⟩
      · refine .inl ⟨?_, fun k hk => ?_⟩
        · rw [untilL, if_neg h, h1]; rfl
        · cases k with
          | zero => simpa using h
          | succ k => exact h2 k (by simpa using hk)
      · refine .inr ⟨n + 1, by simpa using hn, ?_, by simpa using h2, fun k hk => ?_⟩
        · rw [untilL, if_neg h, h1]
          simp only [Option.map_some, List.take_succ_cons]
          rw [show n + 1 + wd.length = (n + wd.length) + 1 by omega, List.drop_succ_cons]
        · cases k with
          | zero => simpa using h
          | succ k => exact h3 k (by omega)

/-- until at a word: what stands ahead of it. -/
theorem until_word (M : Nat → Prop) (b : Nat) (s : ByteArray) (i : Nat) (bad : Bool) (wd : ByteArray) (hwd : wd.data.toList ≠ []) (hsz : wd.size ≤ 1000) (w : World) (h : RdM M w b s i bad) :
    ∃ (nm : List UInt8) (j : Nat) (bd : Bool), Calls Tryz.prog 102 #[.pointer (some ⟨b, 0, none⟩), .string wd] w (fun e w' => e = .returned (.string (bst nm)) ∧ RdM M w' b s j bd ∧ Fr (fun k => k = b) w w') ∧
      i ≤ j ∧ (bd = false → bad = false ∧ untilL wd.data.toList (s.data.toList.drop i) = some (nm, s.data.toList.drop j) ∧ i + nm.length ≤ j) ∧ (bd = true → (bad = true ∨ untilL wd.data.toList (s.data.toList.drop i) = none) ∧ nm = []) := by
  have hi := h.2.2.2.1
  have hss := h.2.2.1
  cases bad with
  | true =>
    refine ⟨[], i, true, (rd_until_bad M b s i wd w h).mono ?_, Nat.le_refl _, (fun h => nomatch h), fun _ => ⟨.inl rfl, rfl⟩⟩
    rintro e w' ⟨rfl, h1, hf⟩
    exact ⟨rfl, h1, hf⟩
  | false =>
    obtain ⟨l, hl⟩ : ∃ l, s.data.toList.drop i = l := ⟨_, rfl⟩
    have hll : l.length = s.size - i := by rw [← hl, List.length_drop, list_size]
    have hat : ∀ k, hasB s (i + k) wd = isPre wd.data.toList (l.drop k) := fun k => by rw [hasB_pre, ← hl, List.drop_drop]
    rcases untilL_cases wd.data.toList hwd l with ⟨h1, h2⟩ | ⟨n, hn, h1, h2, h3⟩
    · refine ⟨[], s.size, true, (rd_until_no M b s i wd w h hsz ?_).mono ?_, hi, (fun h => nomatch h), fun _ => ⟨.inr (by rw [hl]; exact h1), rfl⟩⟩
      · intro k hk1 hk2
        obtain ⟨m, rfl⟩ : ∃ m, k = i + m := ⟨k - i, by omega⟩
        rw [hat]
        exact h2 m (by omega)
      · rintro e w' ⟨rfl, h1, hf⟩
        exact ⟨rfl, h1, hf⟩
    · refine ⟨l.take n, i + n + wd.size, false, (rd_until_yes M b s i (i + n) wd w h hsz (by omega) (by omega) (by rw [hat]; exact h2) ?_).mono ?_, by omega, fun _ => ⟨rfl, ?_, by rw [List.length_take]; omega⟩, (fun h => nomatch h)⟩
      · intro k hk1 hk2
        obtain ⟨m, rfl⟩ : ∃ m, k = i + m := ⟨k - i, by omega⟩
        rw [hat]
        exact h3 m (by omega)
      · rintro e w' ⟨rfl, h1, hf⟩
        refine ⟨?_, h1, hf⟩
        have : s.extract i (i + n) = bst (l.take n) := ba_ext (by rw [ext_list, hl, show i + n - i = n by omega, bst_toList])
        rw [this]
      · rw [hl, h1]
        have : s.data.toList.drop (i + n + wd.size) = l.drop (n + wd.data.toList.length) := by rw [← hl, List.drop_drop, list_size, Nat.add_assoc]
        rw [this]

/-- Is the character at the head of l bad in a comment? -/
def badCom (c : UInt8) (t : List UInt8) : Bool :=
  (c == 45 && (t == [] || t.head? == some 45)) || !isXChar (decodeL (c :: t)).1 || ((decodeL (c :: t)).1 == 65533 && (decodeL (c :: t)).2 == 1 && decide (128 ≤ c.toNat)) || (decodeL (c :: t)).1 == 13
theorem comOk_cons (f : Nat) (c : UInt8) (t : List UInt8) : comOk (f + 1) (c :: t) = (!badCom c t && comOk f ((c :: t).drop (decodeL (c :: t)).2)) := rfl

set_option maxRecDepth 100000 in
set_option maxHeartbeats 20000000 in
theorem comment_any (M : Nat → Prop) (b : Nat) (s : ByteArray) (i : Nat) (bad : Bool) (w : World) (hR : RdM M w b s i bad) :
    Calls Tryz.prog 54 #[.pointer (some ⟨b, 0, none⟩)] w (StrPost M b s i w (if bad then none else commentL (s.data.toList.drop i))) := by
  obtain ⟨nm, j, bd, hu, hij, hno, hyes⟩ := until_word M b s i bad ⟨#[45, 45, 62]⟩ (by simp) (by show 3 ≤ 1000; omega) w hR
  have hb := hR.1
  have hss := hR.2.2.1
  obtain ⟨post, hpost⟩ : ∃ post, StrPost M b s i w (if bad then none else commentL (s.data.toList.drop i)) = post := ⟨_, rfl⟩
  have hfin : ∀ (W : World) (q : Bool), RdM M W b s j q → Fr M w W → q = (bd || !comOk (nm.length + 1) nm) → post (.returned (.string (bst nm))) W := by
    intro W q h1 h2 h3
    rw [← hpost]
    refine ⟨nm, j, q, rfl, h1, h2, hij, ?_, ?_⟩
    · cases bd with
      | true => rw [(hyes rfl).2]; simp
      | false => have := (hno rfl).2.2; omega
    · cases bd with
      | true =>
        rcases (hyes rfl).1 with h | h
        · subst h; simpa using h3
        · subst h3
          cases bad with
          | true => rfl
          | false =>
            unfold commentL
            rw [show ([45, 45, 62] : List UInt8) = (ByteArray.mk #[45, 45, 62]).data.toList from rfl, h]
            rfl
      | false =>
        obtain ⟨hbf, hu1, -⟩ := hno rfl
        subst hbf
        unfold commentL
        rw [show ([45, 45, 62] : List UInt8) = (ByteArray.mk #[45, 45, 62]).data.toList from rfl, if_neg Bool.false_ne_true, hu1]
        simp only
        cases hc : comOk (nm.length + 1) nm with
        | true => simpa [hc] using h3
        | false => simpa [hc] using h3
  have hnl : nm.length ≤ 1000000 := by
    cases bd with
    | true => rw [(hyes rfl).2]; simp
    | false =>
      have h1 := (hno rfl).2.1
      rcases untilL_cases (ByteArray.mk #[45, 45, 62]).data.toList (by simp) (s.data.toList.drop i) with ⟨h2, _⟩ | ⟨n, hn, h2, _⟩
      · rw [h2] at h1; cases h1
      · rw [h2] at h1
        injection h1 with h1
        injection h1 with h1 _
        rw [← h1, List.length_take, List.length_drop, list_size]
        omega
  rw [hpost]
  obtain ⟨R, hRR⟩ : ∃ R, (bd || !comOk (nm.length + 1) nm) = R := ⟨_, rfl⟩
  have HFIN := Lib.hid hfin
  rw [hRR] at HFIN
  have HRR := Lib.hid hRR
  have HU := Lib.hid hu
  clear hpost hfin hu hno hyes hR hRR
  obtain ⟨S, hS⟩ : ∃ S, bst nm = S := ⟨_, rfl⟩
  have hSl : S.data.toList = nm := by rw [← hS, bst_toList]
  have hSs : S.size ≤ 1000000 := by rw [← hS, bst_size]; exact hnl
  have HSL := Lib.hid hSl
  rw [hS] at HU HFIN
  clear hS hSl
  go_enter Tryz.func54, Tryz.ntmps54
  go_wp2_with fail
  refine HU.out.mono ?_
  rintro e w1 ⟨rfl, h1, hf1⟩
  have H1 := Lib.hid h1
  have HF := Lib.hid (hf1.mono (M' := M) fun k hk => by rw [hk]; exact hb)
  clear h1 hf1
  go_wp2_with fail
  go_loopg [4] S.size (fun g iv wr => ∃ (k : Nat) (q : Bool), g = S.size - k ∧ k ≤ S.size ∧ iv = .int .i64 k ∧ RdM M wr b s j q ∧ Fr M w wr ∧ Hid (∃ f, (S.data.toList.drop k).length < f ∧ (q || !comOk f (S.data.toList.drop k)) = R))
  case atStart => exact ⟨0, bd, rfl, Nat.zero_le _, rfl, H1.out, HF.out, Lib.hid ⟨nm.length + 1, by rw [List.drop_zero, HSL.out]; omega, by rw [List.drop_zero, HSL.out]; exact HRR.out⟩⟩
  case round =>
    obtain ⟨k, q, hg, hk, rfl, hr, hf, HQ⟩ := hrel
    have HR2 := Lib.hid hr
    have HF2 := Lib.hid hf
    have HG := Lib.hid hg
    clear hr hf hg
    by_cases hks : k < S.size
    · obtain ⟨l, hl⟩ : ∃ l, S.data.toList.drop k = l := ⟨_, rfl⟩
      obtain ⟨t, ht⟩ : ∃ t, S.data.toList.drop (k + 1) = t := ⟨_, rfl⟩
      have hlc : l = S[k] :: t := by rw [← hl, ← ht]; exact drop_cons S k hks
      have hlne : l ≠ [] := by rw [hlc]; simp
      have hll : l.length = S.size - k := by rw [← hl, List.length_drop, list_size]
      have htl : t.length = S.size - (k + 1) := by rw [← ht, List.length_drop, list_size]
      have hth : ∀ h : k + 1 < S.size, t.head? = some S[k + 1] := fun h => by rw [← ht, drop_cons S (k + 1) h]; rfl
      obtain ⟨ch, hch⟩ : ∃ ch, (decodeL l).1 = ch := ⟨_, rfl⟩
      obtain ⟨n, hn⟩ : ∃ n, (decodeL l).2 = n := ⟨_, rfl⟩
      have hn1 : 1 ≤ n := by rw [← hn]; exact decodeL_width _
      have hn2 : n ≤ S.size - k := by rw [← hn, ← hll]; exact decodeL_le _ hlne
      have hstep : ∀ B : Bool, badCom S[k] t = B → ∃ f, (S.data.toList.drop (k + n)).length < f ∧ ((q || B) || !comOk f (S.data.toList.drop (k + n))) = R := by
        intro B hB
        obtain ⟨f, hf1, hf2⟩ := HQ.out
        rw [hl] at hf1 hf2
        obtain ⟨g, rfl⟩ : ∃ g, f = g + 1 := ⟨f - 1, by omega⟩
        have hd : S.data.toList.drop (k + n) = l.drop n := by rw [← hl, List.drop_drop]
        refine ⟨g, by rw [hd, List.length_drop]; omega, ?_⟩
        rw [hlc, comOk_cons, hB, ← hlc, hn] at hf2
        rw [← hf2, hd]
        cases q <;> cases B <;> simp
      have HST := Lib.hid hstep
      have HX := Lib.hid (show Calls Tryz.prog 56 #[.string S, .int .i64 k] wr fun e w' => e = .returned (.tuple #[.int .i32 ch, .int .i64 n]) ∧ Below wr.heap.size wr w' by
        have := xRune_any S k wr hSs hks
        rw [hl, hch, hn] at this
        exact this)
      have HCH := Lib.hid hch
      have HN := Lib.hid hn
      have HLC := Lib.hid hlc
      have HTL := Lib.hid htl
      have HTH := Lib.hid hth
      have hxI : isXCharI (ch : Int) = isXChar ch := by unfold isXCharI; simp
      have HXI := Lib.hid hxI
      have q1 : IntKind.i64.wrap ((k : Int) + 1) = (k : Int) + 1 := by rw [IntKind.wrap_i64]; omega
      have q2 : IntKind.i64.wrap ((k : Int) + (n : Int)) = (k : Int) + (n : Int) := by rw [IntKind.wrap_i64]; omega
      have q3 : IntKind.i64.wrap ((k : Int) + (n : Int) - 1) = (k : Int) + (n : Int) - 1 := by rw [IntKind.wrap_i64]; omega
      have q4 : IntKind.i64.wrap ((k : Int) + (n : Int) - 1 + 1) = (k : Int) + (n : Int) := by rw [IntKind.wrap_i64]; omega
      clear hl ht hlc hlne hll htl hth hch hn hstep hxI HQ
      go_wp2_with fail
      refine HX.out.mono ?_
      rintro e w2 ⟨rfl, hb2⟩
      have h2 := HR2.out.below hb2
      have HF3 := Lib.hid (HF2.out.trans (Fr.below hb2 (Nat.le_refl _) HR2.out.2.1))
      have H2 := Lib.hid h2
      have c2 := h2.c2
      have fz := h2.2.2.2.2.frozen
      clear h2 hb2
      by_cases h45 : S[k] = 45
      · have e45 : ((S[k].toNat : Int) == 45) = true := by rw [h45]; rfl
        by_cases hke : k + 1 = S.size
        · have ee : (((k : Int) + 1) == (S.size : Int)) = true := by rw [beq_iff_eq]; omega
          have ht0 : t = [] := List.eq_nil_of_length_eq_zero (by rw [HTL.out]; omega)
          have HBC : Hid (badCom S[k] t = true) := Lib.hid (by
            unfold badCom
            rw [← HLC.out, HCH.out, HN.out]
            simp [h45, ht0])
          clear h45 ht0 hke
          go_wp2_with fail
          go_roundg (S.size - (k + n))
          case rel => exact ⟨k + n, true, rfl, by omega, by go_num, H2.out.bad' true, HF3.out.setCell (p := ⟨b, 2, none⟩) hb _, Lib.hid (by have := HST.out _ HBC.out; simpa using this)⟩
          case measure => have := HG.out; omega
        · have hk1 : k + 1 < S.size := by omega
          have ee : (((k : Int) + 1) == (S.size : Int)) = false := by rw [beq_eq_false_iff_ne]; omega
          have hhd := HTH.out hk1
          have htn : t ≠ [] := by rintro rfl; simp at hhd
          by_cases h46 : S[k + 1] = 45
          · have e46 : ((S[k + 1].toNat : Int) == 45) = true := by rw [h46]; rfl
            have HBC : Hid (badCom S[k] t = true) := Lib.hid (by
              unfold badCom
              rw [← HLC.out, HCH.out, HN.out]
              simp [h45, hhd, h46])
            clear h45 h46 hhd htn hke
            go_wp2_with fail
            go_roundg (S.size - (k + n))
            case rel => exact ⟨k + n, true, rfl, by omega, by go_num, H2.out.bad' true, HF3.out.setCell (p := ⟨b, 2, none⟩) hb _, Lib.hid (by have := HST.out _ HBC.out; simpa using this)⟩
            case measure => have := HG.out; omega
          · have e46 : ((S[k + 1].toNat : Int) == 45) = false := by rw [beq_eq_false_iff_ne]; intro h; exact h46 (UInt8.toNat_inj.1 (show _ = 45 by omega))
            have HA : Hid ((S[k] == 45 && (t == [] || t.head? == some 45)) = false) := Lib.hid (by simp [hhd, h46, htn])
            clear h45 h46 hhd htn hke
            go_wp2_with fail
            refine (xChar_any _ _).mono ?_
            rintro e w3 ⟨rfl, rfl⟩
            rw [HXI.out]
            cases hx : isXChar ch with
            | false =>
              have HBC : Hid (badCom S[k] t = true) := Lib.hid (by
                unfold badCom
                rw [← HLC.out, HCH.out, HN.out]
                simp [hx])
              clear hx
              go_wp2_with fail
              go_roundg (S.size - (k + n))
              case rel => exact ⟨k + n, true, rfl, by omega, by go_num, H2.out.bad' true, HF3.out.setCell (p := ⟨b, 2, none⟩) hb _, Lib.hid (by have := HST.out _ HBC.out; simpa using this)⟩
              case measure => have := HG.out; omega
            | true =>
              by_cases h655 : ch = 65533
              · by_cases hn' : n = 1
                · by_cases hge : 128 ≤ S[k].toNat
                  · have e1 : ((ch : Int) == 65533) = true := by rw [beq_iff_eq]; omega
                    have e2 : ((n : Int) == 1) = true := by rw [beq_iff_eq]; omega
                    have e3 : decide ((128 : Int) ≤ (S[k].toNat : Int)) = true := by simp; omega
                    have HBC : Hid (badCom S[k] t = true) := Lib.hid (by
                      unfold badCom
                      rw [← HLC.out, HCH.out, HN.out]
                      simp [h655, hn', hge])
                    clear hx h655 hn'
                    go_wp2_with fail
                    go_roundg (S.size - (k + n))
                    case rel => exact ⟨k + n, true, rfl, by omega, by go_num, H2.out.bad' true, HF3.out.setCell (p := ⟨b, 2, none⟩) hb _, Lib.hid (by have := HST.out _ HBC.out; simpa using this)⟩
                    case measure => have := HG.out; omega
                  · have e1 : ((ch : Int) == 65533) = true := by rw [beq_iff_eq]; omega
                    have e2 : ((n : Int) == 1) = true := by rw [beq_iff_eq]; omega
                    have e3 : decide ((128 : Int) ≤ (S[k].toNat : Int)) = false := by simp; omega
                    have e4 : ((ch : Int) == 13) = false := by rw [beq_eq_false_iff_ne]; omega
                    have HBC : Hid (badCom S[k] t = false) := Lib.hid (by
                      unfold badCom
                      rw [← HLC.out, HCH.out, HN.out]
                      rw [HA.out]
                      simp [h655, hn', hge, (by decide : isXChar 65533 = true)])
                    clear hx h655 hn'
                    go_wp2_with fail
                    go_roundg (S.size - (k + n))
                    case rel => exact ⟨k + n, q, rfl, by omega, by go_num, H2.out, HF3.out, Lib.hid (by have := HST.out _ HBC.out; simpa using this)⟩
                    case measure => have := HG.out; omega
                · have e1 : ((ch : Int) == 65533) = true := by rw [beq_iff_eq]; omega
                  have e2 : ((n : Int) == 1) = false := by rw [beq_eq_false_iff_ne]; omega
                  have e4 : ((ch : Int) == 13) = false := by rw [beq_eq_false_iff_ne]; omega
                  have HBC : Hid (badCom S[k] t = false) := Lib.hid (by
                    unfold badCom
                    rw [← HLC.out, HCH.out, HN.out]
                    rw [HA.out]
                    simp [h655, hn', (by decide : isXChar 65533 = true)])
                  clear hx h655 hn'
                  go_wp2_with fail
                  go_roundg (S.size - (k + n))
                  case rel => exact ⟨k + n, q, rfl, by omega, by go_num, H2.out, HF3.out, Lib.hid (by have := HST.out _ HBC.out; simpa using this)⟩
                  case measure => have := HG.out; omega
              · have e1 : ((ch : Int) == 65533) = false := by rw [beq_eq_false_iff_ne]; omega
                by_cases h13 : ch = 13
                · have e4 : ((ch : Int) == 13) = true := by rw [beq_iff_eq]; omega
                  have HBC : Hid (badCom S[k] t = true) := Lib.hid (by
                    unfold badCom
                    rw [← HLC.out, HCH.out, HN.out]
                    simp [h13])
                  clear hx h655 h13
                  go_wp2_with fail
                  go_roundg (S.size - (k + n))
                  case rel => exact ⟨k + n, true, rfl, by omega, by go_num, H2.out.bad' true, HF3.out.setCell (p := ⟨b, 2, none⟩) hb _, Lib.hid (by have := HST.out _ HBC.out; simpa using this)⟩
                  case measure => have := HG.out; omega
                · have e4 : ((ch : Int) == 13) = false := by rw [beq_eq_false_iff_ne]; omega
                  have HBC : Hid (badCom S[k] t = false) := Lib.hid (by
                    unfold badCom
                    rw [← HLC.out, HCH.out, HN.out]
                    rw [HA.out]
                    simp [h13, h655, hx])
                  clear hx h655 h13
                  go_wp2_with fail
                  go_roundg (S.size - (k + n))
                  case rel => exact ⟨k + n, q, rfl, by omega, by go_num, H2.out, HF3.out, Lib.hid (by have := HST.out _ HBC.out; simpa using this)⟩
                  case measure => have := HG.out; omega
      · have e45 : ((S[k].toNat : Int) == 45) = false := by rw [beq_eq_false_iff_ne]; intro h; exact h45 (UInt8.toNat_inj.1 (show _ = 45 by omega))
        have HA : Hid ((S[k] == 45 && (t == [] || t.head? == some 45)) = false) := Lib.hid (by simp [h45])
        clear h45
        go_wp2_with fail
        refine (xChar_any _ _).mono ?_
        rintro e w3 ⟨rfl, rfl⟩
        rw [HXI.out]
        cases hx : isXChar ch with
        | false =>
          have HBC : Hid (badCom S[k] t = true) := Lib.hid (by
            unfold badCom
            rw [← HLC.out, HCH.out, HN.out]
            simp [hx])
          clear hx
          go_wp2_with fail
          go_roundg (S.size - (k + n))
          case rel => exact ⟨k + n, true, rfl, by omega, by go_num, H2.out.bad' true, HF3.out.setCell (p := ⟨b, 2, none⟩) hb _, Lib.hid (by have := HST.out _ HBC.out; simpa using this)⟩
          case measure => have := HG.out; omega
        | true =>
          by_cases h655 : ch = 65533
          · by_cases hn' : n = 1
            · by_cases hge : 128 ≤ S[k].toNat
              · have e1 : ((ch : Int) == 65533) = true := by rw [beq_iff_eq]; omega
                have e2 : ((n : Int) == 1) = true := by rw [beq_iff_eq]; omega
                have e3 : decide ((128 : Int) ≤ (S[k].toNat : Int)) = true := by simp; omega
                have HBC : Hid (badCom S[k] t = true) := Lib.hid (by
                  unfold badCom
                  rw [← HLC.out, HCH.out, HN.out]
                  simp [h655, hn', hge])
                clear hx h655 hn'
                go_wp2_with fail
                go_roundg (S.size - (k + n))
                case rel => exact ⟨k + n, true, rfl, by omega, by go_num, H2.out.bad' true, HF3.out.setCell (p := ⟨b, 2, none⟩) hb _, Lib.hid (by have := HST.out _ HBC.out; simpa using this)⟩
                case measure => have := HG.out; omega
              · have e1 : ((ch : Int) == 65533) = true := by rw [beq_iff_eq]; omega
                have e2 : ((n : Int) == 1) = true := by rw [beq_iff_eq]; omega
                have e3 : decide ((128 : Int) ≤ (S[k].toNat : Int)) = false := by simp; omega
                have e4 : ((ch : Int) == 13) = false := by rw [beq_eq_false_iff_ne]; omega
                have HBC : Hid (badCom S[k] t = false) := Lib.hid (by
                  unfold badCom
                  rw [← HLC.out, HCH.out, HN.out]
                  rw [HA.out]
                  simp [h655, hn', hge, (by decide : isXChar 65533 = true)])
                clear hx h655 hn'
                go_wp2_with fail
                go_roundg (S.size - (k + n))
                case rel => exact ⟨k + n, q, rfl, by omega, by go_num, H2.out, HF3.out, Lib.hid (by have := HST.out _ HBC.out; simpa using this)⟩
                case measure => have := HG.out; omega
            · have e1 : ((ch : Int) == 65533) = true := by rw [beq_iff_eq]; omega
              have e2 : ((n : Int) == 1) = false := by rw [beq_eq_false_iff_ne]; omega
              have e4 : ((ch : Int) == 13) = false := by rw [beq_eq_false_iff_ne]; omega
              have HBC : Hid (badCom S[k] t = false) := Lib.hid (by
                unfold badCom
                rw [← HLC.out, HCH.out, HN.out]
                rw [HA.out]
                simp [h655, hn', (by decide : isXChar 65533 = true)])
              clear hx h655 hn'
              go_wp2_with fail
              go_roundg (S.size - (k + n))
              case rel => exact ⟨k + n, q, rfl, by omega, by go_num, H2.out, HF3.out, Lib.hid (by have := HST.out _ HBC.out; simpa using this)⟩
              case measure => have := HG.out; omega
          · have e1 : ((ch : Int) == 65533) = false := by rw [beq_eq_false_iff_ne]; omega
            by_cases h13 : ch = 13
            · have e4 : ((ch : Int) == 13) = true := by rw [beq_iff_eq]; omega
              have HBC : Hid (badCom S[k] t = true) := Lib.hid (by
                unfold badCom
                rw [← HLC.out, HCH.out, HN.out]
                simp [h13])
              clear hx h655 h13
              go_wp2_with fail
              go_roundg (S.size - (k + n))
              case rel => exact ⟨k + n, true, rfl, by omega, by go_num, H2.out.bad' true, HF3.out.setCell (p := ⟨b, 2, none⟩) hb _, Lib.hid (by have := HST.out _ HBC.out; simpa using this)⟩
              case measure => have := HG.out; omega
            · have e4 : ((ch : Int) == 13) = false := by rw [beq_eq_false_iff_ne]; omega
              have HBC : Hid (badCom S[k] t = false) := Lib.hid (by
                unfold badCom
                rw [← HLC.out, HCH.out, HN.out]
                rw [HA.out]
                simp [h13, h655, hx])
              clear hx h655 h13
              go_wp2_with fail
              go_roundg (S.size - (k + n))
              case rel => exact ⟨k + n, q, rfl, by omega, by go_num, H2.out, HF3.out, Lib.hid (by have := HST.out _ HBC.out; simpa using this)⟩
              case measure => have := HG.out; omega
    · obtain rfl : k = S.size := by omega
      have HQ2 : Hid (q = R) := Lib.hid (by
        obtain ⟨f, hf1, hf2⟩ := HQ.out
        obtain ⟨g, rfl⟩ : ∃ g, f = g + 1 := ⟨f - 1, by omega⟩
        rw [List.drop_of_length_le (by rw [list_size]; exact Nat.le_refl _)] at hf2
        simpa [comOk] using hf2)
      go_wp2_with fail
      exact HFIN.out _ q HR2.out HF2.out HQ2.out

end Go.Proofs.YtlljphipglgjiaaGreatDoor

namespace Go.Proofs.YtlljphipglgjiaaGreatDoor
open Go.RowKit

/-- The row stayed where it was, or is new. -/
def RowAt (w : World) (v v' : Value) : Prop := v'.ownBlock = v.ownBlock ∨ ∃ g, v'.ownBlock = some g ∧ w.heap.size ≤ g

theorem run_append_where {P : Program} (w : World) (base : Nat) (t ty e : TypeId) (i : TypeInfo) (z : Value) (size bytes : Nat) (ht : P.underlying t = some (.slice e)) (hi : P.info? e = some i) (hz : i.zero = some z)
    (hsize : i.size = size) (hby : i.bytes = bytes) (hzs : z.cells.size = size) (hsz : 0 < size)
    (v : Value) (n : Nat) (xs : List Value) (hown : w.ownsRow base e size v n xs)
    (a : Addr) (m c : Nat) (news : List Value) (hl : news.length = m * size) (hnews : ∀ j u, news[j]? = some u → w.cell? (a.add j) = some u) (h1 : ∀ u ∈ news, u.oneCell' = true)
    (h63 : n + m ≤ maxLen) (hbytes : (n + m) * bytes ≤ 140737488355328) (hbase : base ≤ w.heap.size) :
    ∃ v' w', (Builtin.append_ #[t, t] ty #[v, .slice (some a) m c]).run P w = .ok v' w' ∧ w'.ownsRow base e size v' (n + m) (xs ++ news) ∧ w.grownBy w' v.ownBlock ∧ RowAt w v v' := by
  obtain ⟨v', w', hr, h2, h3, h4⟩ := run_append_own (P := P) w base t ty e i z size bytes ht hi hz hsize hby hzs hsz v n xs hown a m c news hl hnews h1 h63 hbytes hbase
  refine ⟨v', w', hr, h2, h3, ?_⟩
  rcases hown.2 with ⟨rfl, rfl⟩ | ⟨g, cap, cur, rfl, hbg, hg, hnc, hcm, hcs, htake⟩
  · have ho : w.ownsRow w.heap.size e size (.slice none 0 0) 0 xs := ⟨hown.1, .inl ⟨rfl, rfl⟩⟩
    obtain ⟨v2, w2, hr2, k2, -, -⟩ := run_append_own (P := P) w w.heap.size t ty e i z size bytes ht hi hz hsize hby hzs hsz _ 0 xs ho a m c news hl hnews h1 h63 hbytes (Nat.le_refl _)
    rw [hr] at hr2
    injection hr2 with e1 e2
    subst e1
    subst e2
    cases hv : v'.ownBlock with
    | none => exact .inl (hv.trans rfl)
    | some g => exact .inr ⟨g, hv, (k2.lt g hv).1⟩
  · by_cases hroom : n + m ≤ cap
    · have hfit : n * i.size + news.length ≤ cur.size := by rw [hl, hcs, hsize, ← Nat.add_mul]; exact Nat.mul_le_mul_right _ hroom
      have hr2 := run_append_room (P := P) w t ty e i ht hi g n cap cur hg a m c news (by rw [hl, hsize]) hnews h1 hroom hfit
      rw [hr] at hr2
      injection hr2 with e1 e2
      subst e1
      exact .inl rfl
    · have holds : ∀ j u, xs[j]? = some u → w.cell? ((⟨g, 0, none⟩ : Addr).add j) = some u := hown.cells (g := g) rfl
      subst hsize
      subst hby
      have hsmall : n + m ≤ 9223372036854775807 := by simp only [maxLen] at h63; omega
      have hr2 := run_append_grow (P := P) w t ty e i z ht hi hz ⟨g, 0, none⟩ n cap xs hown.1 holds a m c news hl hnews (by omega) (by omega) (growslice_fits (by omega) hbytes)
      rw [hr] at hr2
      injection hr2 with e1 e2
      subst e1
      exact .inr ⟨_, rfl, Nat.le_refl _⟩

theorem wp_append_where {P : Program} (w : World) {o : Oper} {a : Act} {K : Act → World → Prop} {Q : Exit → Act → World → Prop} (s x : Operand) (t : TypeId)
    (ho : o.op = .call { callee := .builtin .append, args := #[s, x], argTypes := #[t, t] })
    (base : Nat) (e : TypeId) (i : TypeInfo) (z : Value) (size bytes : Nat) (ht : P.underlying t = some (.slice e)) (hi : P.info? e = some i) (hz : i.zero = some z)
    (hsize : i.size = size) (hby : i.bytes = bytes) (hzs : z.cells.size = size) (hsz : 0 < size)
    (v : Value) (n : Nat) (xs : List Value) (hs : a.eval s = v) (hown : w.ownsRow base e size v n xs)
    (ad : Addr) (m c : Nat) (news : List Value) (hx : a.eval x = .slice (some ad) m c) (hl : news.length = m * size) (hnews : ∀ j u, news[j]? = some u → w.cell? (ad.add j) = some u) (h1 : ∀ u ∈ news, u.oneCell' = true)
    (h63 : n + m ≤ maxLen) (hbytes : (n + m) * bytes ≤ 140737488355328) (hbase : base ≤ w.heap.size)
    (h : ∀ v' w', w'.ownsRow base e size v' (n + m) (xs ++ news) → w.grownBy w' v.ownBlock → RowAt w v v' → K (a.put o.dst v') w') : o.wp P a w K Q := by
  obtain ⟨v', w', hr, h2, h3, h4⟩ := run_append_where (P := P) w base t o.type e i z size bytes ht hi hz hsize hby hzs hsz v n xs hown ad m c news hl hnews h1 h63 hbytes hbase
  unfold Oper.wp execOp
  simp only [ho, resolve, invoke, builtin, Sem.run_bind, Sem.run_pure, Result.andThen_ok, List.map_toArray, List.map_cons, List.map_nil, hs, hx, hr]
  exact h v' w' h2 h3 h4

theorem wpList_append_where {P : Program} (w : World) {ops : Array Oper} {rest : List Oper} {o : Oper} {a : Act} {Q : Exit → Act → World → Prop} (hgd : o.guard = none) (s x : Operand) (t : TypeId)
    (ho : o.op = .call { callee := .builtin .append, args := #[s, x], argTypes := #[t, t] })
    (base : Nat) (e : TypeId) (i : TypeInfo) (z : Value) (size bytes : Nat) (ht : P.underlying t = some (.slice e)) (hi : P.info? e = some i) (hz : i.zero = some z)
    (hsize : i.size = size) (hby : i.bytes = bytes) (hzs : z.cells.size = size) (hsz : 0 < size)
    (v : Value) (n : Nat) (xs : List Value) (hs : a.eval s = v) (hown : w.ownsRow base e size v n xs)
    (ad : Addr) (m c : Nat) (news : List Value) (hx : a.eval x = .slice (some ad) m c) (hl : news.length = m * size) (hnews : ∀ j u, news[j]? = some u → w.cell? (ad.add j) = some u) (h1 : ∀ u ∈ news, u.oneCell' = true)
    (h63 : n + m ≤ maxLen) (hbytes : (n + m) * bytes ≤ 140737488355328) (hbase : base ≤ w.heap.size)
    (h : ∀ v' w', w'.ownsRow base e size v' (n + m) (xs ++ news) → w.grownBy w' v.ownBlock → RowAt w v v' → wpList P ops Q rest (a.put o.dst v') w') : wpList P ops Q (o :: rest) a w :=
  wpList_plain hgd fun _ hK => wp_append_where w s x t ho base e i z size bytes ht hi hz hsize hby hzs hsz v n xs hs hown ad m c news hx hl hnews h1 h63 hbytes hbase fun v' w' h2 h3 h4 => hK _ _ (h v' w' h2 h3 h4)

end Go.Proofs.YtlljphipglgjiaaGreatDoor

namespace Go.Proofs.YtlljphipglgjiaaGreatDoor
open Go.RowKit

def AttrS.cells (a : AttrS) : List Value := [.string a.sp, .string a.loc, .string a.val]
/-- The slice v holds these attributes (type T). -/
def AttrsT (T : TypeId) (w : World) (v : Value) (l : List AttrS) : Prop := w.ownsRow 0 T 3 v l.length (l.flatMap AttrS.cells)

theorem AttrsT.cases {T : TypeId} {w : World} {v : Value} {l : List AttrS} (h : AttrsT T w v l) :
    (v = .slice none 0 0 ∧ l = []) ∨
    ∃ g cap cur, v = .slice (some ⟨g, 0, none⟩) l.length cap ∧ w.heap[g]? = some (.cells cur T (0, 0)) ∧ l.length ≤ cap ∧ cap ≤ maxLen ∧ cur.size = cap * 3 ∧ cur.toList.take (l.length * 3) = l.flatMap AttrS.cells := by
  obtain ⟨h1, ⟨rfl, h2⟩ | ⟨g, cap, cur, rfl, _, hg, hl, hm, hs, ht⟩⟩ := h
  · exact .inl ⟨rfl, List.eq_nil_of_length_eq_zero h2⟩
  · exact .inr ⟨g, cap, cur, rfl, hg, hl, hm, by omega, by simpa using ht⟩

theorem flatN_get {α : Type} (n : Nat) (f : α → List Value) (hf : ∀ a, (f a).length = n) : ∀ (l : List α) (k j : Nat) (hk : k < l.length) (_ : j < n), (l.flatMap f)[k * n + j]? = (f l[k])[j]?
  | [], k, j, hk, _ => by simp at hk
  | a :: t, 0, j, hk, hj => by
    rw [List.flatMap_cons, List.getElem?_append_left (by rw [hf]; omega)]
    simp
  | a :: t, k + 1, j, hk, hj => by
    rw [List.flatMap_cons, List.getElem?_append_right (by rw [hf, Nat.succ_mul]; omega), hf]
    have := flatN_get n f hf t k j (by simpa using hk) hj
    rw [show (k + 1) * n + j - n = k * n + j by rw [Nat.succ_mul]; omega]
    simpa using this
theorem flatN_length {α : Type} (n : Nat) (f : α → List Value) (hf : ∀ a, (f a).length = n) : ∀ (l : List α), (l.flatMap f).length = l.length * n
  | [] => by simp
  | a :: t => by rw [List.flatMap_cons, List.length_append, flatN_length n f hf t, hf, List.length_cons, Nat.succ_mul]; omega

theorem AttrsT.cell {T : TypeId} {w : World} {g : Nat} {cur : Array Value} {l : List AttrS} (hg : w.heap[g]? = some (.cells cur T (0, 0))) (ht : cur.toList.take (l.length * 3) = l.flatMap AttrS.cells) (k j : Nat) (hk : k < l.length) (hj : j < 3) :
    w.cell? ⟨g, k * 3 + j, none⟩ = (l[k].cells)[j]? := by
  rw [cell_of_row w g _ cur T (0, 0) hg, ← flatN_get 3 AttrS.cells (fun _ => rfl) l k j hk hj, ← ht, List.getElem?_take_of_lt (by omega), Array.getElem?_toList]

theorem owns_fr {M : Nat → Prop} {w w' : World} {base E size n : Nat} {v : Value} {xs : List Value} (h : w.ownsRow base E size v n xs) (f : Fr M w w') (hd : ∀ g, v.ownBlock = some g → ¬ M g) : w'.ownsRow base E size v n xs := by
  refine ⟨h.1, ?_⟩
  rcases h.2 with hn | ⟨g, cap, cur, rfl, hb, hg, rest⟩
  · exact .inl hn
  · exact .inr ⟨g, cap, cur, rfl, hb, f.heap hg (hd g rfl), rest⟩
theorem AttrsT.fr {T : TypeId} {M : Nat → Prop} {w w' : World} {v : Value} {l : List AttrS} (h : AttrsT T w v l) (f : Fr M w w') (hd : ∀ g, v.ownBlock = some g → ¬ M g) : AttrsT T w' v l := owns_fr h f hd
theorem AttrsT.nil (T : TypeId) (w : World) : AttrsT T w (.slice none 0 0) [] := ⟨rfl, .inl ⟨rfl, rfl⟩⟩

/-- The four cells of an element whose attributes and kids lie at these slices. -/
def kidCells (p : XEl × Value × Value) : List Value := [.string (bst p.1.name), p.2.1, .string (bst p.1.text), p.2.2]

/-- An element whose attributes are the slice av, whose kids the slice kv; all its rows lie in blocks of which D holds. -/
inductive ElM (TA TE : TypeId) (w : World) : (Nat → Prop) → Value → Value → XEl → Prop
  | mk (D : Nat → Prop) (n t : List UInt8) (l : List AttrS) (ks : List (XEl × Value × Value)) (av kv : Value) :
      AttrsT TA w av l → (∀ g, av.ownBlock = some g → D g) → w.ownsRow 0 TE 4 kv ks.length (ks.flatMap kidCells) → (∀ g, kv.ownBlock = some g → D g) →
      (∀ k (h : k < ks.length), ElM TA TE w (fun x => D x ∧ kv.ownBlock ≠ some x) (ks[k].2.1) (ks[k].2.2) (ks[k].1)) → ElM TA TE w D av kv (.mk n l t (ks.map (·.1)))

section
variable {TA TE : TypeId} {w w' : World} {D : Nat → Prop} {av kv : Value} {e : XEl}
theorem ElM.fr {M : Nat → Prop} (h : ElM TA TE w D av kv e) (f : Fr M w w') (hd : ∀ x, D x → ¬ M x) : ElM TA TE w' D av kv e := by
  induction h with
  | mk D n t l ks av kv h1 h2 h3 h4 _ ih =>
    exact .mk D n t l ks av kv (h1.fr f fun g hg => hd g (h2 g hg)) h2 (owns_fr h3 f fun g hg => hd g (h4 g hg)) h4 fun k hk => ih k hk fun x hx => hd x hx.1
theorem ElM.mono {D' : Nat → Prop} (h : ElM TA TE w D av kv e) (hd : ∀ x, D x → D' x) : ElM TA TE w D' av kv e := by
  induction h generalizing D' with
  | mk D n t l ks av kv h1 h2 h3 h4 _ ih =>
    exact .mk D' n t l ks av kv h1 (fun g hg => hd g (h2 g hg)) h3 (fun g hg => hd g (h4 g hg)) fun k hk => ih k hk fun x hx => ⟨hd x hx.1, hx.2⟩
/-- The kids ks lie at kv; their own rows in D, none of them in kv's. -/
def KidsM (TA TE : TypeId) (w : World) (D : Nat → Prop) (kv : Value) (ks : List (XEl × Value × Value)) : Prop :=
  w.ownsRow 0 TE 4 kv ks.length (ks.flatMap kidCells) ∧ (∀ g, kv.ownBlock = some g → D g) ∧ ∀ k (h : k < ks.length), ElM TA TE w (fun x => D x ∧ kv.ownBlock ≠ some x) (ks[k].2.1) (ks[k].2.2) (ks[k].1)
theorem KidsM.nil (D : Nat → Prop) : KidsM TA TE w D (.slice none 0 0) [] := ⟨⟨rfl, .inl ⟨rfl, rfl⟩⟩, fun _ h => by simp [Value.ownBlock] at h, fun k h => by simp at h⟩
theorem KidsM.fr {M : Nat → Prop} {ks : List (XEl × Value × Value)} (h : KidsM TA TE w D kv ks) (f : Fr M w w') (hd : ∀ x, D x → ¬ M x) : KidsM TA TE w' D kv ks :=
  ⟨owns_fr h.1 f fun g hg => hd g (h.2.1 g hg), h.2.1, fun k hk => (h.2.2 k hk).fr f fun x hx => hd x hx.1⟩
theorem KidsM.mono {D' : Nat → Prop} {ks : List (XEl × Value × Value)} (h : KidsM TA TE w D kv ks) (hd : ∀ x, D x → D' x) : KidsM TA TE w D' kv ks :=
  ⟨h.1, fun g hg => hd g (h.2.1 g hg), fun k hk => (h.2.2 k hk).mono fun x hx => ⟨hd x hx.1, hx.2⟩⟩
/-- One kid more: its tree lies in D beside the kids; the kids' row was grown from w to w'. -/
theorem KidsM.snoc {ks : List (XEl × Value × Value)} {p : XEl × Value × Value} {kv' : Value} {D' : Nat → Prop} (h : KidsM TA TE w D kv ks) (hp : ElM TA TE w (fun x => D x ∧ kv.ownBlock ≠ some x) p.2.1 p.2.2 p.1)
    (hlt : ∀ x, D x → x < w.heap.size) (hown : w'.ownsRow 0 TE 4 kv' (ks.length + 1) (ks.flatMap kidCells ++ kidCells p)) (hg : w.grownBy w' kv.ownBlock) (hat : RowAt w kv kv')
    (hD : ∀ x, D x → D' x) (hD' : ∀ x, w.heap.size ≤ x → x < w'.heap.size → D' x) : KidsM TA TE w' D' kv' (ks ++ [p]) := by
  have f : Fr (fun x => w.heap.size ≤ x ∨ kv.ownBlock = some x) w w' :=
    ⟨hg.os, hg.tape, hg.output, hg.size, fun k hk => by
      rcases Nat.lt_or_ge k w.heap.size with h1 | h1
      · exact hg.block k h1 fun e => hk (.inr e.symm)
      · exact absurd (.inl h1) hk⟩
  have hrow : ∀ g, kv'.ownBlock = some g → D' g := by
    intro g hgo
    rcases hat with h1 | ⟨g2, h1, h2⟩
    · exact hD g (h.2.1 g (h1 ▸ hgo))
    · rw [hgo] at h1
      injection h1 with h1
      subst h1
      exact hD' g h2 (hown.lt g hgo).2
  have hel : ∀ {a b : Value} {e : XEl}, ElM TA TE w (fun x => D x ∧ kv.ownBlock ≠ some x) a b e → ElM TA TE w' (fun x => D' x ∧ kv'.ownBlock ≠ some x) a b e := fun he =>
    (he.fr f fun x hx hM => by
      rcases hM with h1 | h1
      · have := hlt x hx.1; omega
      · exact hx.2 h1).mono fun x hx => ⟨hD x hx.1, fun e => by
        rcases hat with h1 | ⟨g2, h1, h2⟩
        · exact hx.2 (h1 ▸ e)
        · rw [h1] at e
          injection e with e
          subst e
          have := hlt _ hx.1
          omega⟩
  refine ⟨by simpa using hown, hrow, fun k hk => ?_⟩
  by_cases hk2 : k < ks.length
  · rw [List.getElem_append_left hk2]
    exact hel (h.2.2 k hk2)
  · have : k = ks.length := by simp at hk; omega
    subst this
    rw [List.getElem_append_right (Nat.le_refl _)]
    simpa using hel hp
end

end Go.Proofs.YtlljphipglgjiaaGreatDoor

namespace Go.Proofs.YtlljphipglgjiaaGreatDoor
open Go.RowKit Go.Lib
set_option linter.unusedSimpArgs false

set_option maxRecDepth 100000 in
set_option maxHeartbeats 4000000 in
theorem text_bad (M : Nat → Prop) (b : Nat) (s : ByteArray) (i : Nat) (a c : UInt8) (w : World) (hR : RdM M w b s i true) :
    Calls Tryz.prog 104 #[.pointer (some ⟨b, 0, none⟩), .int .u8 a.toNat, .int .u8 c.toNat] w fun e w' => e = .returned (.string ⟨#[]⟩) ∧ ∃ n, w.drewN n = w' := by
  have c0 := hR.c0
  have c1 := hR.c1
  have c2 := hR.c2
  have hss := hR.2.2.1
  have hi := hR.2.2.2.1
  clear hR
  have HEA : ∀ (h : i < s.size) (x : UInt8), s[i] = x → ((s[i].toNat : Int) != (x.toNat : Int)) = false := fun hh x h => by rw [h]; exact bne_self_eq_false _
  have HNA : ∀ (h : i < s.size) (x : UInt8), s[i] ≠ x → ((s[i].toNat : Int) != (x.toNat : Int)) = true := fun hh x h => by
    rw [bne_iff_ne]
    intro e
    exact h (UInt8.toNat_inj.1 (by omega))
  by_cases his : i < s.size
  · by_cases hka : s[i] = a
    · have e1 := HEA his a hka
      clear hka HEA HNA
      go_enter Tryz.func104, Tryz.ntmps104
      go_wp2_with fail
      refine wp_loop_once ?_
      go_wp2_with fail
      go_quiet (fail)
      go_wp2_with fail
      go_ret
      exact ⟨rfl, _, rfl⟩
    by_cases hkc : s[i] = c
    · have e1 := HNA his a hka
      have e2 := HEA his c hkc
      clear hka hkc HEA HNA
      go_enter Tryz.func104, Tryz.ntmps104
      go_wp2_with fail
      refine wp_loop_once ?_
      go_wp2_with fail
      go_quiet (fail)
      go_wp2_with fail
      go_ret
      exact ⟨rfl, _, rfl⟩
    have e1 := HNA his a hka
    have e2 := HNA his c hkc
    clear hka hkc HEA HNA
    go_enter Tryz.func104, Tryz.ntmps104
    go_wp2_with fail
    refine wp_loop_once ?_
    go_wp2_with fail
    go_quiet (fail)
    go_wp2_with fail
    go_ret
    exact ⟨rfl, _, rfl⟩
  · clear HEA HNA
    have d1 : decide ((i : Int) < (s.size : Int)) = false := by simp; omega
    go_enter Tryz.func104, Tryz.ntmps104
    go_wp2_with fail
    refine wp_loop_once ?_
    go_wp2_with fail
    go_quiet (fail)
    go_wp2_with fail
    go_ret
    exact ⟨rfl, _, rfl⟩

/-- text, bad already or not. -/
theorem text_total (M : Nat → Prop) (b : Nat) (s : ByteArray) (i : Nat) (bad : Bool) (a c : UInt8) (w : World) (hR : RdM M w b s i bad) (hE : Errs M w) (F : Nat) (hF : s.size < F + i) :
    Calls Tryz.prog 104 #[.pointer (some ⟨b, 0, none⟩), .int .u8 a.toNat, .int .u8 c.toNat] w (StrPost M b s i w (if bad then none else txtF a c F (s.data.toList.drop i))) := by
  cases bad with
  | false => simpa using text_any M b s i false a c w hR hE F hF rfl
  | true =>
    refine (text_bad M b s i a c w hR).mono ?_
    rintro e w' ⟨rfl, n, rfl⟩
    exact ⟨[], i, true, rfl, hR.drewN n, (Fr.refl _ _).drewN n, Nat.le_refl _, by simp, rfl⟩

theorem has_any (M : Nat → Prop) (b : Nat) (s : ByteArray) (i : Nat) (bad : Bool) (wd : ByteArray) (w : World) (h : RdM M w b s i bad) (hwd : wd.size ≤ 1000) (r : Bool) (hr : hasB s i wd = r) :
    Calls Tryz.prog 52 #[.pointer (some ⟨b, 0, none⟩), .string wd] w fun e w' => e = .returned (.bool r) ∧ RdM M w' b s (if r then i + wd.size else i) bad ∧ Fr (fun k => k = b) w w' := by
  cases r with
  | true => exact rd_has_yes M b s i bad wd w h hwd hr
  | false =>
    refine (rd_has_no M b s i bad wd w h hwd hr).mono ?_
    rintro e w' ⟨rfl, n, rfl⟩
    exact ⟨rfl, h.drewN n, (Fr.refl _ _).drewN n⟩

section
variable {M : Nat → Prop} {w w' wr : World} {b k a : Nat} {s : ByteArray} {bd : Bool}
theorem RdM.lt (h : RdM M w b s k bd) : b < w.heap.size := h.2.2.2.2.lt
theorem RdM.out (h : RdM M wr b s k bd) (hb : b < a) : RdM (Out M a wr.heap.size) wr b s k bd :=
  ⟨⟨h.1, .inl hb⟩, fun x hx => ⟨h.2.1 x hx, .inr hx⟩, h.2.2.1, h.2.2.2.1, h.2.2.2.2⟩
theorem RdM.back {c : Nat} (h : RdM (Out M a c) w' b s k bd) (hN : New M w') : RdM M w' b s k bd := ⟨h.1.1, hN, h.2.2.1, h.2.2.2.1, h.2.2.2.2⟩
theorem Errs.out {c : Nat} (h : Errs M w) : Errs (Out M a c) w := ⟨h.1, h.2.1, fun x => h.2.2.1 x.1, fun x => h.2.2.2 x.1⟩
theorem Errs.lt (h : Errs M w) : 7 < w.heap.size ∧ 8 < w.heap.size := by
  obtain ⟨⟨t, p, h1⟩, ⟨t2, p2, h2⟩, -⟩ := h
  exact ⟨World.block_lt_of_cell? w _ h1, World.block_lt_of_cell? w _ h2⟩
end

theorem rows_ne {w : World} {base E size n k : Nat} {T : TypeId} {v : Value} {xs : List Value} {cs : Array Value} (h : w.ownsRow base E size v n xs) (hk : Blk w k T cs) (hT : T ≠ E) : v.ownBlock ≠ some k := by
  intro e
  rcases h.2 with ⟨rfl, _⟩ | ⟨g, cap, cur, rfl, _, hg, _⟩
  · cases e
  · cases e
    unfold Blk at hk
    rw [hg] at hk
    injection hk with hk
    injection hk with _ hk
    exact hT hk.symm
theorem row_fr {w w2 : World} {row : Option Nat} (hg : w.grownBy w2 row) : Fr (fun x => w.heap.size ≤ x ∨ row = some x) w w2 :=
  ⟨hg.os, hg.tape, hg.output, hg.size, fun x hx => by
    rcases Nat.lt_or_ge x w.heap.size with h1 | h1
    · exact hg.block x h1 fun e => hx (.inr e.symm)
    · exact absurd (.inl h1) hx⟩
theorem one_fr (w : World) (g q : Nat) (v : Value) : Fr (fun x => x = g) w (w.setCell ⟨g, q, none⟩ v) := Fr.setCell (M := fun x => x = g) (Fr.refl _ _) (p := ⟨g, q, none⟩) rfl v
def elZero : Array Value := #[.string ⟨#[]⟩, .slice none 0 0, .string ⟨#[]⟩, .slice none 0 0]

/-- An element's reading: the reader; the result's block N0 and the element's own N1, behind the world w0. -/
structure ElSt (M : Nat → Prop) (b : Nat) (s : ByteArray) (w0 wr : World) (N0 N1 : Nat) (nm : List UInt8) (av kv : Value) (k : Nat) (bd : Bool) : Prop where
  rd : RdM M wr b s k bd
  fr : Fr M w0 wr
  errs : Errs M wr
  nw : New M w0
  b0 : b < w0.heap.size
  l0 : w0.heap.size ≤ N0
  l1 : N0 < N1
  k0 : Blk wr N0 25 elZero
  k1 : Blk wr N1 25 #[.string (bst nm), av, .string ⟨#[]⟩, kv]

section
variable {M : Nat → Prop} {b : Nat} {s : ByteArray} {w0 wr w' : World} {N0 N1 : Nat} {nm : List UInt8} {av kv : Value} {k k' : Nat} {bd bd' : Bool}
theorem ElSt.stepB (h : ElSt M b s w0 wr N0 N1 nm av kv k bd) (hr : RdM M w' b s k' bd') (hf : Fr (fun x => x = b) wr w') : ElSt M b s w0 w' N0 N1 nm av kv k' bd' := by
  have f : Fr M wr w' := hf.mono fun x hx => by rw [hx]; exact h.rd.1
  exact ⟨hr, h.fr.trans f, h.errs.fr f, h.nw, h.b0, h.l0, h.l1, h.k0.fr hf (by have := h.b0; have := h.l0; omega), h.k1.fr hf (by have := h.b0; have := h.l0; have := h.l1; omega)⟩
theorem ElSt.stepO (h : ElSt M b s w0 wr N0 N1 nm av kv k bd) (hr : RdM (Out M w0.heap.size wr.heap.size) w' b s k' bd') (hf : Fr (Out M w0.heap.size wr.heap.size) wr w') : ElSt M b s w0 w' N0 N1 nm av kv k' bd' := by
  have f : Fr M wr w' := hf.mono fun x hx => hx.1
  have := h.l0
  have := h.l1
  exact ⟨hr.back (h.rd.2.1.fr f), h.fr.trans f, h.errs.fr f, h.nw, h.b0, h.l0, h.l1, h.k0.fr hf (not_Out h.l0 h.k0.lt), h.k1.fr hf (not_Out (by omega) h.k1.lt)⟩
theorem ElSt.drewN (h : ElSt M b s w0 wr N0 N1 nm av kv k bd) (n : Nat) : ElSt M b s w0 (wr.drewN n) N0 N1 nm av kv k bd := ⟨h.rd.drewN n, h.fr.drewN n, h.errs, h.nw, h.b0, h.l0, h.l1, h.k0, h.k1⟩
theorem ElSt.rdO (h : ElSt M b s w0 wr N0 N1 nm av kv k bd) : RdM (Out M w0.heap.size wr.heap.size) wr b s k bd := h.rd.out h.b0
theorem ElSt.below (h : ElSt M b s w0 wr N0 N1 nm av kv k bd) (hb : Below wr.heap.size wr w') : ElSt M b s w0 w' N0 N1 nm av kv k bd := by
  have f : Fr M wr w' := Fr.below hb (Nat.le_refl _) h.rd.2.1
  exact ⟨h.rd.below hb, h.fr.trans f, h.errs.fr f, h.nw, h.b0, h.l0, h.l1, (hb.block _ h.k0.lt).trans h.k0, (hb.block _ h.k1.lt).trans h.k1⟩
end

end Go.Proofs.YtlljphipglgjiaaGreatDoor

namespace Go.Proofs.YtlljphipglgjiaaGreatDoor
open Go.RowKit Go.Lib

/-- Behind the world w0: the reader of s at place k; blocks N0, N1; the attributes and the kids, in rows from w0's size up to top. -/
structure ElS (M : Nat → Prop) (b : Nat) (s : ByteArray) (w0 wr : World) (N0 N1 top : Nat) (nm : List UInt8) (al : List AttrS) (ks : List (XEl × Value × Value)) (av kv : Value) (k : Nat) (bd : Bool) : Prop where
  st : ElSt M b s w0 wr N0 N1 nm av kv k bd
  at' : AttrsT 49 wr av al
  lo : ∀ g, av.ownBlock = some g → w0.heap.size ≤ g ∧ g < top
  kd : KidsM 49 25 wr (fun x => w0.heap.size ≤ x ∧ x < top ∧ x ≠ N0 ∧ x ≠ N1) kv ks
  nt : N1 < top
  ts : top ≤ wr.heap.size

section
variable {M : Nat → Prop} {b : Nat} {s : ByteArray} {w0 wr w' : World} {N0 N1 top : Nat} {nm : List UInt8} {al : List AttrS} {ks : List (XEl × Value × Value)} {av kv : Value} {k k' : Nat} {bd bd' : Bool}
theorem ElS.stepB (h : ElS M b s w0 wr N0 N1 top nm al ks av kv k bd) (hr : RdM M w' b s k' bd') (hf : Fr (fun x => x = b) wr w') : ElS M b s w0 w' N0 N1 top nm al ks av kv k' bd' :=
  ⟨h.st.stepB hr hf, h.at'.fr hf fun g hg e => by have := (h.lo g hg).1; have := h.st.b0; omega, h.lo, h.kd.fr hf fun x hx e => by have := hx.1; have := h.st.b0; omega, h.nt, Nat.le_trans h.ts hf.size⟩
theorem ElS.stepO (h : ElS M b s w0 wr N0 N1 top nm al ks av kv k bd) (hr : RdM (Out M w0.heap.size wr.heap.size) w' b s k' bd') (hf : Fr (Out M w0.heap.size wr.heap.size) wr w') : ElS M b s w0 w' N0 N1 top nm al ks av kv k' bd' :=
  ⟨h.st.stepO hr hf, h.at'.fr hf fun g hg => not_Out (h.lo g hg).1 (Nat.lt_of_lt_of_le (h.lo g hg).2 h.ts), h.lo, h.kd.fr hf fun _ hx => not_Out hx.1 (Nat.lt_of_lt_of_le hx.2.1 h.ts), h.nt, Nat.le_trans h.ts hf.size⟩
theorem ElS.below (h : ElS M b s w0 wr N0 N1 top nm al ks av kv k bd) (hb : Below wr.heap.size wr w') : ElS M b s w0 w' N0 N1 top nm al ks av kv k bd :=
  have f : Fr (fun x => wr.heap.size ≤ x) wr w' := Fr.below hb (Nat.le_refl _) fun _ hx => hx
  ⟨h.st.below hb, h.at'.fr f fun g hg e => by have := (h.lo g hg).2; have := h.ts; omega, h.lo, h.kd.fr f fun x hx e => by have := hx.2.1; have := h.ts; omega, h.nt, Nat.le_trans h.ts hb.size⟩
theorem ElS.drewN (h : ElS M b s w0 wr N0 N1 top nm al ks av kv k bd) (n : Nat) : ElS M b s w0 (wr.drewN n) N0 N1 top nm al ks av kv k bd :=
  h.below ⟨rfl, rfl, rfl, Nat.le_refl _, fun _ _ => rfl⟩
theorem ElS.alloc (h : ElS M b s w0 wr N0 N1 top nm al ks av kv k bd) (o : Obj) : ElS M b s w0 (wr.alloc o) N0 N1 top nm al ks av kv k bd := h.below ((Below.refl _ _).alloc (Nat.le_refl _) _)
theorem ElS.newM (h : ElS M b s w0 wr N0 N1 top nm al ks av kv k bd) (x : Nat) (hx : wr.heap.size ≤ x) : M x := h.st.rd.2.1 x hx
/-- A store into a block that came behind all that is looked at. -/
theorem ElS.setOther (h : ElS M b s w0 wr N0 N1 top nm al ks av kv k bd) {q : Nat} (hq : top ≤ q) (hM : M q) (o : Nat) (v : Value) : ElS M b s w0 (wr.setCell ⟨q, o, none⟩ v) N0 N1 top nm al ks av kv k bd := by
  have f : Fr (fun x => x = q) wr (wr.setCell ⟨q, o, none⟩ v) := Fr.setCell (M := fun x => x = q) (Fr.refl _ _) (p := ⟨q, o, none⟩) rfl v
  have fM : Fr M wr (wr.setCell ⟨q, o, none⟩ v) := f.mono fun x hx => by rw [hx]; exact hM
  have h1 := h.st.b0
  have h2 := h.st.l0
  have h3 := h.st.l1
  have h4 := h.nt
  refine ⟨⟨⟨h.st.rd.1, h.st.rd.2.1.fr f, h.st.rd.2.2.1, h.st.rd.2.2.2.1, h.st.rd.2.2.2.2.fr f (by omega)⟩, h.st.fr.trans fM, h.st.errs.fr fM, h.st.nw, h1, h2, h3, h.st.k0.fr f (by omega), h.st.k1.fr f (by omega)⟩, h.at'.fr f fun g hg e => by have := (h.lo g hg).2; omega, h.lo,
    h.kd.fr f fun x hx e => by have := hx.2.1; omega, h.nt, by simpa [World.setCell] using h.ts⟩
/-- The reader is bad. -/
theorem ElS.bad (h : ElS M b s w0 wr N0 N1 top nm al ks av kv k bd) (q : Bool) : ElS M b s w0 (wr.setCell ⟨b, 2, none⟩ (.bool q)) N0 N1 top nm al ks av kv k q :=
  h.stepB (h.st.rd.bad' q) (Fr.setCell (M := fun x => x = b) (Fr.refl _ _) (p := ⟨b, 2, none⟩) rfl _)
theorem ElS.atTop (h : ElS M b s w0 wr N0 N1 top nm al ks av kv k bd) : ElS M b s w0 wr N0 N1 wr.heap.size nm al ks av kv k bd :=
  ⟨h.st, h.at', fun g hg => ⟨(h.lo g hg).1, Nat.lt_of_lt_of_le (h.lo g hg).2 h.ts⟩, h.kd.mono fun _ hx => ⟨hx.1, Nat.lt_of_lt_of_le hx.2.1 h.ts, hx.2.2⟩, Nat.lt_of_lt_of_le h.nt h.ts, Nat.le_refl _⟩
theorem ElS.rowM (h : ElS M b s w0 wr N0 N1 top nm al ks av kv k bd) {row : Value} (hr : ∀ x, row.ownBlock = some x → w0.heap.size ≤ x) {w2 : World} (hg : wr.grownBy w2 row.ownBlock) : Fr M wr w2 :=
  (row_fr hg).mono fun x hx => by
    rcases hx with hx | hx
    · exact h.newM x hx
    · exact h.st.nw x (hr x hx)
theorem rowAt_lo {w0s : Nat} {w : World} {v v2 : Value} (hat : RowAt w v v2) (h0 : w0s ≤ w.heap.size) (hv : ∀ x, v.ownBlock = some x → w0s ≤ x) : ∀ x, v2.ownBlock = some x → w0s ≤ x := fun x hx => by
  rcases hat with e | ⟨g, e, hlt⟩
  · exact hv x (e ▸ hx)
  · rw [hx] at e
    injection e with e
    subst e
    omega
/-- An attribute more: its row was grown, then stored. -/
theorem ElS.attr {w2 : World} {av2 : Value} {a : AttrS} (h : ElS M b s w0 wr N0 N1 top nm al [] av (.slice none 0 0) k bd) (hown : w2.ownsRow 0 49 3 av2 (al.length + 1) (al.flatMap AttrS.cells ++ a.cells)) (hg : wr.grownBy w2 av.ownBlock) (hat : RowAt wr av av2) :
    ElS M b s w0 (w2.setCell ⟨N1, 1, none⟩ av2) N0 N1 w2.heap.size nm (al ++ [a]) [] av2 (.slice none 0 0) k bd := by
  have h1 := h.st.b0
  have h2 := h.st.l0
  have h3 := h.st.l1
  have h4 := h.nt
  have h5 := h.ts
  have hlo := rowAt_lo hat h.st.fr.size fun x hx => (h.lo x hx).1
  have n0 := rows_ne h.at' h.st.k0 (by decide)
  have n1 := rows_ne h.at' h.st.k1 (by decide)
  have f := row_fr hg
  have fM := h.rowM (fun x hx => (h.lo x hx).1) hg
  have f1 := one_fr w2 N1 1 av2
  have fM1 : Fr M w2 (w2.setCell ⟨N1, 1, none⟩ av2) := f1.mono fun x hx => by rw [hx]; exact h.st.nw _ (by omega)
  have hb : ¬ (wr.heap.size ≤ b ∨ av.ownBlock = some b) := fun e => by
    rcases e with e | e
    · omega
    · have := (h.lo b e).1; omega
  have k1 : Blk w2 N1 25 #[.string (bst nm), av, .string ⟨#[]⟩, .slice none 0 0] := h.st.k1.fr f fun e => by
    rcases e with e | e
    · omega
    · exact n1 e
  have k0 : Blk w2 N0 25 elZero := h.st.k0.fr f fun e => by
    rcases e with e | e
    · omega
    · exact n0 e
  have hown' : w2.ownsRow 0 49 3 av2 (al ++ [a]).length ((al ++ [a]).flatMap AttrS.cells) := by simpa using hown
  refine ⟨⟨⟨h.st.rd.1, (h.st.rd.2.1.fr f).fr f1, h.st.rd.2.2.1, h.st.rd.2.2.2.1, (h.st.rd.2.2.2.2.fr f hb).fr f1 (by omega)⟩, (h.st.fr.trans fM).trans fM1, (h.st.errs.fr fM).fr fM1, h.st.nw, h1, h2, h3, k0.fr f1 (by omega), (k1.set 1 av2).eq rfl⟩,
    AttrsT.fr hown' f1 fun g hg e => ?_, fun g hg => ⟨hlo g hg, (hown.lt g hg).2⟩, ?_, by have := hg.size; omega, by simp [World.setCell]⟩
  · subst e
    exact rows_ne hown k1 (by decide) hg
  · exact KidsM.nil _
/-- A kid more: its row was grown, then stored. -/
theorem ElS.kid {w2 : World} {kv2 : Value} {p : XEl × Value × Value} (h : ElS M b s w0 wr N0 N1 top nm al ks av kv k bd) (hp : ElM 49 25 wr (fun x => (w0.heap.size ≤ x ∧ x < wr.heap.size ∧ x ≠ N0 ∧ x ≠ N1) ∧ kv.ownBlock ≠ some x) p.2.1 p.2.2 p.1)
    (hown : w2.ownsRow 0 25 4 kv2 (ks.length + 1) (ks.flatMap kidCells ++ kidCells p)) (hg : wr.grownBy w2 kv.ownBlock) (hat : RowAt wr kv kv2) (hne : ∀ x, kv.ownBlock = some x → x ≠ N0 ∧ x ≠ N1) :
    ElS M b s w0 (w2.setCell ⟨N1, 3, none⟩ kv2) N0 N1 w2.heap.size nm al (ks ++ [p]) av kv2 k bd := by
  have h1 := h.st.b0
  have h2 := h.st.l0
  have h3 := h.st.l1
  have h4 := h.nt
  have h5 := h.ts
  have f := row_fr hg
  have hlo1 : ∀ x, kv.ownBlock = some x → w0.heap.size ≤ x := fun x hx => (h.kd.2.1 x hx).1
  have fM := h.rowM hlo1 hg
  have f1 := one_fr w2 N1 3 kv2
  have fM1 : Fr M w2 (w2.setCell ⟨N1, 3, none⟩ kv2) := f1.mono fun x hx => by rw [hx]; exact h.st.nw _ (by omega)
  have hb : ¬ (wr.heap.size ≤ b ∨ kv.ownBlock = some b) := fun e => by
    rcases e with e | e
    · omega
    · have := hlo1 b e; omega
  have k1 : Blk w2 N1 25 #[.string (bst nm), av, .string ⟨#[]⟩, kv] := h.st.k1.fr f fun e => by
    rcases e with e | e
    · omega
    · exact (hne N1 e).2 rfl
  have k0 : Blk w2 N0 25 elZero := h.st.k0.fr f fun e => by
    rcases e with e | e
    · omega
    · exact (hne N0 e).1 rfl
  have ka : AttrsT 49 w2 av al := h.at'.fr f fun g hg e => by
    rcases e with e | e
    · have := (h.lo g hg).2; omega
    · rcases h.at'.cases with ⟨rfl, _⟩ | ⟨g1, cap, cur, rfl, hg1, _⟩
      · cases hg
      · cases hg
        exact rows_ne h.kd.1 (show Blk wr g1 49 cur from hg1) (by decide) e
  have kk := (h.kd.mono (D' := fun x => w0.heap.size ≤ x ∧ x < wr.heap.size ∧ x ≠ N0 ∧ x ≠ N1) fun x hx => ⟨hx.1, by have := hx.2.1; omega, hx.2.2⟩).snoc (D' := fun x => w0.heap.size ≤ x ∧ x < w2.heap.size ∧ x ≠ N0 ∧ x ≠ N1) hp (fun x hx => hx.2.1) hown hg hat
    (fun x hx => ⟨hx.1, by have := hx.2.1; have := hg.size; omega, hx.2.2⟩) (fun x hx1 hx2 => ⟨by have := h.st.fr.size; omega, hx2, by omega, by omega⟩)
  exact ⟨⟨⟨h.st.rd.1, (h.st.rd.2.1.fr f).fr f1, h.st.rd.2.2.1, h.st.rd.2.2.2.1, (h.st.rd.2.2.2.2.fr f hb).fr f1 (by omega)⟩, (h.st.fr.trans fM).trans fM1, (h.st.errs.fr fM).fr fM1, h.st.nw, h1, h2, h3, k0.fr f1 (by omega), (k1.set 3 kv2).eq rfl⟩,
    ka.fr f1 fun g hg e => by subst e; exact rows_ne h.at' h.st.k1 (by decide) hg, fun g hg => ⟨(h.lo g hg).1, by have := (h.lo g hg).2; have := f.size; omega⟩, kk.fr f1 fun x hx e => hx.2.2.2 e, by have := f.size; omega, by simp [World.setCell]⟩
/-- The element as the result: its cells were stored. -/
theorem ElS.ret (h : ElS M b s w0 wr N0 N1 top nm al ks av kv k bd) :
    Blk ((((wr.setCell ⟨N0, 0, none⟩ (.string (bst nm))).setCell ⟨N0, 1, none⟩ av).setCell ⟨N0, 2, none⟩ (.string ⟨#[]⟩)).setCell ⟨N0, 3, none⟩ kv) N0 25 #[.string (bst nm), av, .string ⟨#[]⟩, kv] ∧
    ElM 49 25 ((((wr.setCell ⟨N0, 0, none⟩ (.string (bst nm))).setCell ⟨N0, 1, none⟩ av).setCell ⟨N0, 2, none⟩ (.string ⟨#[]⟩)).setCell ⟨N0, 3, none⟩ kv)
      (fun x => w0.heap.size ≤ x ∧ x < ((((wr.setCell ⟨N0, 0, none⟩ (.string (bst nm))).setCell ⟨N0, 1, none⟩ av).setCell ⟨N0, 2, none⟩ (.string ⟨#[]⟩)).setCell ⟨N0, 3, none⟩ kv).heap.size) av kv (.mk nm al [] (ks.map (·.1))) ∧
    RdM M ((((wr.setCell ⟨N0, 0, none⟩ (.string (bst nm))).setCell ⟨N0, 1, none⟩ av).setCell ⟨N0, 2, none⟩ (.string ⟨#[]⟩)).setCell ⟨N0, 3, none⟩ kv) b s k bd ∧
    Fr M w0 ((((wr.setCell ⟨N0, 0, none⟩ (.string (bst nm))).setCell ⟨N0, 1, none⟩ av).setCell ⟨N0, 2, none⟩ (.string ⟨#[]⟩)).setCell ⟨N0, 3, none⟩ kv) := by
  have h1 := h.st.b0
  have h2 := h.st.l0
  obtain ⟨V, hV⟩ : ∃ V, ((((wr.setCell ⟨N0, 0, none⟩ (.string (bst nm))).setCell ⟨N0, 1, none⟩ av).setCell ⟨N0, 2, none⟩ (.string ⟨#[]⟩)).setCell ⟨N0, 3, none⟩ kv) = V := ⟨_, rfl⟩
  have f : Fr (fun x => x = N0) wr V := by
    rw [← hV]
    exact (((one_fr _ _ 0 _).trans (one_fr _ _ 1 _)).trans (one_fr _ _ 2 _)).trans (one_fr _ _ 3 _)
  have fM : Fr M wr V := f.mono fun x hx => by rw [hx]; exact h.st.nw _ h2
  have hb : Blk V N0 25 #[.string (bst nm), av, .string ⟨#[]⟩, kv] := by
    rw [← hV]
    exact ((((h.st.k0.set 0 _).set 1 _).set 2 _).set 3 _).eq rfl
  have ha : AttrsT 49 V av al := h.at'.fr f fun g hg e => by subst e; exact rows_ne h.at' h.st.k0 (by decide) hg
  have hk := h.kd.fr f fun x hx e => hx.2.2.1 e
  rw [hV]
  refine ⟨hb, ?_, ⟨h.st.rd.1, h.st.rd.2.1.fr f, h.st.rd.2.2.1, h.st.rd.2.2.2.1, h.st.rd.2.2.2.2.fr f (by omega)⟩, h.st.fr.trans fM⟩
  have hs := f.size
  have hts := h.ts
  exact .mk _ nm [] al ks av kv ha (fun g hg => ⟨(h.lo g hg).1, by have := (h.lo g hg).2; omega⟩) hk.1 (fun g hg => ⟨(hk.2.1 g hg).1, by have := (hk.2.1 g hg).2.1; omega⟩)
    fun k hk2 => (hk.2.2 k hk2).mono fun x hx => ⟨⟨hx.1.1, by have := hx.1.2.1; omega⟩, hx.2⟩
end

end Go.Proofs.YtlljphipglgjiaaGreatDoor

namespace Go.Proofs.YtlljphipglgjiaaGreatDoor
open Go.RowKit Go.Lib

def kidsAt : Nat → List UInt8 → List UInt8 → Option (List XEl × List UInt8)
  | 0, _, _ => none
  | d + 1, nm, r => kidsF (elemL d) nm (r.length + 1) r
theorem elemL_eq (d : Nat) (l : List UInt8) : elemL d l = elemC (kidsAt d) l := by cases d <;> rfl

theorem drop_takeWhile (p : UInt8 → Bool) : ∀ l : List UInt8, l.drop (l.takeWhile p).length = l.dropWhile p
  | [] => rfl
  | c :: t => by
    cases h : p c with
    | true => simp [h, drop_takeWhile p t]
    | false => simp [h]
theorem drop_run (p : UInt8 → Bool) (s : ByteArray) (i : Nat) : s.data.toList.drop (runEnd p s i) = (s.data.toList.drop i).dropWhile p := by
  unfold runEnd
  rw [← List.drop_drop, drop_takeWhile]
theorem sub_run (p : UInt8 → Bool) (s : ByteArray) (i : Nat) : sub s i (runEnd p s i) = (s.data.toList.drop i).takeWhile p := by
  unfold sub runEnd
  rw [Nat.add_sub_cancel_left]
  exact List.prefix_iff_eq_take.1 (List.takeWhile_prefix p) |>.symm

theorem attrF_end (g : Nat) (l : List UInt8) (h : isPre [47, 62] (l.dropWhile blankB) = true) : attrF (g + 1) l = some ([], true, (l.dropWhile blankB).drop 2) := by rw [attrF, if_pos h]
theorem attrF_open (g : Nat) (l : List UInt8) (h1 : isPre [47, 62] (l.dropWhile blankB) = false) (h2 : isPre [62] (l.dropWhile blankB) = true) : attrF (g + 1) l = some ([], false, (l.dropWhile blankB).drop 1) := by
  rw [attrF, if_neg (by rw [h1]; exact Bool.false_ne_true), if_pos h2]
theorem attrF_bad (g : Nat) (l : List UInt8) (h1 : isPre [47, 62] (l.dropWhile blankB) = false) (h2 : isPre [62] (l.dropWhile blankB) = false) (h3 : goodName ((l.dropWhile blankB).takeWhile nameC) = false ∨ (l.dropWhile blankB).length = l.length) : attrF (g + 1) l = none := by
  rw [attrF, if_neg (by rw [h1]; exact Bool.false_ne_true), if_neg (by rw [h2]; exact Bool.false_ne_true), if_pos]
  rcases h3 with h | h <;> simp [h]
theorem attrF_noeq (g : Nat) (l : List UInt8) (h1 : isPre [47, 62] (l.dropWhile blankB) = false) (h2 : isPre [62] (l.dropWhile blankB) = false) (h3 : isPre [61] ((l.dropWhile blankB).dropWhile nameC) = false) : attrF (g + 1) l = none := by
  rw [attrF, if_neg (by rw [h1]; exact Bool.false_ne_true), if_neg (by rw [h2]; exact Bool.false_ne_true)]
  split
  · rfl
  · split
    · rename_i heq
      rw [heq] at h3
      simp [isPre] at h3
    · rfl
theorem attrF_noq (g : Nat) (l : List UInt8) (h1 : isPre [47, 62] (l.dropWhile blankB) = false) (h2 : isPre [62] (l.dropWhile blankB) = false) (h4 : isPre [34] (((l.dropWhile blankB).dropWhile nameC).drop 1) = false) (h5 : isPre [39] (((l.dropWhile blankB).dropWhile nameC).drop 1) = false) : attrF (g + 1) l = none := by
  rw [attrF, if_neg (by rw [h1]; exact Bool.false_ne_true), if_neg (by rw [h2]; exact Bool.false_ne_true)]
  split
  · rfl
  · split
    · rename_i q r heq
      rw [heq] at h4 h5
      rw [if_neg]
      rintro (rfl | rfl)
      · simp [isPre] at h4
      · simp [isPre] at h5
    · rfl
theorem attrF_val (g : Nat) (l r : List UInt8) (q : UInt8) (hq : q = 34 ∨ q = 39) (h1 : isPre [47, 62] (l.dropWhile blankB) = false) (h2 : isPre [62] (l.dropWhile blankB) = false) (h3 : goodName ((l.dropWhile blankB).takeWhile nameC) = true) (h4 : (l.dropWhile blankB).length ≠ l.length)
    (h5 : (l.dropWhile blankB).dropWhile nameC = 61 :: q :: r) : attrF (g + 1) l = match txtF q q (r.length + 1) r with
      | some (v, _ :: r2) => (attrF g r2).map (fun p => (⟨bst (halvesL ((l.dropWhile blankB).takeWhile nameC)).1, bst (halvesL ((l.dropWhile blankB).takeWhile nameC)).2, bst v⟩ :: p.1, p.2))
      | _ => none := by
  rw [attrF, if_neg (by rw [h1]; exact Bool.false_ne_true), if_neg (by rw [h2]; exact Bool.false_ne_true), if_neg (by simp [h3, h4]), h5]
  simp only [if_pos hq]
  rfl

theorem txtF_stop (a : UInt8) : ∀ (f : Nat) (l : List UInt8) (v r : List UInt8), txtF a a f l = some (v, r) → r = [] ∨ ∃ t, r = a :: t
  | 0, _, _, _, h => by simp [txtF] at h
  | f + 1, [], v, r, h => by
    simp only [txtF, Option.some.injEq, Prod.mk.injEq] at h
    exact .inl h.2.symm
  | f + 1, c :: t, v, r, h => by
    simp only [txtF] at h
    split at h
    · rename_i hc
      simp only [Option.some.injEq, Prod.mk.injEq] at h
      right
      rcases hc with rfl | rfl <;> exact ⟨t, h.2.symm⟩
    · split at h
      · split at h
        · cases h
        · rename_i p _
          cases hx : txtF a a f p.2 with
          | none => rw [hx] at h; cases h
          | some y =>
            rw [hx] at h
            simp only [Option.map_some, Option.some.injEq, Prod.mk.injEq] at h
            obtain ⟨-, rfl⟩ := h
            exact txtF_stop a f _ y.1 y.2 hx
      · split at h
        · cases h
        · cases hx : txtF a a f ((c :: t).drop (decodeL (c :: t)).2) with
          | none => rw [hx] at h; cases h
          | some y =>
            rw [hx] at h
            simp only [Option.map_some, Option.some.injEq, Prod.mk.injEq] at h
            obtain ⟨-, rfl⟩ := h
            exact txtF_stop a f _ y.1 y.2 hx

/-- What an element's attributes come to. -/
def atOf (bad : Bool) (l : List UInt8) : Option (List AttrS × Bool × List UInt8) := if bad = true ∨ goodName (l.takeWhile nameC) = false then none else attrF (l.length + 1) (l.dropWhile nameC)
def resOf (d : Nat) (nm : List UInt8) : Option (List AttrS × Bool × List UInt8) → Option (XEl × List UInt8)
  | none => none
  | some (av, true, r) => some (.mk nm av [] [], r)
  | some (av, false, r) => (kidsAt d nm r).map fun p => (.mk nm av [] p.1, p.2)
theorem res_eq (d : Nat) (bad : Bool) (l : List UInt8) : (if bad then none else elemL d l) = resOf d (l.takeWhile nameC) (atOf bad l) := by
  cases bad with
  | true => rfl
  | false =>
    rw [elemL_eq]
    unfold elemC atOf
    cases hg : goodName (l.takeWhile nameC) with
    | false => simp [resOf]
    | true =>
      simp only [Bool.false_eq_true, if_false, Bool.not_true, Bool.true_eq_false, or_self]
      cases attrF (l.length + 1) (l.dropWhile nameC) with
      | none => rfl
      | some x =>
        obtain ⟨av, em, r⟩ := x
        cases em <;> rfl
/-- Where the attributes' reading stands: behind al, at place k. -/
def AtR (s : ByteArray) (AT : Option (List AttrS × Bool × List UInt8)) (al : List AttrS) (k : Nat) (bd : Bool) : Prop :=
  (bd = false → ∃ f, (s.data.toList.drop k).length < f ∧ AT = (attrF f (s.data.toList.drop k)).map fun p => (al ++ p.1, p.2)) ∧ (bd = true → AT = none)
theorem AtR.start (s : ByteArray) (i : Nat) (bad : Bool) : AtR s (atOf bad (s.data.toList.drop i)) [] (runEnd nameC s i) (bad || !goodName (sub s i (runEnd nameC s i))) := by
  rw [sub_run]
  unfold atOf
  cases bad with
  | true => exact ⟨fun h => by simp at h, fun _ => by simp⟩
  | false =>
    cases hg : goodName ((s.data.toList.drop i).takeWhile nameC) with
    | false => exact ⟨fun h => by simp at h, fun _ => by simp⟩
    | true =>
      refine ⟨fun _ => ⟨(s.data.toList.drop i).length + 1, ?_, ?_⟩, fun h => by simp at h⟩
      · rw [drop_run]
        have : ((s.data.toList.drop i).dropWhile nameC).length ≤ (s.data.toList.drop i).length := (List.dropWhile_suffix nameC).length_le
        omega
      · rw [drop_run]
        simp only [Bool.false_eq_true, Bool.true_eq_false, or_self, if_false]
        cases attrF ((s.data.toList.drop i).length + 1) ((s.data.toList.drop i).dropWhile nameC) <;> simp

theorem good_ne {na : List UInt8} (h : goodName na = true) : na ≠ [] := by
  rintro rfl
  exact absurd h (by decide)
/-- A good name's last byte is no '='. -/
theorem last_name {s : ByteArray} {k p : Nat} {na : List UInt8} (hna : (s.data.toList.drop k).takeWhile nameC = na) (hp : p = k + na.length) (hg : goodName na = true) (hp1 : p - 1 < s.size) (h61 : s[p - 1] = 61) : False := by
  have hne := good_ne hg
  have hl : 0 < na.length := List.length_pos_iff.2 hne
  obtain ⟨m, hm⟩ : ∃ m, na.length = m + 1 := ⟨na.length - 1, by omega⟩
  have hpre : na <+: s.data.toList.drop k := by rw [← hna]; exact List.takeWhile_prefix _
  obtain ⟨t, ht⟩ := hpre
  have hpk : p - 1 = k + m := by omega
  have hlt : k + m < s.size := by omega
  have h1 := get_of_drop ht.symm (k := m) (by rw [List.length_append]; omega) hlt
  rw [List.getElem_append_left (by omega)] at h1
  have h2 : nameC na[m] = true := by
    have := List.all_takeWhile (p := nameC) (l := s.data.toList.drop k)
    rw [hna, List.all_eq_true] at this
    exact this _ (List.getElem_mem _)
  have h3 : s[p - 1] = s[k + m] := by simp only [hpk]
  rw [← h1, ← h3, h61] at h2
  exact absurd h2 (by decide)

def valOf (q : UInt8) (g0 : Nat) (l : List UInt8) (n1 n2 : ByteArray) : Option (List AttrS × Bool × List UInt8) :=
  match txtF q q (l.length + 1) l with
  | some (v, _ :: r2) => (attrF g0 r2).map fun p => (⟨n1, n2, bst v⟩ :: p.1, p.2)
  | _ => none
theorem attrF_valOf (g : Nat) (l r : List UInt8) (q : UInt8) (hq : q = 34 ∨ q = 39) (h1 : isPre [47, 62] (l.dropWhile blankB) = false) (h2 : isPre [62] (l.dropWhile blankB) = false) (h3 : goodName ((l.dropWhile blankB).takeWhile nameC) = true) (h4 : (l.dropWhile blankB).length ≠ l.length)
    (h5 : (l.dropWhile blankB).dropWhile nameC = 61 :: q :: r) : attrF (g + 1) l = valOf q g r (bst (halvesL ((l.dropWhile blankB).takeWhile nameC)).1) (bst (halvesL ((l.dropWhile blankB).takeWhile nameC)).2) := by
  rw [attrF_val g l r q hq h1 h2 h3 h4 h5]
  unfold valOf
  cases txtF q q (r.length + 1) r with
  | none => rfl
  | some y =>
    obtain ⟨v, r2⟩ := y
    cases r2 <;> rfl
/-- What an attribute's value, read up to a quote q from place P on, makes of the whole. -/
structure ValR (s : ByteArray) (AT : Option (List AttrS × Bool × List UInt8)) (al : List AttrS) (q : UInt8) (P g0 : Nat) (n1 n2 : ByteArray) (bd1 : Bool) : Prop where
  hno : bd1 = true → AT = none
  lt : (s.data.toList.drop P).length < g0
  hso : bd1 = false → AT = (valOf q g0 (s.data.toList.drop P) n1 n2).map fun p => (al ++ p.1, p.2)
theorem ValR.yes {s : ByteArray} {AT : Option (List AttrS × Bool × List UInt8)} {al : List AttrS} {q : UInt8} {P g0 j : Nat} {n1 n2 : ByteArray} {bd1 bd2 : Bool} {v : List UInt8} (h : ValR s AT al q P g0 n1 n2 bd1)
    (hm : match (if bd1 then none else txtF q q ((s.data.toList.drop P).length + 1) (s.data.toList.drop P)) with | some p => bd2 = false ∧ v = p.1 ∧ s.data.toList.drop j = p.2 | none => bd2 = true)
    (hd : s.data.toList.drop j = q :: s.data.toList.drop (j + 1)) (hP : P ≤ j) (hj : j + 1 ≤ s.size) : AtR s AT (al ++ [⟨n1, n2, bst v⟩]) (j + 1) bd2 := by
  cases bd1 with
  | true =>
    simp only [if_true] at hm
    subst hm
    exact ⟨(fun h => nomatch h), fun _ => h.hno rfl⟩
  | false =>
    simp only [Bool.false_eq_true, if_false] at hm
    have h1 := h.hso rfl
    unfold valOf at h1
    cases hx : txtF q q ((s.data.toList.drop P).length + 1) (s.data.toList.drop P) with
    | none =>
      rw [hx] at hm h1
      simp only at hm h1
      subst hm
      exact ⟨fun h => (nomatch h), fun _ => h1⟩
    | some y =>
      rw [hx] at hm h1
      obtain ⟨rfl, rfl, h5⟩ := hm
      obtain ⟨v, r⟩ := y
      simp only at h5 h1
      rw [← h5, hd] at h1
      refine ⟨fun _ => ⟨g0, ?_, ?_⟩, fun h => nomatch h⟩
      · have := h.lt
        rw [List.length_drop, list_size] at this ⊢
        omega
      · simp only at h1
        rw [h1]
        cases attrF g0 (s.data.toList.drop (j + 1)) <;> simp
theorem ValR.no {s : ByteArray} {AT : Option (List AttrS × Bool × List UInt8)} {al al2 : List AttrS} {q : UInt8} {P g0 j : Nat} {n1 n2 : ByteArray} {bd1 bd2 : Bool} {v : List UInt8} (h : ValR s AT al q P g0 n1 n2 bd1)
    (hm : match (if bd1 then none else txtF q q ((s.data.toList.drop P).length + 1) (s.data.toList.drop P)) with | some p => bd2 = false ∧ v = p.1 ∧ s.data.toList.drop j = p.2 | none => bd2 = true)
    (hd : ∀ t, s.data.toList.drop j ≠ q :: t) : AtR s AT al2 j true := by
  refine ⟨fun h => (nomatch h), fun _ => ?_⟩
  cases bd1 with
  | true => exact h.hno rfl
  | false =>
    simp only [Bool.false_eq_true, if_false] at hm
    have h1 := h.hso rfl
    unfold valOf at h1
    cases hx : txtF q q ((s.data.toList.drop P).length + 1) (s.data.toList.drop P) with
    | none =>
      rw [hx] at h1
      exact h1
    | some y =>
      rw [hx] at hm h1
      obtain ⟨rfl, rfl, h5⟩ := hm
      obtain ⟨v, r⟩ := y
      rcases txtF_stop q _ _ _ _ hx with h6 | ⟨t, h6⟩
      · simp only at h5 h1
        rw [h6] at h1
        exact h1
      · exact absurd (h5.trans h6) (hd t)

end Go.Proofs.YtlljphipglgjiaaGreatDoor
