/-
  spec: xReader.name.
-/
import Derived.Test.YtlljphipglgjiaaGreatDoorXmPieces
namespace Go.Proofs.YtlljphipglgjiaaGreatDoor
open Go.RowKit
set_option linter.unusedSimpArgs false

def nameC (c : UInt8) : Bool := letterB c false || c == 58
/-- Is it a name that is looked at, perhaps with a prefix? -/
def goodName (l : List UInt8) : Bool := plainB (halvesL l).2 && ((halvesL l).1 == [] || plainB (halvesL l).1) && !(l.head? == some 58)

theorem ext_sizeR (s : ByteArray) {i j : Nat} (hj : j ≤ s.size) : (s.extract i j).size = j - i := by
  rw [ByteArray.size_extract, Nat.min_eq_left hj]
theorem halves_le (l : List UInt8) : (halvesL l).1.length ≤ l.length ∧ (halvesL l).2.length ≤ l.length := by
  unfold halvesL
  split
  · exact ⟨List.IsPrefix.length_le (List.takeWhile_prefix _), by rw [List.length_drop]; omega⟩
  · simp
theorem quiet_letter (c : UInt8) (f : Bool) (w : World) : Calls Tryz.prog 36 #[.int .u8 c.toNat, .bool f] w fun e w' => e = .returned (.bool (letterB c f)) ∧ w' = w :=
  (letter_any c f w).mono fun _ _ h => ⟨h.1, h.2.symm⟩

set_option maxRecDepth 100000 in
set_option maxHeartbeats 4000000 in
theorem rd_name (M : Nat → Prop) (b : Nat) (s : ByteArray) (i : Nat) (bad : Bool) (w : World) (h : RdM M w b s i bad) :
    Calls Tryz.prog 103 #[.pointer (some ⟨b, 0, none⟩)] w fun e w' => e = .returned (.string (s.extract i (runEnd nameC s i))) ∧ RdM M w' b s (runEnd nameC s i) (bad || !goodName (sub s i (runEnd nameC s i))) ∧ Fr (fun k => k = b) w w' := by
  have c1 := h.c1
  have hi := h.2.2.2.1
  have hs := h.2.2.1
  have HH := Lib.hid h
  obtain ⟨e, he⟩ : ∃ e, runEnd nameC s i = e := ⟨_, rfl⟩
  have HE := Lib.hid he
  rw [he]
  clear h he
  have hie : i ≤ e := by rw [← HE.out]; exact runEnd_ge _ _ _
  have hes : e ≤ s.size := by rw [← HE.out]; exact runEnd_le _ _ _ hi
  go_enter Tryz.func103, Tryz.ntmps103
  go_wp2_with fail
  clear c1
  go_loopg [] (s.size - i) (fun g wr => ∃ k : Nat, g = s.size - k ∧ i ≤ k ∧ RdM M wr b s k bad ∧ Fr (fun k => k = b) w wr ∧ Hid (runEnd nameC s k = e))
  case atStart => exact ⟨i, rfl, Nat.le_refl _, HH.out, Fr.refl _ _, HE⟩
  case round =>
    obtain ⟨k, hg, hik, hr, hf, HK⟩ := hrel
    have c0 := hr.c0
    have c1 := hr.c1
    have fz := hr.2.2.2.2.frozen
    have hk := hr.2.2.2.1
    have HR := Lib.hid hr
    have HF := Lib.hid hf
    have HG := Lib.hid hg
    clear hr hf hg HH
    by_cases hks : k < s.size
    · have q1 : IntKind.i64.wrap ((k : Int) + 1) = (k : Int) + 1 := by rw [IntKind.wrap_i64]; omega
      cases hb : nameC s[k] with
      | true =>
        have hst := runEnd_step nameC s k hks hb
        rw [HK.out] at hst
        have HST := Lib.hid hst.symm
        unfold nameC at hb
        rw [Bool.or_eq_true] at hb
        clear hst
        cases hl : letterB s[k] false with
        | true =>
          have HL := Lib.hid hl
          clear hl hb
          go_wp2_with fail
          have hq : ∀ w, Calls Tryz.prog 36 #[.int .u8 s[k].toNat, .bool false] w fun e w' => e = .returned (.bool true) ∧ w' = w := fun w => (quiet_letter s[k] false w).mono fun _ _ h => ⟨by rw [h.1, HL.out], h.2⟩
          go_quiet ((go_at_call 36; exact Calls.quiet_of_same (hq _)))
          go_wp2_with fail
          go_roundg (s.size - (k + 1))
          case rel => exact ⟨k + 1, rfl, by omega, by simpa using RdM.at' (w := wr.drewN nq) (M := M) (b := b) (s := s) (i := k) (bad := bad) HR.out (k + 1) (by omega), Fr.setCell (M := fun k => k = b) (HF.out.drewN _) (show b = b from rfl) _, HST⟩
          case measure => have := HG.out; omega
        | false =>
          have e1 : ((s[k].toNat : Int) == 58) = true := by
            rw [hl] at hb
            have : s[k] = 58 := by simpa using hb
            rw [this]; rfl
          have HL := Lib.hid hl
          clear hl hb
          have hq : ∀ w, Calls Tryz.prog 36 #[.int .u8 s[k].toNat, .bool false] w fun e w' => e = .returned (.bool false) ∧ w' = w := fun w => (quiet_letter s[k] false w).mono fun _ _ h => ⟨by rw [h.1, HL.out], h.2⟩
          go_wp2_with fail
          go_quiet ((go_at_call 36; exact Calls.quiet_of_same (hq _)))
          go_wp2_with fail
          go_roundg (s.size - (k + 1))
          case rel => exact ⟨k + 1, rfl, by omega, by simpa using RdM.at' (w := wr.drewN nq) (M := M) (b := b) (s := s) (i := k) (bad := bad) HR.out (k + 1) (by omega), Fr.setCell (M := fun k => k = b) (HF.out.drewN _) (show b = b from rfl) _, HST⟩
          case measure => have := HG.out; omega
      | false =>
        have hst := runEnd_stop nameC s k hks hb
        rw [HK.out] at hst
        subst hst
        unfold nameC at hb
        rw [Bool.or_eq_false_iff] at hb
        have HL := Lib.hid hb.1
        have e1 : ((s[e].toNat : Int) == 58) = false := by rw [beq_eq_false_iff_ne]; intro h; exact absurd hb.2 (by rw [show s[e] = 58 from UInt8.toNat_inj.1 (show s[e].toNat = 58 by omega)]; decide)
        clear hb
        have hq : ∀ w, Calls Tryz.prog 36 #[.int .u8 s[e].toNat, .bool false] w fun e w' => e = .returned (.bool false) ∧ w' = w := fun w => (quiet_letter s[e] false w).mono fun _ _ h => ⟨by rw [h.1, HL.out], h.2⟩
        go_wp2_with fail
        go_quiet ((go_at_call 36; exact Calls.quiet_of_same (hq _)))
        go_wp2_with fail
        go_quiet (fail)
        go_wp2_with fail
        obtain ⟨S, hS⟩ : ∃ S, s.extract i e = S := ⟨_, rfl⟩
        rw [hS]
        have hSs : S.size = e - i := by rw [← hS, ext_sizeR s hk]
        have hSl : S.data.toList = sub s i e := by rw [← hS, ext_list]; rfl
        have HS := Lib.hid hS
        have HSL := Lib.hid hSl
        clear hS hSl
        refine (halves_any S _ (by omega)).mono ?_
        rintro e1 w2 ⟨rfl, n2, rfl⟩
        have c2 := HR.out.c2
        have fz2 : ∀ n j, (wr.drewN n).frozen? ⟨b, j, none⟩ = false := fun n j => HR.out.2.2.2.2.frozen j
        have hP2 : ∀ W, Calls Tryz.prog 17 #[.string (bst (halvesL S.data.toList).2)] W fun ee w' => ee = .returned (.bool (plainB (halvesL (sub s i e)).2)) ∧ ∃ m, w' = W.drewN m := fun W => (plain_any (bst (halvesL S.data.toList).2) W (by have := halves_le S.data.toList; rw [bst_size]; rw [Array.length_toList] at this; have h5 : S.data.size = S.size := rfl; omega)).mono fun _ _ h => ⟨by rw [h.1, bst_toList, HSL.out], h.2.imp fun _ h => h.symm⟩
        have hP1 : ∀ W, Calls Tryz.prog 17 #[.string (bst (halvesL S.data.toList).1)] W fun ee w' => ee = .returned (.bool (plainB (halvesL (sub s i e)).1)) ∧ ∃ m, w' = W.drewN m := fun W => (plain_any (bst (halvesL S.data.toList).1) W (by have := halves_le S.data.toList; rw [bst_size]; rw [Array.length_toList] at this; have h5 : S.data.size = S.size := rfl; omega)).mono fun _ _ h => ⟨by rw [h.1, bst_toList, HSL.out], h.2.imp fun _ h => h.symm⟩
        have hz1 : ((bst (halvesL S.data.toList).1).toList == ([] : List UInt8)) = ((halvesL (sub s i e)).1 == []) := by rw [Lib.toList_data, bst_toList, HSL.out]
        obtain ⟨S1, hS1⟩ : ∃ x, bst (halvesL S.data.toList).1 = x := ⟨_, rfl⟩
        obtain ⟨S2, hS2⟩ : ∃ x, bst (halvesL S.data.toList).2 = x := ⟨_, rfl⟩
        rw [hS1] at hP1 hz1
        rw [hS2] at hP2
        rw [hS1, hS2]
        clear hS1 hS2
        obtain ⟨p1, hp1⟩ : ∃ x, plainB (halvesL (sub s i e)).1 = x := ⟨_, rfl⟩
        obtain ⟨p2, hp2⟩ : ∃ x, plainB (halvesL (sub s i e)).2 = x := ⟨_, rfl⟩
        obtain ⟨z, hz⟩ : ∃ x, ((halvesL (sub s i e)).1 == []) = x := ⟨_, rfl⟩
        rw [hp1] at hP1
        rw [hp2] at hP2
        rw [hz] at hz1
        have HP1 := Lib.hid hp1
        have HP2 := Lib.hid hp2
        have HZ := Lib.hid hz
        clear hp1 hp2 hz
        have hhd : ∀ (h0 : 0 < S.size), (sub s i e).head? = some (S[0]'h0) := fun h0 => by
          rw [← HSL.out]
          have hl : S.data.toList.length = S.size := by rw [Array.length_toList]; rfl
          rw [List.head?_eq_getElem?, List.getElem?_eq_getElem (by omega)]
          rfl
        have HHD := Lib.hid hhd
        clear hhd
        have hSne : p2 = true → 0 < S.size := fun h => by
          rcases Nat.eq_zero_or_pos S.size with h0 | h0
          · have hl : S.data.toList.length = S.size := by rw [Array.length_toList]; rfl
            have h1 : sub s i e = [] := by rw [← HSL.out]; exact List.eq_nil_of_length_eq_zero (by omega)
            rw [h, h1] at HP2
            exact absurd HP2.out (by decide)
          · exact h0
        cases p2 with
        | false =>
          have hgn : goodName (sub s i e) = false := by simp [goodName, HP2.out]
          have HGN := Lib.hid hgn
          clear hgn hSne
          go_wp2_with fail
          refine (hP2 _).mono ?_
          rintro e2 w3 ⟨rfl, m2, rfl⟩
          go_wp2_with fail
          go_ret
          exact ⟨by rw [HS.out]; rfl, by rw [HGN.out]; simpa using RdM.bad' (w := wr.drewN _) (M := M) (b := b) (s := s) (i := e) (bad := bad) HR.out true, Fr.setCell (M := fun k => k = b) (HF.out.drewN _) (show b = b from rfl) _⟩
        | true =>
          have h0 := hSne rfl
          clear hSne
          have d0 : decide ((0 : Int) < (S.size : Int)) = true := by simp; omega
          have hi0 : (0 : Int) < (S.size : Int) := by omega
          by_cases hh : S[0] = 58
          · have e3 : ((S[0].toNat : Int) == 58) = true := by rw [hh]; rfl
            have hgn : goodName (sub s i e) = false := by simp [goodName, HHD.out h0, hh]
            have HGN := Lib.hid hgn
            clear hgn hh
            cases z with
            | false =>
              have hz2 : ¬ S1.toList = [] := beq_eq_false_iff_ne.1 hz1
              clear hz1
              cases p1 with
              | false =>
                go_wp2_with fail
                refine (hP2 _).mono ?_
                rintro e2 w3 ⟨rfl, m2, rfl⟩
                go_wp2_with fail
                refine (hP1 _).mono ?_
                rintro e2 w4 ⟨rfl, m3, rfl⟩
                go_wp2_with fail
                go_ret
                exact ⟨by rw [HS.out]; rfl, by rw [HGN.out]; simpa using RdM.bad' (w := wr.drewN _) (M := M) (b := b) (s := s) (i := e) (bad := bad) HR.out true, Fr.setCell (M := fun k => k = b) (HF.out.drewN _) (show b = b from rfl) _⟩
              | true =>
                go_wp2_with fail
                refine (hP2 _).mono ?_
                rintro e2 w3 ⟨rfl, m2, rfl⟩
                go_wp2_with fail
                refine (hP1 _).mono ?_
                rintro e2 w4 ⟨rfl, m3, rfl⟩
                go_wp2_with fail
                go_ret
                exact ⟨by rw [HS.out]; rfl, by rw [HGN.out]; simpa using RdM.bad' (w := wr.drewN _) (M := M) (b := b) (s := s) (i := e) (bad := bad) HR.out true, Fr.setCell (M := fun k => k = b) (HF.out.drewN _) (show b = b from rfl) _⟩
            | true =>
              have hz2 : S1.toList = [] := beq_iff_eq.1 hz1
              clear hz1
              go_wp2_with fail
              refine (hP2 _).mono ?_
              rintro e2 w3 ⟨rfl, m2, rfl⟩
              go_wp2_with fail
              go_ret
              exact ⟨by rw [HS.out]; rfl, by rw [HGN.out]; simpa using RdM.bad' (w := wr.drewN _) (M := M) (b := b) (s := s) (i := e) (bad := bad) HR.out true, Fr.setCell (M := fun k => k = b) (HF.out.drewN _) (show b = b from rfl) _⟩
          · have e3 : ((S[0].toNat : Int) == 58) = false := by rw [beq_eq_false_iff_ne]; intro h; exact hh (UInt8.toNat_inj.1 (show S[0].toNat = 58 by omega))
            cases z with
            | false =>
              have hz2 : ¬ S1.toList = [] := beq_eq_false_iff_ne.1 hz1
              clear hz1
              cases p1 with
              | false =>
                have hgn : goodName (sub s i e) = false := by simp [goodName, HP2.out, HP1.out, HZ.out]
                have HGN := Lib.hid hgn
                clear hgn hh
                go_wp2_with fail
                refine (hP2 _).mono ?_
                rintro e2 w3 ⟨rfl, m2, rfl⟩
                go_wp2_with fail
                refine (hP1 _).mono ?_
                rintro e2 w4 ⟨rfl, m3, rfl⟩
                go_wp2_with fail
                go_ret
                exact ⟨by rw [HS.out]; rfl, by rw [HGN.out]; simpa using RdM.bad' (w := wr.drewN _) (M := M) (b := b) (s := s) (i := e) (bad := bad) HR.out true, Fr.setCell (M := fun k => k = b) (HF.out.drewN _) (show b = b from rfl) _⟩
              | true =>
                have hgn : goodName (sub s i e) = true := by simp [goodName, HP2.out, HP1.out, HZ.out, HHD.out h0, hh]
                have HGN := Lib.hid hgn
                clear hgn hh
                go_wp2_with fail
                refine (hP2 _).mono ?_
                rintro e2 w3 ⟨rfl, m2, rfl⟩
                go_wp2_with fail
                refine (hP1 _).mono ?_
                rintro e2 w4 ⟨rfl, m3, rfl⟩
                go_wp2_with fail
                go_ret
                exact ⟨by rw [HS.out]; rfl, by rw [HGN.out, show (bad || !true) = bad by simp]; exact HR.out, HF.out.drewN _⟩
            | true =>
              have hz2 : S1.toList = [] := beq_iff_eq.1 hz1
              clear hz1
              have hgn : goodName (sub s i e) = true := by simp [goodName, HP2.out, HZ.out, HHD.out h0, hh]
              have HGN := Lib.hid hgn
              clear hgn hh
              go_wp2_with fail
              refine (hP2 _).mono ?_
              rintro e2 w3 ⟨rfl, m2, rfl⟩
              go_wp2_with fail
              go_ret
              exact ⟨by rw [HS.out]; rfl, by rw [HGN.out, show (bad || !true) = bad by simp]; exact HR.out, HF.out.drewN _⟩
    · obtain rfl : k = s.size := by omega
      have hke : e = s.size := by rw [← HK.out, runEnd_end]
      subst hke
      go_wp2_with fail
      go_quiet (fail)
      go_wp2_with fail
      go_quiet (fail)
      go_wp2_with fail
      obtain ⟨S, hS⟩ : ∃ S, s.extract i s.size = S := ⟨_, rfl⟩
      rw [hS]
      have hSs : S.size = s.size - i := by rw [← hS, ext_sizeR s hk]
      have hSl : S.data.toList = sub s i s.size := by rw [← hS, ext_list]; rfl
      have HS := Lib.hid hS
      have HSL := Lib.hid hSl
      clear hS hSl
      refine (halves_any S _ (by omega)).mono ?_
      rintro e1 w2 ⟨rfl, n2, rfl⟩
      have c2 := HR.out.c2
      have fz2 : ∀ n j, (wr.drewN n).frozen? ⟨b, j, none⟩ = false := fun n j => HR.out.2.2.2.2.frozen j
      have hP2 : ∀ W, Calls Tryz.prog 17 #[.string (bst (halvesL S.data.toList).2)] W fun ee w' => ee = .returned (.bool (plainB (halvesL (sub s i s.size)).2)) ∧ ∃ m, w' = W.drewN m := fun W => (plain_any (bst (halvesL S.data.toList).2) W (by have := halves_le S.data.toList; rw [bst_size]; rw [Array.length_toList] at this; have h5 : S.data.size = S.size := rfl; omega)).mono fun _ _ h => ⟨by rw [h.1, bst_toList, HSL.out], h.2.imp fun _ h => h.symm⟩
      have hP1 : ∀ W, Calls Tryz.prog 17 #[.string (bst (halvesL S.data.toList).1)] W fun ee w' => ee = .returned (.bool (plainB (halvesL (sub s i s.size)).1)) ∧ ∃ m, w' = W.drewN m := fun W => (plain_any (bst (halvesL S.data.toList).1) W (by have := halves_le S.data.toList; rw [bst_size]; rw [Array.length_toList] at this; have h5 : S.data.size = S.size := rfl; omega)).mono fun _ _ h => ⟨by rw [h.1, bst_toList, HSL.out], h.2.imp fun _ h => h.symm⟩
      have hz1 : ((bst (halvesL S.data.toList).1).toList == ([] : List UInt8)) = ((halvesL (sub s i s.size)).1 == []) := by rw [Lib.toList_data, bst_toList, HSL.out]
      obtain ⟨S1, hS1⟩ : ∃ x, bst (halvesL S.data.toList).1 = x := ⟨_, rfl⟩
      obtain ⟨S2, hS2⟩ : ∃ x, bst (halvesL S.data.toList).2 = x := ⟨_, rfl⟩
      rw [hS1] at hP1 hz1
      rw [hS2] at hP2
      rw [hS1, hS2]
      clear hS1 hS2
      obtain ⟨p1, hp1⟩ : ∃ x, plainB (halvesL (sub s i s.size)).1 = x := ⟨_, rfl⟩
      obtain ⟨p2, hp2⟩ : ∃ x, plainB (halvesL (sub s i s.size)).2 = x := ⟨_, rfl⟩
      obtain ⟨z, hz⟩ : ∃ x, ((halvesL (sub s i s.size)).1 == []) = x := ⟨_, rfl⟩
      rw [hp1] at hP1
      rw [hp2] at hP2
      rw [hz] at hz1
      have HP1 := Lib.hid hp1
      have HP2 := Lib.hid hp2
      have HZ := Lib.hid hz
      clear hp1 hp2 hz
      have hhd : ∀ (h0 : 0 < S.size), (sub s i s.size).head? = some (S[0]'h0) := fun h0 => by
        rw [← HSL.out]
        have hl : S.data.toList.length = S.size := by rw [Array.length_toList]; rfl
        rw [List.head?_eq_getElem?, List.getElem?_eq_getElem (by omega)]
        rfl
      have HHD := Lib.hid hhd
      clear hhd
      have hSne : p2 = true → 0 < S.size := fun h => by
        rcases Nat.eq_zero_or_pos S.size with h0 | h0
        · have hl : S.data.toList.length = S.size := by rw [Array.length_toList]; rfl
          have h1 : sub s i s.size = [] := by rw [← HSL.out]; exact List.eq_nil_of_length_eq_zero (by omega)
          rw [h, h1] at HP2
          exact absurd HP2.out (by decide)
        · exact h0
      cases p2 with
      | false =>
        have hgn : goodName (sub s i s.size) = false := by simp [goodName, HP2.out]
        have HGN := Lib.hid hgn
        clear hgn hSne
        go_wp2_with fail
        refine (hP2 _).mono ?_
        rintro e2 w3 ⟨rfl, m2, rfl⟩
        go_wp2_with fail
        go_ret
        exact ⟨by rw [HS.out]; rfl, by rw [HGN.out]; simpa using RdM.bad' (w := wr.drewN _) (M := M) (b := b) (s := s) (i := s.size) (bad := bad) HR.out true, Fr.setCell (M := fun k => k = b) (HF.out.drewN _) (show b = b from rfl) _⟩
      | true =>
        have h0 := hSne rfl
        clear hSne
        have d0 : decide ((0 : Int) < (S.size : Int)) = true := by simp; omega
        have hi0 : (0 : Int) < (S.size : Int) := by omega
        by_cases hh : S[0] = 58
        · have e3 : ((S[0].toNat : Int) == 58) = true := by rw [hh]; rfl
          have hgn : goodName (sub s i s.size) = false := by simp [goodName, HHD.out h0, hh]
          have HGN := Lib.hid hgn
          clear hgn hh
          cases z with
          | false =>
            have hz2 : ¬ S1.toList = [] := beq_eq_false_iff_ne.1 hz1
            clear hz1
            cases p1 with
            | false =>
              go_wp2_with fail
              refine (hP2 _).mono ?_
              rintro e2 w3 ⟨rfl, m2, rfl⟩
              go_wp2_with fail
              refine (hP1 _).mono ?_
              rintro e2 w4 ⟨rfl, m3, rfl⟩
              go_wp2_with fail
              go_ret
              exact ⟨by rw [HS.out]; rfl, by rw [HGN.out]; simpa using RdM.bad' (w := wr.drewN _) (M := M) (b := b) (s := s) (i := s.size) (bad := bad) HR.out true, Fr.setCell (M := fun k => k = b) (HF.out.drewN _) (show b = b from rfl) _⟩
            | true =>
              go_wp2_with fail
              refine (hP2 _).mono ?_
              rintro e2 w3 ⟨rfl, m2, rfl⟩
              go_wp2_with fail
              refine (hP1 _).mono ?_
              rintro e2 w4 ⟨rfl, m3, rfl⟩
              go_wp2_with fail
              go_ret
              exact ⟨by rw [HS.out]; rfl, by rw [HGN.out]; simpa using RdM.bad' (w := wr.drewN _) (M := M) (b := b) (s := s) (i := s.size) (bad := bad) HR.out true, Fr.setCell (M := fun k => k = b) (HF.out.drewN _) (show b = b from rfl) _⟩
          | true =>
            have hz2 : S1.toList = [] := beq_iff_eq.1 hz1
            clear hz1
            go_wp2_with fail
            refine (hP2 _).mono ?_
            rintro e2 w3 ⟨rfl, m2, rfl⟩
            go_wp2_with fail
            go_ret
            exact ⟨by rw [HS.out]; rfl, by rw [HGN.out]; simpa using RdM.bad' (w := wr.drewN _) (M := M) (b := b) (s := s) (i := s.size) (bad := bad) HR.out true, Fr.setCell (M := fun k => k = b) (HF.out.drewN _) (show b = b from rfl) _⟩
        · have e3 : ((S[0].toNat : Int) == 58) = false := by rw [beq_eq_false_iff_ne]; intro h; exact hh (UInt8.toNat_inj.1 (show S[0].toNat = 58 by omega))
          cases z with
          | false =>
            have hz2 : ¬ S1.toList = [] := beq_eq_false_iff_ne.1 hz1
            clear hz1
            cases p1 with
            | false =>
              have hgn : goodName (sub s i s.size) = false := by simp [goodName, HP2.out, HP1.out, HZ.out]
              have HGN := Lib.hid hgn
              clear hgn hh
              go_wp2_with fail
              refine (hP2 _).mono ?_
              rintro e2 w3 ⟨rfl, m2, rfl⟩
              go_wp2_with fail
              refine (hP1 _).mono ?_
              rintro e2 w4 ⟨rfl, m3, rfl⟩
              go_wp2_with fail
              go_ret
              exact ⟨by rw [HS.out]; rfl, by rw [HGN.out]; simpa using RdM.bad' (w := wr.drewN _) (M := M) (b := b) (s := s) (i := s.size) (bad := bad) HR.out true, Fr.setCell (M := fun k => k = b) (HF.out.drewN _) (show b = b from rfl) _⟩
            | true =>
              have hgn : goodName (sub s i s.size) = true := by simp [goodName, HP2.out, HP1.out, HZ.out, HHD.out h0, hh]
              have HGN := Lib.hid hgn
              clear hgn hh
              go_wp2_with fail
              refine (hP2 _).mono ?_
              rintro e2 w3 ⟨rfl, m2, rfl⟩
              go_wp2_with fail
              refine (hP1 _).mono ?_
              rintro e2 w4 ⟨rfl, m3, rfl⟩
              go_wp2_with fail
              go_ret
              exact ⟨by rw [HS.out]; rfl, by rw [HGN.out, show (bad || !true) = bad by simp]; exact HR.out, HF.out.drewN _⟩
          | true =>
            have hz2 : S1.toList = [] := beq_iff_eq.1 hz1
            clear hz1
            have hgn : goodName (sub s i s.size) = true := by simp [goodName, HP2.out, HZ.out, HHD.out h0, hh]
            have HGN := Lib.hid hgn
            clear hgn hh
            go_wp2_with fail
            refine (hP2 _).mono ?_
            rintro e2 w3 ⟨rfl, m2, rfl⟩
            go_wp2_with fail
            go_ret
            exact ⟨by rw [HS.out]; rfl, by rw [HGN.out, show (bad || !true) = bad by simp]; exact HR.out, HF.out.drewN _⟩

end Go.Proofs.YtlljphipglgjiaaGreatDoor
