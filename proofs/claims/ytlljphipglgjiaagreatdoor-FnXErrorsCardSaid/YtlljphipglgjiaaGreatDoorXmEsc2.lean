/-
  escapeString: what it writes is esc.
-/
import Derived.Test.YtlljphipglgjiaaGreatDoorXmWr
import Derived.Test.YtlljphipglgjiaaGreatDoorXmWrite2
import Derived.Test.YtlljphipglgjiaaGreatDoorXmPieces
import Derived.Lib.SlBytesConst
import Derived.StillTailTactics
namespace Go.Proofs.YtlljphipglgjiaaGreatDoor
open Go.RowKit Go.Lib

theorem inRange_any (c : Nat) (w : World) (hc : c ≤ 1114111) :
    Calls Tryz.prog 169 #[.int .i32 c] w fun e w' => e = .returned (.bool (isXChar c)) ∧ w = w' := by
  go_enter Tryz.func169, Tryz.ntmps169
  go_wp2_with fail
  all_goals go_ret
  all_goals refine ⟨ret_bool ?_, rfl⟩
  all_goals first
    | (rw [isXChar_yes (by omega)])
    | (rw [isXChar_no (by omega)])
  all_goals (simp; omega)

theorem method_WriteString (a : Addr) (w : World) : (method 496 84 (.pointer (some a)) "WriteString").run Tryz.prog w = .ok (190, .pointer (some a)) w := by kernel_rfl
theorem nilAhead_WriteString (a : Addr) (w : World) : (nilAhead 496 84 (.pointer (some a)) "WriteString").run Tryz.prog w = .ok (some false) w := by kernel_rfl
theorem method_Write (a : Addr) (w : World) : (method 496 84 (.pointer (some a)) "Write").run Tryz.prog w = .ok (284, .pointer (some a)) w := by kernel_rfl
theorem nilAhead_Write (a : Addr) (w : World) : (nilAhead 496 84 (.pointer (some a)) "Write").run Tryz.prog w = .ok (some false) w := by kernel_rfl
theorem method_WriteRune (a : Addr) (w : World) : (method 496 84 (.pointer (some a)) "WriteRune").run Tryz.prog w = .ok (285, .pointer (some a)) w := by kernel_rfl
theorem nilAhead_WriteRune (a : Addr) (w : World) : (nilAhead 496 84 (.pointer (some a)) "WriteRune").run Tryz.prog w = .ok (some false) w := by kernel_rfl
theorem method_String (a : Addr) (w : World) : (method 496 84 (.pointer (some a)) "String").run Tryz.prog w = .ok (283, .pointer (some a)) w := by kernel_rfl
theorem nilAhead_String (a : Addr) (w : World) : (nilAhead 496 84 (.pointer (some a)) "String").run Tryz.prog w = .ok (some false) w := by kernel_rfl

theorem escSpec_none {c : Nat} (h34 : c ≠ 34) (h39 : c ≠ 39) (h38 : c ≠ 38) (h60 : c ≠ 60) (h62 : c ≠ 62) (h9 : c ≠ 9) (h10 : c ≠ 10) (h13 : c ≠ 13) (h133 : c ≠ 133) (h8232 : c ≠ 8232) : escSpec c = none := by
  simp [escSpec, *]

theorem drop_ne {s : ByteArray} {k : Nat} (hk : k < s.size) : s.data.toList.drop k ≠ [] := by
  have hl : s.data.toList.length = s.size := by rw [Array.length_toList]; rfl
  intro h
  have := congrArg List.length h
  simp only [List.length_drop, List.length_nil] at this
  omega

/-- The text behind one piece more: what is out, what waits, what is left. -/
theorem esc_step {s : ByteArray} {k0 k : Nat} {out : List UInt8} (hk : k < s.size) (_hk0 : k0 ≤ k) (h : out ++ sub s k0 k ++ esc (s.data.toList.drop k) = esc s.data.toList) :
    (out ++ sub s k0 k ++ escP ((decodeL (s.data.toList.drop k)).1, (s.data.toList.drop k).take (decodeL (s.data.toList.drop k)).2)) ++ sub s (k + (decodeL (s.data.toList.drop k)).2) (k + (decodeL (s.data.toList.drop k)).2) ++ esc (s.data.toList.drop (k + (decodeL (s.data.toList.drop k)).2)) = esc s.data.toList := by
  rw [← h, esc_cons _ (drop_ne hk), List.drop_drop, sub_self]
  simp
theorem esc_keep {s : ByteArray} {k0 k : Nat} {out : List UInt8} (hk : k < s.size) (hk0 : k0 ≤ k) (h : out ++ sub s k0 k ++ esc (s.data.toList.drop k) = esc s.data.toList)
    (he : escP ((decodeL (s.data.toList.drop k)).1, (s.data.toList.drop k).take (decodeL (s.data.toList.drop k)).2) = (s.data.toList.drop k).take (decodeL (s.data.toList.drop k)).2) :
    out ++ sub s k0 (k + (decodeL (s.data.toList.drop k)).2) ++ esc (s.data.toList.drop (k + (decodeL (s.data.toList.drop k)).2)) = esc s.data.toList := by
  rw [← h, esc_cons _ (drop_ne hk), List.drop_drop, he]
  have : sub s k0 (k + (decodeL (s.data.toList.drop k)).2) = sub s k0 k ++ (s.data.toList.drop k).take (decodeL (s.data.toList.drop k)).2 := by
    unfold sub
    rw [show k + (decodeL (s.data.toList.drop k)).2 - k0 = (k - k0) + (decodeL (s.data.toList.drop k)).2 by omega, List.take_add, List.drop_drop, show k0 + (k - k0) = k by omega]
  rw [this]
  simp

theorem ext_sub (s : ByteArray) {i j : Nat} (_hj : j ≤ s.size) : sub s i j = (s.extract i j).data.toList := by
  rw [← Lib.toList_data, Lib.extract_toList]
  rfl
theorem ext_size (s : ByteArray) {i j : Nat} (hj : j ≤ s.size) : (s.extract i j).size = j - i := by
  rw [ByteArray.size_extract, Nat.min_eq_left hj]
theorem SrcB.ofAlloc (w : World) (l : List UInt8) (fr : Nat × Nat) : SrcB (w.alloc (.cells (Lib.byteCells l).toArray 5 fr)) ⟨w.heap.size, 0, none⟩ l := fun j v hj => by
  have e : (⟨w.heap.size, 0, none⟩ : Addr).add j = ⟨w.heap.size, j, none⟩ := by unfold Addr.add; simp; exact fun h => h.symm
  rw [e, World.cell?]
  simp only [heap_alloc_new]
  rw [List.getElem?_toArray]
  exact hj

set_option maxRecDepth 100000 in
set_option maxHeartbeats 20000000 in
theorem escapeString_any (M : Nat → Prop) (b : Nat) (bs : List UInt8) (s : ByteArray) (w : World) (h : EncB M w b bs) (hlim : bs.length + 20 * s.size ≤ 50000000) :
    Calls Tryz.prog 125 #[wr b, .string s] w fun e w' => e = .returned (.tuple #[]) ∧ EncB M w' b (bs ++ esc s.data.toList) ∧ Fr M w w' := by
  have hl : s.data.toList.length = s.size := by rw [Array.length_toList]; rfl
  have m1 := method_WriteString
  have m2 := method_Write
  have m3 := nilAhead_WriteString
  have m4 := nilAhead_Write
  have HE := Lib.hid (esc_length _ s.data.toList (Nat.le_refl _))
  have HH := Lib.hid h
  clear h
  unfold wr
  go_enter Tryz.func125, Tryz.ntmps125
  go_wp2_with fail
  go_loopg [4, 5, 6] s.size (fun g _e last i w1 => ∃ (k k0 : Nat) (out : List UInt8), g = s.size - k ∧ k0 ≤ k ∧ k ≤ s.size ∧ last = .int .i64 k0 ∧ i = .int .i64 k ∧ EncB M w1 b (bs ++ out) ∧ Fr M w w1 ∧ Hid (out ++ sub s k0 k ++ esc (s.data.toList.drop k) = esc s.data.toList))
  case atStart => exact ⟨0, 0, [], rfl, Nat.le_refl _, Nat.zero_le _, rfl, rfl, by rw [List.append_nil]; exact HH.out, Fr.refl _ _, Lib.hid (by rw [sub_self]; rfl)⟩
  case round =>
    obtain ⟨k, k0, out, hg, hk0, hk, rfl, rfl, h1, hf1, HQ⟩ := hrel
    have H1 := Lib.hid h1
    have HF1 := Lib.hid hf1
    have HG := Lib.hid hg
    clear h1 hf1 hg HH
    have hol : out.length ≤ 9 * s.size := by
      have := congrArg List.length HQ.out
      have h2 := HE.out
      simp only [List.length_append] at this
      omega
    by_cases hks : k < s.size
    · obtain ⟨c, hc⟩ : ∃ c, (decodeL (s.data.toList.drop k)).1 = c := ⟨_, rfl⟩
      obtain ⟨n, hn⟩ : ∃ n, (decodeL (s.data.toList.drop k)).2 = n := ⟨_, rfl⟩
      have hn1 : 1 ≤ n := by rw [← hn]; exact decodeL_width _
      have hn2 : n ≤ s.size - k := by
        have := decodeL_le _ (drop_ne hks)
        rw [hn, List.length_drop, hl] at this
        exact this
      have hc1 : c ≤ 1114111 := by rw [← hc]; exact decodeL_rune _
      have HC := Lib.hid hc
      have HN := Lib.hid hn
      clear hc hn
      have hq1 : ((s.size : Int) - (k : Int)).toNat = s.size - k := by omega
      go_wp2_with fail
      refine (Tryz.utf8_DecodeRuneInString _ _ H1.out.2.2.1.1).mono ?_
      rintro e w2 ⟨rfl, hb⟩
      rw [decodeGo_at s k hks, HC.out, HN.out]
      obtain ⟨h2, hf2⟩ := H1.out.new hb
      have H2 := Lib.hid h2
      have HF2 := Lib.hid (HF1.out.trans hf2)
      clear h2 hf2 hb H1 HF1
      have hw1 : IntKind.i64.wrap ((k : Int) + (n : Int)) = (k : Int) + (n : Int) := by rw [IntKind.wrap_i64]; omega
      have hw3 : IntKind.i64.wrap (k : Int) = (k : Int) := by rw [IntKind.wrap_i64]; omega
      have kc := fun (w : World) (C : Array Value) (n c : Nat) => Lib.run_convert_bytes_const (P := Tryz.prog) w 77 5 C n c Tryz.underlying77 Tryz.underlying5
      by_cases hsp : escSpec c = none
      · have HSP := Lib.hid hsp
        have q34 : ((c : Int) == 34) = false := by rw [beq_eq_false_iff_ne]; intro h; exact absurd hsp (by rw [show c = 34 by omega]; simp [escSpec])
        have q39 : ((c : Int) == 39) = false := by rw [beq_eq_false_iff_ne]; intro h; exact absurd hsp (by rw [show c = 39 by omega]; simp [escSpec])
        have q38 : ((c : Int) == 38) = false := by rw [beq_eq_false_iff_ne]; intro h; exact absurd hsp (by rw [show c = 38 by omega]; simp [escSpec])
        have q60 : ((c : Int) == 60) = false := by rw [beq_eq_false_iff_ne]; intro h; exact absurd hsp (by rw [show c = 60 by omega]; simp [escSpec])
        have q62 : ((c : Int) == 62) = false := by rw [beq_eq_false_iff_ne]; intro h; exact absurd hsp (by rw [show c = 62 by omega]; simp [escSpec])
        have q9 : ((c : Int) == 9) = false := by rw [beq_eq_false_iff_ne]; intro h; exact absurd hsp (by rw [show c = 9 by omega]; simp [escSpec])
        have q10 : ((c : Int) == 10) = false := by rw [beq_eq_false_iff_ne]; intro h; exact absurd hsp (by rw [show c = 10 by omega]; simp [escSpec])
        have q13 : ((c : Int) == 13) = false := by rw [beq_eq_false_iff_ne]; intro h; exact absurd hsp (by rw [show c = 13 by omega]; simp [escSpec])
        have q133 : ((c : Int) == 133) = false := by rw [beq_eq_false_iff_ne]; intro h; exact absurd hsp (by rw [show c = 133 by omega]; simp [escSpec])
        have q8232 : ((c : Int) == 8232) = false := by rw [beq_eq_false_iff_ne]; intro h; exact absurd hsp (by rw [show c = 8232 by omega]; simp [escSpec])
        clear hsp
        cases hx : isXChar c with
        | false =>
          have hp : escP (c, (s.data.toList.drop k).take n) = [239, 191, 189] := by simp [escP, HSP.out, hx]
          have HP := Lib.hid hp
          have HX := Lib.hid hx
          clear hp hx
          go_wp2_with fail
          refine (inRange_any c _ hc1).mono ?_
          rintro e w3 ⟨rfl, rfl⟩
          rw [HX.out]
          go_wp2_with fail
          obtain ⟨W, hW⟩ : ∃ W : World, w2.alloc (.cells (Lib.byteCells [239, 191, 189]).toArray 5 (3, 4)) = W := ⟨_, rfl⟩
          have hW' : w2.alloc (.cells #[.int .u8 239, .int .u8 191, .int .u8 189] 5 (3, 4)) = W := hW
          rw [hW']
          have hb3 : EncB (fun k => M k ∧ k ≠ w2.heap.size) W b (bs ++ out) := by rw [← hW]; exact H2.out.but _
          have hs3 : SrcB W ⟨w2.heap.size, 0, none⟩ [239, 191, 189] := by rw [← hW]; exact SrcB.ofAlloc _ _ _
          have hf3 : Fr M w2 W := by rw [← hW]; exact (Fr.refl _ _).alloc H2.out.2.1 _
          clear hW hW'
          have HB3 := Lib.hid hb3
          have HS3 := Lib.hid hs3
          have HF3 := Lib.hid (HF2.out.trans hf3)
          have HT3 := Lib.hid (H2.out.2.2.1.fr hf3)
          clear hb3 hs3 hf3
          go_wp2_with fail
          go_still_tail 10, (by kernel_rfl)
          change wpList _ _ _ _ _ W.drew
          obtain ⟨Wd, hWd⟩ : ∃ Wd, W.drew = Wd := ⟨_, rfl⟩
          rw [hWd]
          replace HB3 : Hid (EncB (fun k => M k ∧ k ≠ w2.heap.size) Wd b (bs ++ out)) := by rw [← hWd]; exact Lib.hid HB3.out
          replace HS3 : Hid (SrcB Wd ⟨w2.heap.size, 0, none⟩ [239, 191, 189]) := by rw [← hWd]; exact Lib.hid HS3.out
          replace HF3 : Hid (Fr M w Wd) := by rw [← hWd]; exact Lib.hid HF3.out.drew
          replace HT3 : Hid (Tabs M Wd) := by rw [← hWd]; exact Lib.hid HT3.out
          clear hWd
          go_wp2_with fail
          refine (enc_WriteString _ b (bs ++ out) (s.extract k0 k) Wd HB3.out (by rw [List.length_append, ext_size s hk]; omega)).mono ?_
          rintro e w4 ⟨rfl, h4, hf4⟩
          have H4 := Lib.hid h4
          have HF4 := Lib.hid hf4
          clear h4 hf4
          go_wp2_with fail
          refine (enc_Write _ b _ [239, 191, 189] 3 ⟨w2.heap.size, 0, none⟩ 3 w4 H4.out rfl (HS3.out.fr HF4.out (fun h => h.2 rfl)) (fun h => h.2 rfl) (by rw [List.length_append, List.length_append, ← ext_sub s hk, sub_length s k0 k hk]; omega)).mono ?_
          rintro e w5 ⟨rfl, h5, hf5⟩
          have HT5 := HT3.out.fr ((HF4.out.trans hf5).mono fun x hx => hx.1)
          have H5 := Lib.hid (h5.wide (fun k hk => hk.1) HT5)
          have HF5 := Lib.hid (HF3.out.trans ((HF4.out.trans hf5).mono fun x hx => hx.1))
          clear h5 hf5 HT5
          go_wp2_with fail
          go_roundg (s.size - (k + n))
          case rel =>
            have hst := esc_step (s := s) hks hk0 HQ.out
            rw [HC.out, HN.out] at hst
            rw [show escP (c, (s.data.toList.drop k).take n) = [239, 191, 189] from HP.out] at hst
            refine ⟨k + n, k + n, out ++ sub s k0 k ++ [239, 191, 189], rfl, Nat.le_refl _, by omega, by simp, by simp, ?_, HF5.out, Lib.hid hst⟩
            have h6 := H5.out
            rw [← ext_sub s hk] at h6
            simpa using h6
          case measure => have := HG.out; omega
        | true =>
          have HX := Lib.hid hx
          clear hx
          have hrl : ((s.data.toList.drop k).take n).length = n := by rw [List.length_take, List.length_drop, hl]; omega
          by_cases hbad : c = 65533 ∧ n = 1
          · obtain ⟨rfl, rfl⟩ := hbad
            have hp : escP (65533, (s.data.toList.drop k).take 1) = [239, 191, 189] := by simp [escP, HSP.out, HX.out, hrl]
            have HP := Lib.hid hp
            clear hp
            go_wp2_with fail
            refine (inRange_any 65533 _ (by omega)).mono ?_
            rintro e w3 ⟨rfl, rfl⟩
            rw [HX.out]
            go_wp2_with fail
            obtain ⟨W, hW⟩ : ∃ W : World, w2.alloc (.cells (Lib.byteCells [239, 191, 189]).toArray 5 (3, 4)) = W := ⟨_, rfl⟩
            have hW' : w2.alloc (.cells #[.int .u8 239, .int .u8 191, .int .u8 189] 5 (3, 4)) = W := hW
            rw [hW']
            have hb3 : EncB (fun k => M k ∧ k ≠ w2.heap.size) W b (bs ++ out) := by rw [← hW]; exact H2.out.but _
            have hs3 : SrcB W ⟨w2.heap.size, 0, none⟩ [239, 191, 189] := by rw [← hW]; exact SrcB.ofAlloc _ _ _
            have hf3 : Fr M w2 W := by rw [← hW]; exact (Fr.refl _ _).alloc H2.out.2.1 _
            clear hW hW'
            have HB3 := Lib.hid hb3
            have HS3 := Lib.hid hs3
            have HF3 := Lib.hid (HF2.out.trans hf3)
            have HT3 := Lib.hid (H2.out.2.2.1.fr hf3)
            clear hb3 hs3 hf3
            go_wp2_with fail
            go_still_tail 10, (by kernel_rfl)
            change wpList _ _ _ _ _ W.drew
            obtain ⟨Wd, hWd⟩ : ∃ Wd, W.drew = Wd := ⟨_, rfl⟩
            rw [hWd]
            replace HB3 : Hid (EncB (fun k => M k ∧ k ≠ w2.heap.size) Wd b (bs ++ out)) := by rw [← hWd]; exact Lib.hid HB3.out
            replace HS3 : Hid (SrcB Wd ⟨w2.heap.size, 0, none⟩ [239, 191, 189]) := by rw [← hWd]; exact Lib.hid HS3.out
            replace HF3 : Hid (Fr M w Wd) := by rw [← hWd]; exact Lib.hid HF3.out.drew
            replace HT3 : Hid (Tabs M Wd) := by rw [← hWd]; exact Lib.hid HT3.out
            clear hWd
            go_wp2_with fail
            refine (enc_WriteString _ b (bs ++ out) (s.extract k0 k) Wd HB3.out (by rw [List.length_append, ext_size s hk]; omega)).mono ?_
            rintro e w4 ⟨rfl, h4, hf4⟩
            have H4 := Lib.hid h4
            have HF4 := Lib.hid hf4
            clear h4 hf4
            go_wp2_with fail
            refine (enc_Write _ b _ [239, 191, 189] 3 ⟨w2.heap.size, 0, none⟩ 3 w4 H4.out rfl (HS3.out.fr HF4.out (fun h => h.2 rfl)) (fun h => h.2 rfl) (by rw [List.length_append, List.length_append, ← ext_sub s hk, sub_length s k0 k hk]; omega)).mono ?_
            rintro e w5 ⟨rfl, h5, hf5⟩
            have HT5 := HT3.out.fr ((HF4.out.trans hf5).mono fun x hx => hx.1)
            have H5 := Lib.hid (h5.wide (fun k hk => hk.1) HT5)
            have HF5 := Lib.hid (HF3.out.trans ((HF4.out.trans hf5).mono fun x hx => hx.1))
            clear h5 hf5 HT5
            go_wp2_with fail
            go_roundg (s.size - (k + 1))
            case rel =>
              have hst := esc_step (s := s) hks hk0 HQ.out
              rw [HC.out, HN.out] at hst
              rw [show escP (65533, (s.data.toList.drop k).take 1) = [239, 191, 189] from HP.out] at hst
              refine ⟨k + 1, k + 1, out ++ sub s k0 k ++ [239, 191, 189], rfl, Nat.le_refl _, by omega, by simp, by simp, ?_, HF5.out, Lib.hid hst⟩
              have h6 := H5.out
              rw [← ext_sub s hk] at h6
              simpa using h6
            case measure => have := HG.out; omega
          · have hp : escP (c, (s.data.toList.drop k).take n) = (s.data.toList.drop k).take n := by
              have : (c == 65533 && ((s.data.toList.drop k).take n).length == 1) = false := by
                rw [hrl, ← Bool.not_eq_true, Bool.and_eq_true, beq_iff_eq, beq_iff_eq]; exact hbad
              simp only [escP, HSP.out, HX.out, this, Bool.not_true, Bool.or_false, Bool.false_eq_true, if_false]
            have q1 : (((c : Int) == 65533) && ((n : Int) == 1)) = false := by
              rw [← Bool.not_eq_true, Bool.and_eq_true, beq_iff_eq, beq_iff_eq]; omega
            have HP := Lib.hid hp
            clear hp
            by_cases hc6 : c = 65533
            · have q2 : ((n : Int) == 1) = false := by rw [beq_eq_false_iff_ne]; omega
              subst hc6
              clear hbad q1
              go_wp2_with fail
              refine (inRange_any 65533 _ (by omega)).mono ?_
              rintro e w3 ⟨rfl, rfl⟩
              rw [HX.out]
              go_wp2_with fail
              go_roundg (s.size - (k + n))
              case rel =>
                have hst := esc_keep (s := s) hks hk0 HQ.out (by rw [HC.out, HN.out]; exact HP.out)
                rw [HN.out] at hst
                exact ⟨k + n, k0, out, rfl, by omega, by omega, rfl, by simp, H2.out, HF2.out, Lib.hid hst⟩
              case measure => have := HG.out; omega
            · have q2 : ((c : Int) == 65533) = false := by rw [beq_eq_false_iff_ne]; omega
              clear hbad q1
              go_wp2_with fail
              refine (inRange_any c _ hc1).mono ?_
              rintro e w3 ⟨rfl, rfl⟩
              rw [HX.out]
              go_wp2_with fail
              go_roundg (s.size - (k + n))
              case rel =>
                have hst := esc_keep (s := s) hks hk0 HQ.out (by rw [HC.out, HN.out]; exact HP.out)
                rw [HN.out] at hst
                exact ⟨k + n, k0, out, rfl, by omega, by omega, rfl, by simp, H2.out, HF2.out, Lib.hid hst⟩
              case measure => have := HG.out; omega
      · have hcs : c = 34 ∨ c = 39 ∨ c = 38 ∨ c = 60 ∨ c = 62 ∨ c = 9 ∨ c = 10 ∨ c = 13 ∨ c = 133 ∨ c = 8232 := by
          refine Classical.byContradiction fun hno => hsp (escSpec_none ?_ ?_ ?_ ?_ ?_ ?_ ?_ ?_ ?_ ?_) <;> omega
        clear hsp
        rcases hcs with rfl | rfl | rfl | rfl | rfl | rfl | rfl | rfl | rfl | rfl
        · go_wp2_with fail
          obtain ⟨W, hW⟩ : ∃ W : World, w2.alloc (.cells (Lib.byteCells [38, 35, 51, 52, 59]).toArray 5 (5, 6)) = W := ⟨_, rfl⟩
          have hW' : w2.alloc (.cells #[.int .u8 38, .int .u8 35, .int .u8 51, .int .u8 52, .int .u8 59] 5 (5, 6)) = W := hW
          rw [hW']
          have hb3 : EncB (fun k => M k ∧ k ≠ w2.heap.size) W b (bs ++ out) := by rw [← hW]; exact H2.out.but _
          have hs3 : SrcB W ⟨w2.heap.size, 0, none⟩ [38, 35, 51, 52, 59] := by rw [← hW]; exact SrcB.ofAlloc _ _ _
          have hf3 : Fr M w2 W := by rw [← hW]; exact (Fr.refl _ _).alloc H2.out.2.1 _
          clear hW hW'
          have HB3 := Lib.hid hb3
          have HS3 := Lib.hid hs3
          have HF3 := Lib.hid (HF2.out.trans hf3)
          have HT3 := Lib.hid (H2.out.2.2.1.fr hf3)
          clear hb3 hs3 hf3
          go_wp2_with fail
          go_still_tail 10, (by kernel_rfl)
          change wpList _ _ _ _ _ W.drew
          obtain ⟨Wd, hWd⟩ : ∃ Wd, W.drew = Wd := ⟨_, rfl⟩
          rw [hWd]
          replace HB3 : Hid (EncB (fun k => M k ∧ k ≠ w2.heap.size) Wd b (bs ++ out)) := by rw [← hWd]; exact Lib.hid HB3.out
          replace HS3 : Hid (SrcB Wd ⟨w2.heap.size, 0, none⟩ [38, 35, 51, 52, 59]) := by rw [← hWd]; exact Lib.hid HS3.out
          replace HF3 : Hid (Fr M w Wd) := by rw [← hWd]; exact Lib.hid HF3.out.drew
          replace HT3 : Hid (Tabs M Wd) := by rw [← hWd]; exact Lib.hid HT3.out
          clear hWd
          go_wp2_with fail
          refine (enc_WriteString _ b (bs ++ out) (s.extract k0 k) Wd HB3.out (by rw [List.length_append, ext_size s hk]; omega)).mono ?_
          rintro e w4 ⟨rfl, h4, hf4⟩
          have H4 := Lib.hid h4
          have HF4 := Lib.hid hf4
          clear h4 hf4
          go_wp2_with fail
          refine (enc_Write _ b _ [38, 35, 51, 52, 59] 5 ⟨w2.heap.size, 0, none⟩ 5 w4 H4.out rfl (HS3.out.fr HF4.out (fun h => h.2 rfl)) (fun h => h.2 rfl) (by rw [List.length_append, List.length_append, ← ext_sub s hk, sub_length s k0 k hk]; omega)).mono ?_
          rintro e w5 ⟨rfl, h5, hf5⟩
          have HT5 := HT3.out.fr ((HF4.out.trans hf5).mono fun x hx => hx.1)
          have H5 := Lib.hid (h5.wide (fun k hk => hk.1) HT5)
          have HF5 := Lib.hid (HF3.out.trans ((HF4.out.trans hf5).mono fun x hx => hx.1))
          clear h5 hf5 HT5
          go_wp2_with fail
          go_roundg (s.size - (k + n))
          case rel =>
            have hst := esc_step (s := s) hks hk0 HQ.out
            rw [HC.out, HN.out] at hst
            rw [show escP (34, (s.data.toList.drop k).take n) = [38, 35, 51, 52, 59] from by simp [escP, escSpec]] at hst
            refine ⟨k + n, k + n, out ++ sub s k0 k ++ [38, 35, 51, 52, 59], rfl, Nat.le_refl _, by omega, by simp, by simp, ?_, HF5.out, Lib.hid hst⟩
            have h6 := H5.out
            rw [← ext_sub s hk] at h6
            simpa using h6
          case measure => have := HG.out; omega
        · go_wp2_with fail
          obtain ⟨W, hW⟩ : ∃ W : World, w2.alloc (.cells (Lib.byteCells [38, 35, 51, 57, 59]).toArray 5 (5, 6)) = W := ⟨_, rfl⟩
          have hW' : w2.alloc (.cells #[.int .u8 38, .int .u8 35, .int .u8 51, .int .u8 57, .int .u8 59] 5 (5, 6)) = W := hW
          rw [hW']
          have hb3 : EncB (fun k => M k ∧ k ≠ w2.heap.size) W b (bs ++ out) := by rw [← hW]; exact H2.out.but _
          have hs3 : SrcB W ⟨w2.heap.size, 0, none⟩ [38, 35, 51, 57, 59] := by rw [← hW]; exact SrcB.ofAlloc _ _ _
          have hf3 : Fr M w2 W := by rw [← hW]; exact (Fr.refl _ _).alloc H2.out.2.1 _
          clear hW hW'
          have HB3 := Lib.hid hb3
          have HS3 := Lib.hid hs3
          have HF3 := Lib.hid (HF2.out.trans hf3)
          have HT3 := Lib.hid (H2.out.2.2.1.fr hf3)
          clear hb3 hs3 hf3
          go_wp2_with fail
          go_still_tail 10, (by kernel_rfl)
          change wpList _ _ _ _ _ W.drew
          obtain ⟨Wd, hWd⟩ : ∃ Wd, W.drew = Wd := ⟨_, rfl⟩
          rw [hWd]
          replace HB3 : Hid (EncB (fun k => M k ∧ k ≠ w2.heap.size) Wd b (bs ++ out)) := by rw [← hWd]; exact Lib.hid HB3.out
          replace HS3 : Hid (SrcB Wd ⟨w2.heap.size, 0, none⟩ [38, 35, 51, 57, 59]) := by rw [← hWd]; exact Lib.hid HS3.out
          replace HF3 : Hid (Fr M w Wd) := by rw [← hWd]; exact Lib.hid HF3.out.drew
          replace HT3 : Hid (Tabs M Wd) := by rw [← hWd]; exact Lib.hid HT3.out
          clear hWd
          go_wp2_with fail
          refine (enc_WriteString _ b (bs ++ out) (s.extract k0 k) Wd HB3.out (by rw [List.length_append, ext_size s hk]; omega)).mono ?_
          rintro e w4 ⟨rfl, h4, hf4⟩
          have H4 := Lib.hid h4
          have HF4 := Lib.hid hf4
          clear h4 hf4
          go_wp2_with fail
          refine (enc_Write _ b _ [38, 35, 51, 57, 59] 5 ⟨w2.heap.size, 0, none⟩ 5 w4 H4.out rfl (HS3.out.fr HF4.out (fun h => h.2 rfl)) (fun h => h.2 rfl) (by rw [List.length_append, List.length_append, ← ext_sub s hk, sub_length s k0 k hk]; omega)).mono ?_
          rintro e w5 ⟨rfl, h5, hf5⟩
          have HT5 := HT3.out.fr ((HF4.out.trans hf5).mono fun x hx => hx.1)
          have H5 := Lib.hid (h5.wide (fun k hk => hk.1) HT5)
          have HF5 := Lib.hid (HF3.out.trans ((HF4.out.trans hf5).mono fun x hx => hx.1))
          clear h5 hf5 HT5
          go_wp2_with fail
          go_roundg (s.size - (k + n))
          case rel =>
            have hst := esc_step (s := s) hks hk0 HQ.out
            rw [HC.out, HN.out] at hst
            rw [show escP (39, (s.data.toList.drop k).take n) = [38, 35, 51, 57, 59] from by simp [escP, escSpec]] at hst
            refine ⟨k + n, k + n, out ++ sub s k0 k ++ [38, 35, 51, 57, 59], rfl, Nat.le_refl _, by omega, by simp, by simp, ?_, HF5.out, Lib.hid hst⟩
            have h6 := H5.out
            rw [← ext_sub s hk] at h6
            simpa using h6
          case measure => have := HG.out; omega
        · go_wp2_with fail
          obtain ⟨W, hW⟩ : ∃ W : World, w2.alloc (.cells (Lib.byteCells [38, 97, 109, 112, 59]).toArray 5 (5, 6)) = W := ⟨_, rfl⟩
          have hW' : w2.alloc (.cells #[.int .u8 38, .int .u8 97, .int .u8 109, .int .u8 112, .int .u8 59] 5 (5, 6)) = W := hW
          rw [hW']
          have hb3 : EncB (fun k => M k ∧ k ≠ w2.heap.size) W b (bs ++ out) := by rw [← hW]; exact H2.out.but _
          have hs3 : SrcB W ⟨w2.heap.size, 0, none⟩ [38, 97, 109, 112, 59] := by rw [← hW]; exact SrcB.ofAlloc _ _ _
          have hf3 : Fr M w2 W := by rw [← hW]; exact (Fr.refl _ _).alloc H2.out.2.1 _
          clear hW hW'
          have HB3 := Lib.hid hb3
          have HS3 := Lib.hid hs3
          have HF3 := Lib.hid (HF2.out.trans hf3)
          have HT3 := Lib.hid (H2.out.2.2.1.fr hf3)
          clear hb3 hs3 hf3
          go_wp2_with fail
          go_still_tail 10, (by kernel_rfl)
          change wpList _ _ _ _ _ W.drew
          obtain ⟨Wd, hWd⟩ : ∃ Wd, W.drew = Wd := ⟨_, rfl⟩
          rw [hWd]
          replace HB3 : Hid (EncB (fun k => M k ∧ k ≠ w2.heap.size) Wd b (bs ++ out)) := by rw [← hWd]; exact Lib.hid HB3.out
          replace HS3 : Hid (SrcB Wd ⟨w2.heap.size, 0, none⟩ [38, 97, 109, 112, 59]) := by rw [← hWd]; exact Lib.hid HS3.out
          replace HF3 : Hid (Fr M w Wd) := by rw [← hWd]; exact Lib.hid HF3.out.drew
          replace HT3 : Hid (Tabs M Wd) := by rw [← hWd]; exact Lib.hid HT3.out
          clear hWd
          go_wp2_with fail
          refine (enc_WriteString _ b (bs ++ out) (s.extract k0 k) Wd HB3.out (by rw [List.length_append, ext_size s hk]; omega)).mono ?_
          rintro e w4 ⟨rfl, h4, hf4⟩
          have H4 := Lib.hid h4
          have HF4 := Lib.hid hf4
          clear h4 hf4
          go_wp2_with fail
          refine (enc_Write _ b _ [38, 97, 109, 112, 59] 5 ⟨w2.heap.size, 0, none⟩ 5 w4 H4.out rfl (HS3.out.fr HF4.out (fun h => h.2 rfl)) (fun h => h.2 rfl) (by rw [List.length_append, List.length_append, ← ext_sub s hk, sub_length s k0 k hk]; omega)).mono ?_
          rintro e w5 ⟨rfl, h5, hf5⟩
          have HT5 := HT3.out.fr ((HF4.out.trans hf5).mono fun x hx => hx.1)
          have H5 := Lib.hid (h5.wide (fun k hk => hk.1) HT5)
          have HF5 := Lib.hid (HF3.out.trans ((HF4.out.trans hf5).mono fun x hx => hx.1))
          clear h5 hf5 HT5
          go_wp2_with fail
          go_roundg (s.size - (k + n))
          case rel =>
            have hst := esc_step (s := s) hks hk0 HQ.out
            rw [HC.out, HN.out] at hst
            rw [show escP (38, (s.data.toList.drop k).take n) = [38, 97, 109, 112, 59] from by simp [escP, escSpec]] at hst
            refine ⟨k + n, k + n, out ++ sub s k0 k ++ [38, 97, 109, 112, 59], rfl, Nat.le_refl _, by omega, by simp, by simp, ?_, HF5.out, Lib.hid hst⟩
            have h6 := H5.out
            rw [← ext_sub s hk] at h6
            simpa using h6
          case measure => have := HG.out; omega
        · go_wp2_with fail
          obtain ⟨W, hW⟩ : ∃ W : World, w2.alloc (.cells (Lib.byteCells [38, 108, 116, 59]).toArray 5 (4, 5)) = W := ⟨_, rfl⟩
          have hW' : w2.alloc (.cells #[.int .u8 38, .int .u8 108, .int .u8 116, .int .u8 59] 5 (4, 5)) = W := hW
          rw [hW']
          have hb3 : EncB (fun k => M k ∧ k ≠ w2.heap.size) W b (bs ++ out) := by rw [← hW]; exact H2.out.but _
          have hs3 : SrcB W ⟨w2.heap.size, 0, none⟩ [38, 108, 116, 59] := by rw [← hW]; exact SrcB.ofAlloc _ _ _
          have hf3 : Fr M w2 W := by rw [← hW]; exact (Fr.refl _ _).alloc H2.out.2.1 _
          clear hW hW'
          have HB3 := Lib.hid hb3
          have HS3 := Lib.hid hs3
          have HF3 := Lib.hid (HF2.out.trans hf3)
          have HT3 := Lib.hid (H2.out.2.2.1.fr hf3)
          clear hb3 hs3 hf3
          go_wp2_with fail
          go_still_tail 10, (by kernel_rfl)
          change wpList _ _ _ _ _ W.drew
          obtain ⟨Wd, hWd⟩ : ∃ Wd, W.drew = Wd := ⟨_, rfl⟩
          rw [hWd]
          replace HB3 : Hid (EncB (fun k => M k ∧ k ≠ w2.heap.size) Wd b (bs ++ out)) := by rw [← hWd]; exact Lib.hid HB3.out
          replace HS3 : Hid (SrcB Wd ⟨w2.heap.size, 0, none⟩ [38, 108, 116, 59]) := by rw [← hWd]; exact Lib.hid HS3.out
          replace HF3 : Hid (Fr M w Wd) := by rw [← hWd]; exact Lib.hid HF3.out.drew
          replace HT3 : Hid (Tabs M Wd) := by rw [← hWd]; exact Lib.hid HT3.out
          clear hWd
          go_wp2_with fail
          refine (enc_WriteString _ b (bs ++ out) (s.extract k0 k) Wd HB3.out (by rw [List.length_append, ext_size s hk]; omega)).mono ?_
          rintro e w4 ⟨rfl, h4, hf4⟩
          have H4 := Lib.hid h4
          have HF4 := Lib.hid hf4
          clear h4 hf4
          go_wp2_with fail
          refine (enc_Write _ b _ [38, 108, 116, 59] 4 ⟨w2.heap.size, 0, none⟩ 4 w4 H4.out rfl (HS3.out.fr HF4.out (fun h => h.2 rfl)) (fun h => h.2 rfl) (by rw [List.length_append, List.length_append, ← ext_sub s hk, sub_length s k0 k hk]; omega)).mono ?_
          rintro e w5 ⟨rfl, h5, hf5⟩
          have HT5 := HT3.out.fr ((HF4.out.trans hf5).mono fun x hx => hx.1)
          have H5 := Lib.hid (h5.wide (fun k hk => hk.1) HT5)
          have HF5 := Lib.hid (HF3.out.trans ((HF4.out.trans hf5).mono fun x hx => hx.1))
          clear h5 hf5 HT5
          go_wp2_with fail
          go_roundg (s.size - (k + n))
          case rel =>
            have hst := esc_step (s := s) hks hk0 HQ.out
            rw [HC.out, HN.out] at hst
            rw [show escP (60, (s.data.toList.drop k).take n) = [38, 108, 116, 59] from by simp [escP, escSpec]] at hst
            refine ⟨k + n, k + n, out ++ sub s k0 k ++ [38, 108, 116, 59], rfl, Nat.le_refl _, by omega, by simp, by simp, ?_, HF5.out, Lib.hid hst⟩
            have h6 := H5.out
            rw [← ext_sub s hk] at h6
            simpa using h6
          case measure => have := HG.out; omega
        · go_wp2_with fail
          obtain ⟨W, hW⟩ : ∃ W : World, w2.alloc (.cells (Lib.byteCells [38, 103, 116, 59]).toArray 5 (4, 5)) = W := ⟨_, rfl⟩
          have hW' : w2.alloc (.cells #[.int .u8 38, .int .u8 103, .int .u8 116, .int .u8 59] 5 (4, 5)) = W := hW
          rw [hW']
          have hb3 : EncB (fun k => M k ∧ k ≠ w2.heap.size) W b (bs ++ out) := by rw [← hW]; exact H2.out.but _
          have hs3 : SrcB W ⟨w2.heap.size, 0, none⟩ [38, 103, 116, 59] := by rw [← hW]; exact SrcB.ofAlloc _ _ _
          have hf3 : Fr M w2 W := by rw [← hW]; exact (Fr.refl _ _).alloc H2.out.2.1 _
          clear hW hW'
          have HB3 := Lib.hid hb3
          have HS3 := Lib.hid hs3
          have HF3 := Lib.hid (HF2.out.trans hf3)
          have HT3 := Lib.hid (H2.out.2.2.1.fr hf3)
          clear hb3 hs3 hf3
          go_wp2_with fail
          go_still_tail 10, (by kernel_rfl)
          change wpList _ _ _ _ _ W.drew
          obtain ⟨Wd, hWd⟩ : ∃ Wd, W.drew = Wd := ⟨_, rfl⟩
          rw [hWd]
          replace HB3 : Hid (EncB (fun k => M k ∧ k ≠ w2.heap.size) Wd b (bs ++ out)) := by rw [← hWd]; exact Lib.hid HB3.out
          replace HS3 : Hid (SrcB Wd ⟨w2.heap.size, 0, none⟩ [38, 103, 116, 59]) := by rw [← hWd]; exact Lib.hid HS3.out
          replace HF3 : Hid (Fr M w Wd) := by rw [← hWd]; exact Lib.hid HF3.out.drew
          replace HT3 : Hid (Tabs M Wd) := by rw [← hWd]; exact Lib.hid HT3.out
          clear hWd
          go_wp2_with fail
          refine (enc_WriteString _ b (bs ++ out) (s.extract k0 k) Wd HB3.out (by rw [List.length_append, ext_size s hk]; omega)).mono ?_
          rintro e w4 ⟨rfl, h4, hf4⟩
          have H4 := Lib.hid h4
          have HF4 := Lib.hid hf4
          clear h4 hf4
          go_wp2_with fail
          refine (enc_Write _ b _ [38, 103, 116, 59] 4 ⟨w2.heap.size, 0, none⟩ 4 w4 H4.out rfl (HS3.out.fr HF4.out (fun h => h.2 rfl)) (fun h => h.2 rfl) (by rw [List.length_append, List.length_append, ← ext_sub s hk, sub_length s k0 k hk]; omega)).mono ?_
          rintro e w5 ⟨rfl, h5, hf5⟩
          have HT5 := HT3.out.fr ((HF4.out.trans hf5).mono fun x hx => hx.1)
          have H5 := Lib.hid (h5.wide (fun k hk => hk.1) HT5)
          have HF5 := Lib.hid (HF3.out.trans ((HF4.out.trans hf5).mono fun x hx => hx.1))
          clear h5 hf5 HT5
          go_wp2_with fail
          go_roundg (s.size - (k + n))
          case rel =>
            have hst := esc_step (s := s) hks hk0 HQ.out
            rw [HC.out, HN.out] at hst
            rw [show escP (62, (s.data.toList.drop k).take n) = [38, 103, 116, 59] from by simp [escP, escSpec]] at hst
            refine ⟨k + n, k + n, out ++ sub s k0 k ++ [38, 103, 116, 59], rfl, Nat.le_refl _, by omega, by simp, by simp, ?_, HF5.out, Lib.hid hst⟩
            have h6 := H5.out
            rw [← ext_sub s hk] at h6
            simpa using h6
          case measure => have := HG.out; omega
        · go_wp2_with fail
          obtain ⟨W, hW⟩ : ∃ W : World, w2.alloc (.cells (Lib.byteCells [38, 35, 120, 57, 59]).toArray 5 (5, 6)) = W := ⟨_, rfl⟩
          have hW' : w2.alloc (.cells #[.int .u8 38, .int .u8 35, .int .u8 120, .int .u8 57, .int .u8 59] 5 (5, 6)) = W := hW
          rw [hW']
          have hb3 : EncB (fun k => M k ∧ k ≠ w2.heap.size) W b (bs ++ out) := by rw [← hW]; exact H2.out.but _
          have hs3 : SrcB W ⟨w2.heap.size, 0, none⟩ [38, 35, 120, 57, 59] := by rw [← hW]; exact SrcB.ofAlloc _ _ _
          have hf3 : Fr M w2 W := by rw [← hW]; exact (Fr.refl _ _).alloc H2.out.2.1 _
          clear hW hW'
          have HB3 := Lib.hid hb3
          have HS3 := Lib.hid hs3
          have HF3 := Lib.hid (HF2.out.trans hf3)
          have HT3 := Lib.hid (H2.out.2.2.1.fr hf3)
          clear hb3 hs3 hf3
          go_wp2_with fail
          go_still_tail 10, (by kernel_rfl)
          change wpList _ _ _ _ _ W.drew
          obtain ⟨Wd, hWd⟩ : ∃ Wd, W.drew = Wd := ⟨_, rfl⟩
          rw [hWd]
          replace HB3 : Hid (EncB (fun k => M k ∧ k ≠ w2.heap.size) Wd b (bs ++ out)) := by rw [← hWd]; exact Lib.hid HB3.out
          replace HS3 : Hid (SrcB Wd ⟨w2.heap.size, 0, none⟩ [38, 35, 120, 57, 59]) := by rw [← hWd]; exact Lib.hid HS3.out
          replace HF3 : Hid (Fr M w Wd) := by rw [← hWd]; exact Lib.hid HF3.out.drew
          replace HT3 : Hid (Tabs M Wd) := by rw [← hWd]; exact Lib.hid HT3.out
          clear hWd
          go_wp2_with fail
          refine (enc_WriteString _ b (bs ++ out) (s.extract k0 k) Wd HB3.out (by rw [List.length_append, ext_size s hk]; omega)).mono ?_
          rintro e w4 ⟨rfl, h4, hf4⟩
          have H4 := Lib.hid h4
          have HF4 := Lib.hid hf4
          clear h4 hf4
          go_wp2_with fail
          refine (enc_Write _ b _ [38, 35, 120, 57, 59] 5 ⟨w2.heap.size, 0, none⟩ 5 w4 H4.out rfl (HS3.out.fr HF4.out (fun h => h.2 rfl)) (fun h => h.2 rfl) (by rw [List.length_append, List.length_append, ← ext_sub s hk, sub_length s k0 k hk]; omega)).mono ?_
          rintro e w5 ⟨rfl, h5, hf5⟩
          have HT5 := HT3.out.fr ((HF4.out.trans hf5).mono fun x hx => hx.1)
          have H5 := Lib.hid (h5.wide (fun k hk => hk.1) HT5)
          have HF5 := Lib.hid (HF3.out.trans ((HF4.out.trans hf5).mono fun x hx => hx.1))
          clear h5 hf5 HT5
          go_wp2_with fail
          go_roundg (s.size - (k + n))
          case rel =>
            have hst := esc_step (s := s) hks hk0 HQ.out
            rw [HC.out, HN.out] at hst
            rw [show escP (9, (s.data.toList.drop k).take n) = [38, 35, 120, 57, 59] from by simp [escP, escSpec]] at hst
            refine ⟨k + n, k + n, out ++ sub s k0 k ++ [38, 35, 120, 57, 59], rfl, Nat.le_refl _, by omega, by simp, by simp, ?_, HF5.out, Lib.hid hst⟩
            have h6 := H5.out
            rw [← ext_sub s hk] at h6
            simpa using h6
          case measure => have := HG.out; omega
        · go_wp2_with fail
          obtain ⟨W, hW⟩ : ∃ W : World, w2.alloc (.cells (Lib.byteCells [38, 35, 120, 65, 59]).toArray 5 (5, 6)) = W := ⟨_, rfl⟩
          have hW' : w2.alloc (.cells #[.int .u8 38, .int .u8 35, .int .u8 120, .int .u8 65, .int .u8 59] 5 (5, 6)) = W := hW
          rw [hW']
          have hb3 : EncB (fun k => M k ∧ k ≠ w2.heap.size) W b (bs ++ out) := by rw [← hW]; exact H2.out.but _
          have hs3 : SrcB W ⟨w2.heap.size, 0, none⟩ [38, 35, 120, 65, 59] := by rw [← hW]; exact SrcB.ofAlloc _ _ _
          have hf3 : Fr M w2 W := by rw [← hW]; exact (Fr.refl _ _).alloc H2.out.2.1 _
          clear hW hW'
          have HB3 := Lib.hid hb3
          have HS3 := Lib.hid hs3
          have HF3 := Lib.hid (HF2.out.trans hf3)
          have HT3 := Lib.hid (H2.out.2.2.1.fr hf3)
          clear hb3 hs3 hf3
          go_wp2_with fail
          go_still_tail 10, (by kernel_rfl)
          change wpList _ _ _ _ _ W.drew
          obtain ⟨Wd, hWd⟩ : ∃ Wd, W.drew = Wd := ⟨_, rfl⟩
          rw [hWd]
          replace HB3 : Hid (EncB (fun k => M k ∧ k ≠ w2.heap.size) Wd b (bs ++ out)) := by rw [← hWd]; exact Lib.hid HB3.out
          replace HS3 : Hid (SrcB Wd ⟨w2.heap.size, 0, none⟩ [38, 35, 120, 65, 59]) := by rw [← hWd]; exact Lib.hid HS3.out
          replace HF3 : Hid (Fr M w Wd) := by rw [← hWd]; exact Lib.hid HF3.out.drew
          replace HT3 : Hid (Tabs M Wd) := by rw [← hWd]; exact Lib.hid HT3.out
          clear hWd
          go_wp2_with fail
          refine (enc_WriteString _ b (bs ++ out) (s.extract k0 k) Wd HB3.out (by rw [List.length_append, ext_size s hk]; omega)).mono ?_
          rintro e w4 ⟨rfl, h4, hf4⟩
          have H4 := Lib.hid h4
          have HF4 := Lib.hid hf4
          clear h4 hf4
          go_wp2_with fail
          refine (enc_Write _ b _ [38, 35, 120, 65, 59] 5 ⟨w2.heap.size, 0, none⟩ 5 w4 H4.out rfl (HS3.out.fr HF4.out (fun h => h.2 rfl)) (fun h => h.2 rfl) (by rw [List.length_append, List.length_append, ← ext_sub s hk, sub_length s k0 k hk]; omega)).mono ?_
          rintro e w5 ⟨rfl, h5, hf5⟩
          have HT5 := HT3.out.fr ((HF4.out.trans hf5).mono fun x hx => hx.1)
          have H5 := Lib.hid (h5.wide (fun k hk => hk.1) HT5)
          have HF5 := Lib.hid (HF3.out.trans ((HF4.out.trans hf5).mono fun x hx => hx.1))
          clear h5 hf5 HT5
          go_wp2_with fail
          go_roundg (s.size - (k + n))
          case rel =>
            have hst := esc_step (s := s) hks hk0 HQ.out
            rw [HC.out, HN.out] at hst
            rw [show escP (10, (s.data.toList.drop k).take n) = [38, 35, 120, 65, 59] from by simp [escP, escSpec]] at hst
            refine ⟨k + n, k + n, out ++ sub s k0 k ++ [38, 35, 120, 65, 59], rfl, Nat.le_refl _, by omega, by simp, by simp, ?_, HF5.out, Lib.hid hst⟩
            have h6 := H5.out
            rw [← ext_sub s hk] at h6
            simpa using h6
          case measure => have := HG.out; omega
        · go_wp2_with fail
          obtain ⟨W, hW⟩ : ∃ W : World, w2.alloc (.cells (Lib.byteCells [38, 35, 120, 68, 59]).toArray 5 (5, 6)) = W := ⟨_, rfl⟩
          have hW' : w2.alloc (.cells #[.int .u8 38, .int .u8 35, .int .u8 120, .int .u8 68, .int .u8 59] 5 (5, 6)) = W := hW
          rw [hW']
          have hb3 : EncB (fun k => M k ∧ k ≠ w2.heap.size) W b (bs ++ out) := by rw [← hW]; exact H2.out.but _
          have hs3 : SrcB W ⟨w2.heap.size, 0, none⟩ [38, 35, 120, 68, 59] := by rw [← hW]; exact SrcB.ofAlloc _ _ _
          have hf3 : Fr M w2 W := by rw [← hW]; exact (Fr.refl _ _).alloc H2.out.2.1 _
          clear hW hW'
          have HB3 := Lib.hid hb3
          have HS3 := Lib.hid hs3
          have HF3 := Lib.hid (HF2.out.trans hf3)
          have HT3 := Lib.hid (H2.out.2.2.1.fr hf3)
          clear hb3 hs3 hf3
          go_wp2_with fail
          go_still_tail 10, (by kernel_rfl)
          change wpList _ _ _ _ _ W.drew
          obtain ⟨Wd, hWd⟩ : ∃ Wd, W.drew = Wd := ⟨_, rfl⟩
          rw [hWd]
          replace HB3 : Hid (EncB (fun k => M k ∧ k ≠ w2.heap.size) Wd b (bs ++ out)) := by rw [← hWd]; exact Lib.hid HB3.out
          replace HS3 : Hid (SrcB Wd ⟨w2.heap.size, 0, none⟩ [38, 35, 120, 68, 59]) := by rw [← hWd]; exact Lib.hid HS3.out
          replace HF3 : Hid (Fr M w Wd) := by rw [← hWd]; exact Lib.hid HF3.out.drew
          replace HT3 : Hid (Tabs M Wd) := by rw [← hWd]; exact Lib.hid HT3.out
          clear hWd
          go_wp2_with fail
          refine (enc_WriteString _ b (bs ++ out) (s.extract k0 k) Wd HB3.out (by rw [List.length_append, ext_size s hk]; omega)).mono ?_
          rintro e w4 ⟨rfl, h4, hf4⟩
          have H4 := Lib.hid h4
          have HF4 := Lib.hid hf4
          clear h4 hf4
          go_wp2_with fail
          refine (enc_Write _ b _ [38, 35, 120, 68, 59] 5 ⟨w2.heap.size, 0, none⟩ 5 w4 H4.out rfl (HS3.out.fr HF4.out (fun h => h.2 rfl)) (fun h => h.2 rfl) (by rw [List.length_append, List.length_append, ← ext_sub s hk, sub_length s k0 k hk]; omega)).mono ?_
          rintro e w5 ⟨rfl, h5, hf5⟩
          have HT5 := HT3.out.fr ((HF4.out.trans hf5).mono fun x hx => hx.1)
          have H5 := Lib.hid (h5.wide (fun k hk => hk.1) HT5)
          have HF5 := Lib.hid (HF3.out.trans ((HF4.out.trans hf5).mono fun x hx => hx.1))
          clear h5 hf5 HT5
          go_wp2_with fail
          go_roundg (s.size - (k + n))
          case rel =>
            have hst := esc_step (s := s) hks hk0 HQ.out
            rw [HC.out, HN.out] at hst
            rw [show escP (13, (s.data.toList.drop k).take n) = [38, 35, 120, 68, 59] from by simp [escP, escSpec]] at hst
            refine ⟨k + n, k + n, out ++ sub s k0 k ++ [38, 35, 120, 68, 59], rfl, Nat.le_refl _, by omega, by simp, by simp, ?_, HF5.out, Lib.hid hst⟩
            have h6 := H5.out
            rw [← ext_sub s hk] at h6
            simpa using h6
          case measure => have := HG.out; omega
        · go_wp2_with fail
          obtain ⟨W, hW⟩ : ∃ W : World, w2.alloc (.cells (Lib.byteCells [38, 35, 120, 56, 53, 59]).toArray 5 (6, 7)) = W := ⟨_, rfl⟩
          have hW' : w2.alloc (.cells #[.int .u8 38, .int .u8 35, .int .u8 120, .int .u8 56, .int .u8 53, .int .u8 59] 5 (6, 7)) = W := hW
          rw [hW']
          have hb3 : EncB (fun k => M k ∧ k ≠ w2.heap.size) W b (bs ++ out) := by rw [← hW]; exact H2.out.but _
          have hs3 : SrcB W ⟨w2.heap.size, 0, none⟩ [38, 35, 120, 56, 53, 59] := by rw [← hW]; exact SrcB.ofAlloc _ _ _
          have hf3 : Fr M w2 W := by rw [← hW]; exact (Fr.refl _ _).alloc H2.out.2.1 _
          clear hW hW'
          have HB3 := Lib.hid hb3
          have HS3 := Lib.hid hs3
          have HF3 := Lib.hid (HF2.out.trans hf3)
          have HT3 := Lib.hid (H2.out.2.2.1.fr hf3)
          clear hb3 hs3 hf3
          go_wp2_with fail
          go_still_tail 10, (by kernel_rfl)
          change wpList _ _ _ _ _ W.drew
          obtain ⟨Wd, hWd⟩ : ∃ Wd, W.drew = Wd := ⟨_, rfl⟩
          rw [hWd]
          replace HB3 : Hid (EncB (fun k => M k ∧ k ≠ w2.heap.size) Wd b (bs ++ out)) := by rw [← hWd]; exact Lib.hid HB3.out
          replace HS3 : Hid (SrcB Wd ⟨w2.heap.size, 0, none⟩ [38, 35, 120, 56, 53, 59]) := by rw [← hWd]; exact Lib.hid HS3.out
          replace HF3 : Hid (Fr M w Wd) := by rw [← hWd]; exact Lib.hid HF3.out.drew
          replace HT3 : Hid (Tabs M Wd) := by rw [← hWd]; exact Lib.hid HT3.out
          clear hWd
          go_wp2_with fail
          refine (enc_WriteString _ b (bs ++ out) (s.extract k0 k) Wd HB3.out (by rw [List.length_append, ext_size s hk]; omega)).mono ?_
          rintro e w4 ⟨rfl, h4, hf4⟩
          have H4 := Lib.hid h4
          have HF4 := Lib.hid hf4
          clear h4 hf4
          go_wp2_with fail
          refine (enc_Write _ b _ [38, 35, 120, 56, 53, 59] 6 ⟨w2.heap.size, 0, none⟩ 6 w4 H4.out rfl (HS3.out.fr HF4.out (fun h => h.2 rfl)) (fun h => h.2 rfl) (by rw [List.length_append, List.length_append, ← ext_sub s hk, sub_length s k0 k hk]; omega)).mono ?_
          rintro e w5 ⟨rfl, h5, hf5⟩
          have HT5 := HT3.out.fr ((HF4.out.trans hf5).mono fun x hx => hx.1)
          have H5 := Lib.hid (h5.wide (fun k hk => hk.1) HT5)
          have HF5 := Lib.hid (HF3.out.trans ((HF4.out.trans hf5).mono fun x hx => hx.1))
          clear h5 hf5 HT5
          go_wp2_with fail
          go_roundg (s.size - (k + n))
          case rel =>
            have hst := esc_step (s := s) hks hk0 HQ.out
            rw [HC.out, HN.out] at hst
            rw [show escP (133, (s.data.toList.drop k).take n) = [38, 35, 120, 56, 53, 59] from by simp [escP, escSpec]] at hst
            refine ⟨k + n, k + n, out ++ sub s k0 k ++ [38, 35, 120, 56, 53, 59], rfl, Nat.le_refl _, by omega, by simp, by simp, ?_, HF5.out, Lib.hid hst⟩
            have h6 := H5.out
            rw [← ext_sub s hk] at h6
            simpa using h6
          case measure => have := HG.out; omega
        · go_wp2_with fail
          obtain ⟨W, hW⟩ : ∃ W : World, w2.alloc (.cells (Lib.byteCells [38, 35, 120, 50, 48, 50, 56, 59]).toArray 5 (8, 9)) = W := ⟨_, rfl⟩
          have hW' : w2.alloc (.cells #[.int .u8 38, .int .u8 35, .int .u8 120, .int .u8 50, .int .u8 48, .int .u8 50, .int .u8 56, .int .u8 59] 5 (8, 9)) = W := hW
          rw [hW']
          have hb3 : EncB (fun k => M k ∧ k ≠ w2.heap.size) W b (bs ++ out) := by rw [← hW]; exact H2.out.but _
          have hs3 : SrcB W ⟨w2.heap.size, 0, none⟩ [38, 35, 120, 50, 48, 50, 56, 59] := by rw [← hW]; exact SrcB.ofAlloc _ _ _
          have hf3 : Fr M w2 W := by rw [← hW]; exact (Fr.refl _ _).alloc H2.out.2.1 _
          clear hW hW'
          have HB3 := Lib.hid hb3
          have HS3 := Lib.hid hs3
          have HF3 := Lib.hid (HF2.out.trans hf3)
          have HT3 := Lib.hid (H2.out.2.2.1.fr hf3)
          clear hb3 hs3 hf3
          go_wp2_with fail
          go_still_tail 10, (by kernel_rfl)
          change wpList _ _ _ _ _ W.drew
          obtain ⟨Wd, hWd⟩ : ∃ Wd, W.drew = Wd := ⟨_, rfl⟩
          rw [hWd]
          replace HB3 : Hid (EncB (fun k => M k ∧ k ≠ w2.heap.size) Wd b (bs ++ out)) := by rw [← hWd]; exact Lib.hid HB3.out
          replace HS3 : Hid (SrcB Wd ⟨w2.heap.size, 0, none⟩ [38, 35, 120, 50, 48, 50, 56, 59]) := by rw [← hWd]; exact Lib.hid HS3.out
          replace HF3 : Hid (Fr M w Wd) := by rw [← hWd]; exact Lib.hid HF3.out.drew
          replace HT3 : Hid (Tabs M Wd) := by rw [← hWd]; exact Lib.hid HT3.out
          clear hWd
          go_wp2_with fail
          refine (enc_WriteString _ b (bs ++ out) (s.extract k0 k) Wd HB3.out (by rw [List.length_append, ext_size s hk]; omega)).mono ?_
          rintro e w4 ⟨rfl, h4, hf4⟩
          have H4 := Lib.hid h4
          have HF4 := Lib.hid hf4
          clear h4 hf4
          go_wp2_with fail
          refine (enc_Write _ b _ [38, 35, 120, 50, 48, 50, 56, 59] 8 ⟨w2.heap.size, 0, none⟩ 8 w4 H4.out rfl (HS3.out.fr HF4.out (fun h => h.2 rfl)) (fun h => h.2 rfl) (by rw [List.length_append, List.length_append, ← ext_sub s hk, sub_length s k0 k hk]; omega)).mono ?_
          rintro e w5 ⟨rfl, h5, hf5⟩
          have HT5 := HT3.out.fr ((HF4.out.trans hf5).mono fun x hx => hx.1)
          have H5 := Lib.hid (h5.wide (fun k hk => hk.1) HT5)
          have HF5 := Lib.hid (HF3.out.trans ((HF4.out.trans hf5).mono fun x hx => hx.1))
          clear h5 hf5 HT5
          go_wp2_with fail
          go_roundg (s.size - (k + n))
          case rel =>
            have hst := esc_step (s := s) hks hk0 HQ.out
            rw [HC.out, HN.out] at hst
            rw [show escP (8232, (s.data.toList.drop k).take n) = [38, 35, 120, 50, 48, 50, 56, 59] from by simp [escP, escSpec]] at hst
            refine ⟨k + n, k + n, out ++ sub s k0 k ++ [38, 35, 120, 50, 48, 50, 56, 59], rfl, Nat.le_refl _, by omega, by simp, by simp, ?_, HF5.out, Lib.hid hst⟩
            have h6 := H5.out
            rw [← ext_sub s hk] at h6
            simpa using h6
          case measure => have := HG.out; omega
    · obtain rfl : k = s.size := by omega
      go_wp2_with fail
      go_still_tail 7, (by kernel_rfl)
      change wpList _ _ _ _ _ wr.drew
      obtain ⟨wd, hWd⟩ : ∃ Wd, wr.drew = Wd := ⟨_, rfl⟩
      rw [hWd]
      replace H1 : Hid (EncB M wd b (bs ++ out)) := by rw [← hWd]; exact Lib.hid H1.out
      replace HF1 : Hid (Fr M w wd) := by rw [← hWd]; exact Lib.hid HF1.out.drew
      clear hWd
      go_wp2_with fail
      refine (enc_WriteString _ b (bs ++ out) (s.extract k0 s.size) wd H1.out (by rw [List.length_append, ext_size s (Nat.le_refl _)]; omega)).mono ?_
      rintro e w4 ⟨rfl, h4, hf4⟩
      have H4 := Lib.hid h4
      have HF4 := Lib.hid (HF1.out.trans hf4)
      clear h4 hf4
      go_wp2_with fail
      go_end0
      have hst := HQ.out
      rw [List.drop_of_length_le (by omega), show esc [] = [] from rfl, List.append_nil] at hst
      refine ⟨rfl, ?_, HF4.out⟩
      have h6 := H4.out
      rw [← ext_sub s (Nat.le_refl _), List.append_assoc, hst] at h6
      exact h6

end Go.Proofs.YtlljphipglgjiaaGreatDoor
