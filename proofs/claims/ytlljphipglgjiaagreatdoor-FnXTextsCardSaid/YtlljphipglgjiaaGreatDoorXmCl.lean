/-
  spec.XCleaned.
-/
import Derived.Test.YtlljphipglgjiaaGreatDoorXmTxt
namespace Go.Proofs.YtlljphipglgjiaaGreatDoor
open Go.RowKit Go.Lib
set_option linter.unusedSimpArgs false

theorem clean_step (l : List UInt8) (hl : l ≠ []) (c : Nat) (hc : (decodeL l).1 = c) : cleanP (c, l.take (decodeL l).2) = encodeRune ((if isXChar c then c else 65533 : Nat) : Int) := by
  have e3 : encodeRune ((65533 : Nat) : Int) = [239, 191, 189] := by decide +kernel
  have hlen : (l.take (decodeL l).2).length = (decodeL l).2 := by rw [List.length_take]; have := decodeL_le l hl; omega
  unfold cleanP
  by_cases hx : isXChar c = true
  · by_cases hv : c = 65533 ∧ (decodeL l).2 = 1
    · rw [if_pos (by rw [hlen, hv.2, hv.1]; simp)]
      rw [if_pos hx, hv.1, e3]
    · rw [if_neg (by simp [hx, hlen]; exact fun h h2 => hv ⟨h, h2⟩), if_pos hx, ← hc]
      exact (encode_decode l hl (by rw [hc]; exact hv)).symm
  · rw [if_pos (by simp [hx]), if_neg hx, e3]

set_option maxRecDepth 100000 in
set_option maxHeartbeats 4000000 in
theorem cleaned_any (s : ByteArray) (w : World) (hs : s.size ≤ 1000000) :
    Calls Tryz.prog 26 #[.string s] w fun e w' => e = .returned (.string (bst (clean s.data.toList))) ∧ Below w.heap.size w w' := by
  go_enter Tryz.func26, Tryz.ntmps26
  go_wp2_with fail
  go_loopg [3, 4] s.size (fun g ov iv wr => ∃ (k : Nat) (acc : List UInt8), g = s.size - k ∧ k ≤ s.size ∧ ov = .string (bst acc) ∧ iv = .int .i64 k ∧ acc.length ≤ 4 * k ∧ Below w.heap.size w wr ∧ Hid (acc ++ clean (s.data.toList.drop k) = clean s.data.toList))
  case atStart => exact ⟨0, [], rfl, Nat.zero_le _, rfl, rfl, by simp, Below.refl _ _, Lib.hid (by simp)⟩
  case round =>
    obtain ⟨k, acc, hg, hk, rfl, rfl, hal, hb, HQ⟩ := hrel
    have HB := Lib.hid hb
    have HG := Lib.hid hg
    clear hb hg
    by_cases hks : k < s.size
    · obtain ⟨l, hl⟩ : ∃ l, s.data.toList.drop k = l := ⟨_, rfl⟩
      have hlc : l = s[k] :: s.data.toList.drop (k + 1) := by rw [← hl]; exact drop_cons s k hks
      have hlne : l ≠ [] := by rw [hlc]; simp
      have hll : l.length = s.size - k := by rw [← hl, List.length_drop, list_size]
      obtain ⟨ch, hch⟩ : ∃ ch, (decodeL l).1 = ch := ⟨_, rfl⟩
      obtain ⟨n, hn⟩ : ∃ n, (decodeL l).2 = n := ⟨_, rfl⟩
      have hn1 : 1 ≤ n := by rw [← hn]; exact decodeL_width _
      have hn2 : n ≤ s.size - k := by rw [← hn, ← hll]; exact decodeL_le _ hlne
      have hstep : clean l = encodeRune ((if isXChar ch then ch else 65533 : Nat) : Int) ++ clean (s.data.toList.drop (k + n)) := by
        rw [clean_cons l hlne, hch, clean_step l hlne ch hch, hn, ← hl, List.drop_drop]
      rw [hl] at HQ
      have HQ2 : Hid ((acc ++ encodeRune ((if isXChar ch then ch else 65533 : Nat) : Int)) ++ clean (s.data.toList.drop (k + n)) = clean s.data.toList) := Lib.hid (by rw [← HQ.out, hstep, List.append_assoc])
      have HX := Lib.hid (show Calls Tryz.prog 56 #[.string s, .int .i64 k] wr fun e w' => e = .returned (.tuple #[.int .i32 ch, .int .i64 n]) ∧ Below wr.heap.size wr w' by
        have := xRune_any s k wr hs hks
        rw [hl, hch, hn] at this
        exact this)
      have q5 : IntKind.i64.wrap ((k : Int) + (n : Int)) = (k : Int) + (n : Int) := by rw [IntKind.wrap_i64]; omega
      have hxI : isXCharI (ch : Int) = isXChar ch := by unfold isXCharI; simp
      have HXI := Lib.hid hxI
      clear hl hlc hlne hll hch hn hstep HQ hxI
      have hen := enc_len ((if isXChar ch then ch else 65533 : Nat) : Int)
      go_wp2_with fail
      refine HX.out.mono ?_
      rintro e w2 ⟨rfl, hb2⟩
      have HB2 := Lib.hid (HB.out.trans (hb2.mono HB.out.size))
      clear hb2
      go_wp2_with fail
      refine (xChar_any _ _).mono ?_
      rintro e w3 ⟨rfl, rfl⟩
      rw [HXI.out]
      cases hx : isXChar ch with
      | true =>
        rw [hx, if_pos rfl] at HQ2 hen
        have hut : Utf8.encode (ch : Int) = bst (encodeRune (ch : Int)) := ba_ext (by rw [utf8_encode, bst_toList])
        have hsum : (bst acc).size + (Utf8.encode (ch : Int)).size ≤ 100000000 := by
          rw [hut, bst_size, bst_size]
          omega
        have HUT := Lib.hid hut
        clear hut hx
        go_wp2_with fail
        go_roundg (s.size - (k + n))
        case rel => exact ⟨k + n, acc ++ encodeRune (ch : Int), rfl, by omega, by rw [HUT.out, bst_app], by go_num, by rw [List.length_append]; omega, HB2.out, HQ2⟩
        case measure => have := HG.out; omega
      | false =>
        rw [hx, if_neg Bool.false_ne_true] at HQ2 hen
        have hut : Utf8.encode 65533 = bst (encodeRune ((65533 : Nat) : Int)) := ba_ext (by rw [← utf8_encode, bst_toList]; rfl)
        have hsum : (bst acc).size + (Utf8.encode 65533).size ≤ 100000000 := by
          rw [hut, bst_size, bst_size]
          omega
        have HUT := Lib.hid hut
        clear hut hx
        go_wp2_with fail
        go_roundg (s.size - (k + n))
        case rel => exact ⟨k + n, acc ++ encodeRune ((65533 : Nat) : Int), rfl, by omega, by rw [HUT.out, bst_app], by go_num, by rw [List.length_append]; omega, HB2.out, HQ2⟩
        case measure => have := HG.out; omega
    · obtain rfl : k = s.size := by omega
      have HQ2 : Hid (acc = clean s.data.toList) := Lib.hid (by
        have := HQ.out
        rw [List.drop_of_length_le (by rw [list_size]; exact Nat.le_refl _), show clean [] = [] from rfl, List.append_nil] at this
        exact this)
      go_wp2_with fail
      go_ret
      exact ⟨by rw [← HQ2.out]; rfl, HB.out⟩

end Go.Proofs.YtlljphipglgjiaaGreatDoor
