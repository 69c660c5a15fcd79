/-
  A text's characters one behind the other (plain; no program): what is written of each, what each becomes.
  spec: XLetter, XPlain, xHalves, xReader.name, xChar.
  spec: XPlain, xHalves, xReader.name.
-/
import Derived.Lib.MapLaws
import Derived.Lib.TrimUEq
import Derived.Lib.RuneCountTail
import Derived.Shelf.Unicode.DecodeSlow
import Derived.Test.YtlljphipglgjiaaGreatDoorXmRd
namespace Go.Proofs.YtlljphipglgjiaaGreatDoor
open Go.Lib

def pieceF : Nat → List UInt8 → List (Nat × List UInt8)
  | 0, _ => []
  | f + 1, l => if l = [] then [] else ((decodeL l).1, l.take (decodeL l).2) :: pieceF f (l.drop (decodeL l).2)
/-- The characters of a text: each with its bytes; a byte that is none is U+FFFD. -/
def pieces (l : List UInt8) : List (Nat × List UInt8) := pieceF l.length l

theorem pieceF_more : ∀ (f g : Nat) (l : List UInt8), l.length ≤ f → l.length ≤ g → pieceF f l = pieceF g l
  | 0, 0, _, _, _ => rfl
  | 0, g + 1, l, hf, _ => by
    have : l = [] := List.eq_nil_of_length_eq_zero (by omega)
    simp [pieceF, this]
  | f + 1, 0, l, _, hg => by
    have : l = [] := List.eq_nil_of_length_eq_zero (by omega)
    simp [pieceF, this]
  | f + 1, g + 1, l, hf, hg => by
    by_cases hl : l = []
    · simp [pieceF, hl]
    · have := decodeL_width l
      simp only [pieceF, if_neg hl]
      rw [pieceF_more f g _ (by rw [List.length_drop]; omega) (by rw [List.length_drop]; omega)]
theorem pieces_nil : pieces [] = [] := rfl
theorem pieces_cons (l : List UInt8) (hl : l ≠ []) : pieces l = ((decodeL l).1, l.take (decodeL l).2) :: pieces (l.drop (decodeL l).2) := by
  have h1 := decodeL_width l
  have h2 : 0 < l.length := by
    cases l with
    | nil => exact absurd rfl hl
    | cons a t => simp
  obtain ⟨f, hf⟩ : ∃ f, l.length = f + 1 := ⟨l.length - 1, by omega⟩
  unfold pieces
  rw [hf, pieceF, if_neg hl, pieceF_more f _ _ (by rw [List.length_drop]; omega) (Nat.le_refl _)]

def isXChar (c : Nat) : Bool := c == 9 || c == 10 || c == 13 || (decide (32 ≤ c) && decide (c ≤ 55295)) || (decide (57344 ≤ c) && decide (c ≤ 65533)) || (decide (65536 ≤ c) && decide (c ≤ 1114111))
theorem isXChar_yes {c : Nat} (h : c = 9 ∨ c = 10 ∨ c = 13 ∨ (32 ≤ c ∧ c ≤ 55295) ∨ (57344 ≤ c ∧ c ≤ 65533) ∨ (65536 ≤ c ∧ c ≤ 1114111)) : isXChar c = true := by
  unfold isXChar
  simp only [Bool.or_eq_true, Bool.and_eq_true, beq_iff_eq, decide_eq_true_eq]
  omega
theorem isXChar_no {c : Nat} (h : ¬ (c = 9 ∨ c = 10 ∨ c = 13 ∨ (32 ≤ c ∧ c ≤ 55295) ∨ (57344 ≤ c ∧ c ≤ 65533) ∨ (65536 ≤ c ∧ c ≤ 1114111))) : isXChar c = false := by
  rw [← Bool.not_eq_true]
  unfold isXChar
  simp only [Bool.or_eq_true, Bool.and_eq_true, beq_iff_eq, decide_eq_true_eq]
  omega
/-- What is written of a character: the special ones; what may not be. -/
def escSpec (c : Nat) : Option (List UInt8) :=
  if c = 34 then some [38, 35, 51, 52, 59] else if c = 39 then some [38, 35, 51, 57, 59] else if c = 38 then some [38, 97, 109, 112, 59] else if c = 60 then some [38, 108, 116, 59]
  else if c = 62 then some [38, 103, 116, 59] else if c = 9 then some [38, 35, 120, 57, 59] else if c = 10 then some [38, 35, 120, 65, 59] else if c = 13 then some [38, 35, 120, 68, 59]
  else if c = 133 then some [38, 35, 120, 56, 53, 59] else if c = 8232 then some [38, 35, 120, 50, 48, 50, 56, 59] else none
def escP (p : Nat × List UInt8) : List UInt8 :=
  match escSpec p.1 with
  | some l => l
  | none => if !isXChar p.1 || (p.1 == 65533 && p.2.length == 1) then [239, 191, 189] else p.2
/-- A text as it is written. -/
def esc (l : List UInt8) : List UInt8 := (pieces l).flatMap escP
theorem esc_cons (l : List UInt8) (hl : l ≠ []) : esc l = escP ((decodeL l).1, l.take (decodeL l).2) ++ esc (l.drop (decodeL l).2) := by
  unfold esc
  rw [pieces_cons l hl, List.flatMap_cons]

theorem decodeGo_at (s : ByteArray) (i : Nat) (hi : i < s.size) : Lib.decodeGo (s.extract i s.size) = decodeL (s.data.toList.drop i) := by
  unfold Lib.decodeGo
  rw [if_neg (by simp; omega), tail_decode, Nat.add_zero, decodeL_drop]

theorem escP_length (p : Nat × List UInt8) : (escP p).length ≤ 8 + p.2.length := by
  unfold escP
  split
  · rename_i l h
    unfold escSpec at h
    repeat' (split at h)
    all_goals first | (cases h; done) | (cases h; simp; done) | (cases h; simp; omega)
  · split <;> simp <;> omega
theorem esc_length : ∀ (n : Nat) (l : List UInt8), l.length ≤ n → (esc l).length ≤ 9 * l.length
  | n, l, hn => by
    by_cases hl : l = []
    · simp [hl, esc, pieces_nil]
    · have h1 := decodeL_width l
      have h2 := decodeL_le l hl
      have h3 := escP_length ((decodeL l).1, l.take (decodeL l).2)
      match n with
      | 0 => exact absurd (List.eq_nil_of_length_eq_zero (by omega)) hl
      | n + 1 =>
        have h4 := esc_length n (l.drop (decodeL l).2) (by rw [List.length_drop]; omega)
        rw [esc_cons l hl, List.length_append]
        rw [List.length_drop] at h4
        simp only [List.length_take] at h3
        omega
end Go.Proofs.YtlljphipglgjiaaGreatDoor

namespace Go.Proofs.YtlljphipglgjiaaGreatDoor
open Go.RowKit
set_option linter.unusedSimpArgs false

def letterB (c : UInt8) (first : Bool) : Bool :=
  (decide (97 ≤ c.toNat) && decide (c.toNat ≤ 122)) || (decide (65 ≤ c.toNat) && decide (c.toNat ≤ 90)) || c.toNat == 95 || (!first && ((decide (48 ≤ c.toNat) && decide (c.toNat ≤ 57)) || c.toNat == 45 || c.toNat == 46))
set_option maxHeartbeats 1000000 in
theorem letter_any (c : UInt8) (f : Bool) (w : World) : Calls Tryz.prog 36 #[.int .u8 c.toNat, .bool f] w fun e w' => e = .returned (.bool (letterB c f)) ∧ w = w' := by
  have hc := c.toNat_lt
  cases f
  all_goals
    go_enter Tryz.func36, Tryz.ntmps36
    go_wp2_with fail
    all_goals go_ret
    all_goals refine ⟨ret_bool ?_, rfl⟩
    all_goals
      rw [Bool.eq_iff_iff]
      simp only [letterB, Bool.or_eq_true, Bool.and_eq_true, beq_iff_eq, decide_eq_true_eq, Bool.not_false, Bool.not_true, true_and, false_and, Bool.false_eq_true, Bool.true_eq_false, or_false, true_iff, false_iff]
      omega

/-- Of a rune as it comes: a number of 32 bits, with a sign. -/
def isXCharI (c : Int) : Bool := decide (0 ≤ c) && isXChar c.toNat
set_option maxHeartbeats 1000000 in
theorem xChar_any (c : Int) (w : World) :
    Calls Tryz.prog 57 #[.int .i32 c] w fun e w' => e = .returned (.bool (isXCharI c)) ∧ w = w' := by
  go_enter Tryz.func57, Tryz.ntmps57
  go_wp2_with fail
  all_goals go_ret
  all_goals refine ⟨ret_bool ?_, rfl⟩
  all_goals
    rw [Bool.eq_iff_iff]
    simp only [isXCharI, isXChar, Bool.or_eq_true, Bool.and_eq_true, beq_iff_eq, decide_eq_true_eq, Bool.not_false, Bool.not_true, true_and, false_and, Bool.false_eq_true, Bool.true_eq_false, or_false, true_iff, false_iff]
    omega

def plainB : List UInt8 → Bool
  | [] => false
  | c :: t => letterB c true && t.all (letterB · false)
theorem plainB_iff (l : List UInt8) : plainB l = true ↔ l ≠ [] ∧ ∀ k (hk : k < l.length), letterB l[k] (k == 0) = true := by
  cases l with
  | nil => simp [plainB]
  | cons c t =>
    simp only [plainB, Bool.and_eq_true, List.all_eq_true, ne_eq, reduceCtorEq, not_false_eq_true, true_and]
    constructor
    · rintro ⟨h1, h2⟩ k hk
      cases k with
      | zero => exact h1
      | succ k => exact h2 _ (List.getElem_mem (by simpa using hk))
    · intro h
      refine ⟨h 0 (by simp), fun x hx => ?_⟩
      obtain ⟨k, hk, rfl⟩ := List.mem_iff_getElem.1 hx
      exact h (k + 1) (by simpa using hk)

theorem nil_beq (s : ByteArray) : (s.toList == ([] : List UInt8)) = decide (s.size = 0) := by
  have hl : s.data.toList.length = s.size := by rw [Array.length_toList]; rfl
  rw [Lib.toList_data, Bool.eq_iff_iff, beq_iff_eq, decide_eq_true_eq]
  constructor
  · intro h; rw [h] at hl; exact hl.symm
  · intro h; exact List.eq_nil_of_length_eq_zero (by omega)

end Go.Proofs.YtlljphipglgjiaaGreatDoor

namespace Go.Proofs.YtlljphipglgjiaaGreatDoor
open Go.RowKit
set_option linter.unusedSimpArgs false

theorem empty_dec (s : ByteArray) : decide (s = ByteArray.empty) = decide (s.size = 0) := by
  have hl : s.data.toList.length = s.size := by rw [Array.length_toList]; rfl
  rw [Bool.eq_iff_iff, decide_eq_true_eq, decide_eq_true_eq]
  constructor
  · rintro rfl; rfl
  · intro h
    refine ba_ext ?_
    have h0 : s.data.toList = [] := List.eq_nil_of_length_eq_zero (by omega)
    rw [h0]; rfl

set_option maxHeartbeats 1000000 in
theorem plain_any (s : ByteArray) (w : World) (hs : s.size ≤ 2147483647) :
    Calls Tryz.prog 17 #[.string s] w fun e w' => e = .returned (.bool (plainB s.data.toList)) ∧ ∃ n, w.drewN n = w' := by
  have hl : s.data.toList.length = s.size := by rw [Array.length_toList]; rfl
  obtain ⟨r, hr⟩ : ∃ r, plainB s.data.toList = r := ⟨_, rfl⟩
  rw [hr]
  have HR := Lib.hid hr
  clear hr
  go_enter Tryz.func17, Tryz.ntmps17
  go_wp2_with fail
  go_loopg [3] s.size (fun g i wr => ∃ k : Nat, g = s.size - k ∧ k ≤ s.size ∧ i = .int .i64 k ∧ (∃ n, w.drewN n = wr) ∧ Hid (∀ m (_hm : m < k) (hk : m < s.size), letterB s[m] (m == 0) = true))
  case atStart => exact ⟨0, rfl, Nat.zero_le _, rfl, ⟨0, rfl⟩, Lib.hid fun m hm => by omega⟩
  case round =>
    obtain ⟨k, hg, hk, rfl, ⟨n, rfl⟩, HA⟩ := hrel
    have HG := Lib.hid hg
    clear hg
    by_cases hks : k < s.size
    · have e0 : ((k : Int) == 0) = (k == 0) := by rw [Bool.eq_iff_iff, beq_iff_eq, beq_iff_eq]; omega
      cases hb : letterB s[k] (k == 0) with
      | true =>
        have HB := Lib.hid hb
        clear hb
        go_wp2_with fail
        refine (letter_any s[k] (k == 0) _).mono ?_
        rintro e w2 ⟨rfl, rfl⟩
        rw [HB.out]
        go_wp2_with fail
        go_roundg (s.size - (k + 1))
        case rel =>
          refine ⟨k + 1, rfl, by omega, by go_num, ⟨_, rfl⟩, Lib.hid fun m hm hms => ?_⟩
          by_cases hmk : m = k
          · subst hmk; exact HB.out
          · exact HA.out m (by omega) hms
        case measure => have := HG.out; omega
      | false =>
        have HB := Lib.hid hb
        clear hb
        have hr : r = false := by
          rw [← HR.out, ← Bool.not_eq_true, plainB_iff]
          rintro ⟨_, h⟩
          have := h k (by omega)
          rw [show s.data.toList[k]'(by omega) = s[k] from rfl, HB.out] at this
          cases this
        have HRR := Lib.hid hr
        clear hr
        go_wp2_with fail
        refine (letter_any s[k] (k == 0) _).mono ?_
        rintro e w2 ⟨rfl, rfl⟩
        rw [HB.out]
        go_wp2_with fail
        go_ret
        exact ⟨ret_bool HRR.out.symm, _, rfl⟩
    · obtain rfl : k = s.size := by omega
      have hr : r = !decide (s.size = 0) := by
        rw [← HR.out, Bool.eq_iff_iff, plainB_iff]
        simp only [Bool.not_eq_true', decide_eq_false_iff_not]
        constructor
        · rintro ⟨h, _⟩ h0
          exact h (List.eq_nil_of_length_eq_zero (by omega))
        · intro h
          refine ⟨fun h0 => h (by rw [h0] at hl; exact hl.symm), fun k hk => HA.out k (by omega) (by omega)⟩
      have e1 := nil_beq s
      have HRR := Lib.hid hr
      clear hr
      go_wp2_with fail
      go_ret
      exact ⟨ret_bool (by rw [HRR.out, empty_dec]), _, rfl⟩

theorem ext_list (s : ByteArray) (i j : Nat) : (s.extract i j).data.toList = (s.data.toList.drop i).take (j - i) := by
  rw [← Lib.toList_data, Lib.extract_toList]
theorem tw_first : ∀ (l : List UInt8) (k : Nat) (hk : k < l.length), l[k] = 58 → (∀ m (hm : m < k), l[m]'(by omega) ≠ 58) → l.takeWhile (· != 58) = l.take k
  | [], k, hk, _, _ => by simp at hk
  | c :: t, 0, _, h, _ => by
    have h : c = 58 := h
    simp [h]
  | c :: t, k + 1, hk, h, hn => by
    have h0 : c ≠ 58 := hn 0 (by omega)
    have := tw_first t k (by simpa using hk) h (fun m hm => hn (m + 1) (by omega))
    simp [h0, this]

/-- A name's prefix and its local part. -/
def halvesL (l : List UInt8) : List UInt8 × List UInt8 :=
  if 58 ∈ l then (l.takeWhile (· != 58), l.drop ((l.takeWhile (· != 58)).length + 1)) else ([], l)

set_option maxHeartbeats 1000000 in
theorem halves_any (s : ByteArray) (w : World) (hs : s.size ≤ 2147483647) :
    Calls Tryz.prog 35 #[.string s] w fun e w' => e = .returned (.tuple #[.string (bst (halvesL s.data.toList).1), .string (bst (halvesL s.data.toList).2)]) ∧ ∃ n, w.drewN n = w' := by
  have hl : s.data.toList.length = s.size := by rw [Array.length_toList]; rfl
  obtain ⟨r1, hr1⟩ : ∃ r, bst (halvesL s.data.toList).1 = r := ⟨_, rfl⟩
  obtain ⟨r2, hr2⟩ : ∃ r, bst (halvesL s.data.toList).2 = r := ⟨_, rfl⟩
  rw [hr1, hr2]
  have HR1 := Lib.hid hr1
  have HR2 := Lib.hid hr2
  clear hr1 hr2
  go_enter Tryz.func35, Tryz.ntmps35
  go_wp2_with fail
  go_loopg [4] s.size (fun g i wr => ∃ k : Nat, g = s.size - k ∧ k ≤ s.size ∧ i = .int .i64 k ∧ (∃ n, w.drewN n = wr) ∧ Hid (∀ m (_hm : m < k) (hk : m < s.size), s[m] ≠ 58))
  case atStart => exact ⟨0, rfl, Nat.zero_le _, rfl, ⟨0, rfl⟩, Lib.hid fun m hm => by omega⟩
  case round =>
    obtain ⟨k, hg, hk, rfl, ⟨n, rfl⟩, HA⟩ := hrel
    have HG := Lib.hid hg
    clear hg
    by_cases hks : k < s.size
    · by_cases hb : s[k] = 58
      · have e1 : ((s[k].toNat : Int) == 58) = true := by rw [hb]; rfl
        have q1 : IntKind.i64.wrap ((k : Int) + 1) = (k : Int) + 1 := by rw [IntKind.wrap_i64]; omega
        have hmem : 58 ∈ s.data.toList := by
          rw [← hb]; exact List.getElem_mem (by omega : k < s.data.toList.length)
        have htw : s.data.toList.takeWhile (· != 58) = s.data.toList.take k := tw_first _ k (by omega) hb (fun m hm => HA.out m hm (by omega))
        have h1 : r1 = s.extract 0 k := by
          rw [← HR1.out]
          apply ba_ext
          unfold halvesL
          rw [if_pos hmem, bst_toList, htw, ext_list, List.drop_zero, Nat.sub_zero]
        have h2 : r2 = s.extract (k + 1) s.size := by
          rw [← HR2.out]
          apply ba_ext
          unfold halvesL
          rw [if_pos hmem, bst_toList, htw, ext_list]
          show List.drop ((List.take k s.data.toList).length + 1) s.data.toList = _
          rw [List.length_take, hl, Nat.min_eq_left hk]
          exact (List.take_of_length_le (by rw [List.length_drop]; omega)).symm
        have HH1 := Lib.hid h1
        have HH2 := Lib.hid h2
        clear h1 h2 hb hmem htw
        go_wp2_with fail
        go_quiet (fail)
        go_wp2_with fail
        go_ret2
        exact ⟨by rw [HH1.out, HH2.out]; rfl, n + nq, by simp [World.drewN, Nat.add_assoc]⟩
      · have e1 : ((s[k].toNat : Int) == 58) = false := by rw [beq_eq_false_iff_ne]; intro h; exact hb (UInt8.toNat_inj.1 (show s[k].toNat = 58 by omega))
        have HB := Lib.hid hb
        clear hb
        go_wp2_with fail
        go_roundg (s.size - (k + 1))
        case rel =>
          refine ⟨k + 1, rfl, by omega, by go_num, ⟨_, rfl⟩, Lib.hid fun m hm hms => ?_⟩
          by_cases hmk : m = k
          · subst hmk; exact HB.out
          · exact HA.out m (by omega) hms
        case measure => have := HG.out; omega
    · obtain rfl : k = s.size := by omega
      have hmem : ¬ 58 ∈ s.data.toList := by
        intro h
        obtain ⟨m, hm, h58⟩ := List.mem_iff_getElem.1 h
        exact HA.out m (by omega) (by omega) h58
      have h1 : r1 = ⟨#[]⟩ := by
        rw [← HR1.out]; unfold halvesL; rw [if_neg hmem]; rfl
      have h2 : r2 = s := by
        rw [← HR2.out]; unfold halvesL; rw [if_neg hmem, bst_of]
      have HH1 := Lib.hid h1
      have HH2 := Lib.hid h2
      clear h1 h2 hmem
      go_wp2_with fail
      go_ret2
      exact ⟨by rw [HH1.out, HH2.out]; rfl, n, rfl⟩

end Go.Proofs.YtlljphipglgjiaaGreatDoor
