/-
  A text's characters one behind the other (plain; no program): what is written of each, what each becomes.
-/
import Derived.Lib.MapLaws
import Derived.Lib.TrimUEq
import Derived.Lib.RuneCountTail
import Derived.Shelf.Unicode.DecodeSlow
namespace Go.Proofs.YtlljphipglgjiaaGreatDoor
open Go.Lib

def pieceF : Nat → List UInt8 → List (Nat × List UInt8)
  | 0, _ => []
  | f + 1, l => if l = [] then [] else ((decodeL l).1, l.take (decodeL l).2) :: pieceF f (l.drop (decodeL l).2)
/-- The characters of a text: each with its bytes; a byte that is none is U+FFFD. -/
def pieces (l : List UInt8) : List (Nat × List UInt8) := pieceF l.length l

theorem pieceF_more : ∀ (f g : Nat) (l : List UInt8), l.length ≤ f → l.length ≤ g → pieceF f l = pieceF g l
  | 0, 0, _, _, _ => rfl
  | 0, g + 1, l, hf, _ => by
    have : l = [] := List.eq_nil_of_length_eq_zero (by omega)
    simp [pieceF, this]
  | f + 1, 0, l, _, hg => by
    have : l = [] := List.eq_nil_of_length_eq_zero (by omega)
    simp [pieceF, this]
  | f + 1, g + 1, l, hf, hg => by
    by_cases hl : l = []
    · simp [pieceF, hl]
    · have := decodeL_width l
      simp only [pieceF, if_neg hl]
      rw [pieceF_more f g _ (by rw [List.length_drop]; omega) (by rw [List.length_drop]; omega)]
theorem pieces_nil : pieces [] = [] := rfl
theorem pieces_cons (l : List UInt8) (hl : l ≠ []) : pieces l = ((decodeL l).1, l.take (decodeL l).2) :: pieces (l.drop (decodeL l).2) := by
  have h1 := decodeL_width l
  have h2 : 0 < l.length := by
    cases l with
    | nil => exact absurd rfl hl
    | cons a t => simp
  obtain ⟨f, hf⟩ : ∃ f, l.length = f + 1 := ⟨l.length - 1, by omega⟩
  unfold pieces
  rw [hf, pieceF, if_neg hl, pieceF_more f _ _ (by rw [List.length_drop]; omega) (Nat.le_refl _)]

def isXChar (c : Nat) : Bool := c == 9 || c == 10 || c == 13 || (decide (32 ≤ c) && decide (c ≤ 55295)) || (decide (57344 ≤ c) && decide (c ≤ 65533)) || (decide (65536 ≤ c) && decide (c ≤ 1114111))
theorem isXChar_yes {c : Nat} (h : c = 9 ∨ c = 10 ∨ c = 13 ∨ (32 ≤ c ∧ c ≤ 55295) ∨ (57344 ≤ c ∧ c ≤ 65533) ∨ (65536 ≤ c ∧ c ≤ 1114111)) : isXChar c = true := by
  unfold isXChar
  simp only [Bool.or_eq_true, Bool.and_eq_true, beq_iff_eq, decide_eq_true_eq]
  omega
theorem isXChar_no {c : Nat} (h : ¬ (c = 9 ∨ c = 10 ∨ c = 13 ∨ (32 ≤ c ∧ c ≤ 55295) ∨ (57344 ≤ c ∧ c ≤ 65533) ∨ (65536 ≤ c ∧ c ≤ 1114111))) : isXChar c = false := by
  rw [← Bool.not_eq_true]
  unfold isXChar
  simp only [Bool.or_eq_true, Bool.and_eq_true, beq_iff_eq, decide_eq_true_eq]
  omega
/-- What is written of a character: the special ones; what may not be. -/
def escSpec (c : Nat) : Option (List UInt8) :=
  if c = 34 then some [38, 35, 51, 52, 59] else if c = 39 then some [38, 35, 51, 57, 59] else if c = 38 then some [38, 97, 109, 112, 59] else if c = 60 then some [38, 108, 116, 59]
  else if c = 62 then some [38, 103, 116, 59] else if c = 9 then some [38, 35, 120, 57, 59] else if c = 10 then some [38, 35, 120, 65, 59] else if c = 13 then some [38, 35, 120, 68, 59]
  else if c = 133 then some [38, 35, 120, 56, 53, 59] else if c = 8232 then some [38, 35, 120, 50, 48, 50, 56, 59] else none
def escP (p : Nat × List UInt8) : List UInt8 :=
  match escSpec p.1 with
  | some l => l
  | none => if !isXChar p.1 || (p.1 == 65533 && p.2.length == 1) then [239, 191, 189] else p.2
/-- A text as it is written. -/
def esc (l : List UInt8) : List UInt8 := (pieces l).flatMap escP
theorem esc_cons (l : List UInt8) (hl : l ≠ []) : esc l = escP ((decodeL l).1, l.take (decodeL l).2) ++ esc (l.drop (decodeL l).2) := by
  unfold esc
  rw [pieces_cons l hl, List.flatMap_cons]

theorem decodeGo_at (s : ByteArray) (i : Nat) (hi : i < s.size) : Lib.decodeGo (s.extract i s.size) = decodeL (s.data.toList.drop i) := by
  unfold Lib.decodeGo
  rw [if_neg (by simp; omega), tail_decode, Nat.add_zero, decodeL_drop]

theorem escP_length (p : Nat × List UInt8) : (escP p).length ≤ 8 + p.2.length := by
  unfold escP
  split
  · rename_i l h
    unfold escSpec at h
    repeat' (split at h)
    all_goals first | (cases h; done) | (cases h; simp; done) | (cases h; simp; omega)
  · split <;> simp <;> omega
theorem esc_length : ∀ (n : Nat) (l : List UInt8), l.length ≤ n → (esc l).length ≤ 9 * l.length
  | n, l, hn => by
    by_cases hl : l = []
    · simp [hl, esc, pieces_nil]
    · have h1 := decodeL_width l
      have h2 := decodeL_le l hl
      have h3 := escP_length ((decodeL l).1, l.take (decodeL l).2)
      match n with
      | 0 => exact absurd (List.eq_nil_of_length_eq_zero (by omega)) hl
      | n + 1 =>
        have h4 := esc_length n (l.drop (decodeL l).2) (by rw [List.length_drop]; omega)
        rw [esc_cons l hl, List.length_append]
        rw [List.length_drop] at h4
        simp only [List.length_take] at h3
        omega
end Go.Proofs.YtlljphipglgjiaaGreatDoor
