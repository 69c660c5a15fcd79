/-
  internal/strconv.ParseUint at base 10 and 16, bit sizes 32 and 64.
-/
import Derived.Test.YtlljphipglgjiaaGreatDoorXmBase
import Derived.Lib.ConvBytes
import Derived.Lib.SmallJoins
namespace Go.Proofs.YtlljphipglgjiaaGreatDoor
open Go.RowKit

/-- A digit's value in a base. -/
def dig (B : Nat) (c : UInt8) : Option Nat :=
  if 48 ≤ c.toNat ∧ c.toNat ≤ 57 then (if c.toNat - 48 < B then some (c.toNat - 48) else none)
  else if 97 ≤ (c ||| 32).toNat ∧ (c ||| 32).toNat ≤ 122 then (if (c ||| 32).toNat - 87 < B then some ((c ||| 32).toNat - 87) else none)
  else none

/-- The number that digits tell, no greater than m on the way; none: it is none. -/
def num (B m : Nat) : Nat → List UInt8 → Option Nat
  | acc, [] => some acc
  | acc, c :: l =>
    match dig B c with
    | none => none
    | some d => if m < acc * B + d then none else num B m (acc * B + d) l

def PuEnd : Option Nat → Ending → Prop
  | some n, e => e = .returned (.tuple #[.int .u64 (n : Int), .nilIface])
  | none, e => ∃ (x k : Int), (k = 1 ∨ k = 2) ∧ e = .returned (.tuple #[.int .u64 x, .iface 319 (.int .i64 k)])

theorem lower_any (c : UInt8) (w : World) : Calls Tryz.prog 219 #[.int .u8 c.toNat] w fun e w' => e = .returned (.int .u8 (c ||| 32).toNat) ∧ w = w' := by
  have h : ∀ n : Nat, n < 256 → bits .or .u8 (n : Int) 32 = (((UInt8.ofNat n ||| 32).toNat : Nat) : Int) := by decide +kernel
  have hc := h c.toNat c.toNat_lt
  rw [show UInt8.ofNat c.toNat = c from by simp] at hc
  rw [← hc]
  clear hc h
  go_enter Tryz.func219, Tryz.ntmps219
  go_wp2
  go_ret
  exact ⟨rfl, rfl⟩

theorem lower_95 (w : World) : Calls Tryz.prog 219 #[.int .u8 95] w fun e w' => e = .returned (.int .u8 127) ∧ w = w' := lower_any 95 w

theorem dig_cases (B : Nat) (c : UInt8) : (∃ d, dig B c = some d ∧ d < B ∧ ((48 ≤ c.toNat ∧ c.toNat ≤ 57 ∧ d + 48 ≤ c.toNat ∧ c.toNat ≤ d + 48) ∨ (¬ (48 ≤ c.toNat ∧ c.toNat ≤ 57) ∧ 97 ≤ (c ||| 32).toNat ∧ (c ||| 32).toNat ≤ 122 ∧ d + 87 ≤ (c ||| 32).toNat ∧ (c ||| 32).toNat ≤ d + 87 ∧ c.toNat ≠ 95))) ∨
    (dig B c = none ∧ ((48 ≤ c.toNat ∧ c.toNat ≤ 57 ∧ B ≤ c.toNat - 48) ∨ (¬ (48 ≤ c.toNat ∧ c.toNat ≤ 57) ∧ 97 ≤ (c ||| 32).toNat ∧ (c ||| 32).toNat ≤ 122 ∧ B ≤ (c ||| 32).toNat - 87 ∧ c.toNat ≠ 95) ∨ (¬ (48 ≤ c.toNat ∧ c.toNat ≤ 57) ∧ ¬ (97 ≤ (c ||| 32).toNat ∧ (c ||| 32).toNat ≤ 122)))) := by
  unfold dig
  by_cases h1 : 48 ≤ c.toNat ∧ c.toNat ≤ 57
  · rw [if_pos h1]
    by_cases h2 : c.toNat - 48 < B
    · rw [if_pos h2]; exact .inl ⟨_, rfl, h2, .inl ⟨h1.1, h1.2, by omega, by omega⟩⟩
    · rw [if_neg h2]; exact .inr ⟨rfl, .inl ⟨h1.1, h1.2, by omega⟩⟩
  · rw [if_neg h1]
    have h95 : (c ||| 32).toNat ≤ 122 → c.toNat ≠ 95 := by
      intro h e
      obtain rfl : c = 95 := UInt8.toNat_inj.1 e
      exact absurd h (by decide)
    by_cases h3 : 97 ≤ (c ||| 32).toNat ∧ (c ||| 32).toNat ≤ 122
    · rw [if_pos h3]
      by_cases h2 : (c ||| 32).toNat - 87 < B
      · rw [if_pos h2]; exact .inl ⟨_, rfl, h2, .inr ⟨h1, h3.1, h3.2, by omega, by omega, h95 h3.2⟩⟩
      · rw [if_neg h2]; exact .inr ⟨rfl, .inr (.inl ⟨h1, h3.1, h3.2, by omega, h95 h3.2⟩)⟩
    · rw [if_neg h3]; exact .inr ⟨rfl, .inr (.inr ⟨h1, h3⟩)⟩

set_option maxRecDepth 100000 in
set_option maxHeartbeats 4000000 in
theorem pu_10_32 (t : ByteArray) (hne : t.size ≠ 0) (hmax : t.size ≤ 1000000) (w : World) :
    Calls Tryz.prog 202 #[.string t, .int .i64 10, .int .i64 32] w fun e w' => PuEnd (num 10 4294967295 0 t.data.toList) e ∧ Lib.bytesWorld w 5 t = w' := by
  have hemp : t.toList.isEmpty = false := by
    rw [Lib.toList_data]
    cases h : t.data.toList with
    | nil => exact absurd (by rw [Lib.size_eq, h]; rfl) hne
    | cons _ _ => rfl
  have hcv := Lib.run_convert_string_bytes (P := Tryz.prog) w 9 77 5 t (u := .string) Tryz.underlying9 Tryz.underlying77 Tryz.underlying5
  have hB : ∀ j, j < t.size → (Lib.bytesWorld w 5 t).cell? ⟨w.heap.size, j, none⟩ = some (.int .u8 (t.data.toList.getD j 0).toNat) := fun j hj => Lib.bytesWorld_cell w 5 t j hj
  obtain ⟨W1, hW1⟩ : ∃ W1, W1 = Lib.bytesWorld w 5 t := ⟨_, rfl⟩
  rw [← hW1] at hcv hB ⊢
  clear hW1
  obtain ⟨bs, hL⟩ : ∃ bs, bs = t.data.toList := ⟨_, rfl⟩
  have hLn : bs.length = t.size := by rw [hL, Lib.size_eq]
  rw [← hL] at hB ⊢
  clear hL
  have hmv : IntKind.u64.wrap (IntKind.u64.wrap 4294967296 - 1) = 4294967295 := by
    rw [IntKind.wrap_u64, IntKind.wrap_u64]
    decide
  go_enter Tryz.func202, Tryz.ntmps202
  go_wp2
  go_loop [12, 13, 101] (fun vu vn vi => ∃ (k acc : Nat) (a : Int), vu = .bool false ∧ vn = .int .u64 a ∧ vi = .int .i64 k ∧ k ≤ t.size ∧ Hid (a = (acc : Int) ∧ acc ≤ 4294967295 ∧ num 10 4294967295 0 bs = num 10 4294967295 acc (bs.drop k)))
    (fun _ _ vi => t.size - (intOf vi).toNat)
  case atStart => exact ⟨0, 0, 0, rfl, rfl, rfl, by omega, rfl, by omega, rfl⟩
  case round =>
    obtain ⟨k, acc, a, rfl, rfl, rfl, hk, hh⟩ := hrel
    obtain ⟨ha, hacc, hdec⟩ := hh.out
    clear hh
    have a0 : 0 ≤ a := by omega
    have a1 : a ≤ 4294967295 := by omega
    by_cases hkn : k < t.size
    · have hc := hB k hkn
      have hdrop : bs.drop k = bs[k]'(by omega) :: bs.drop (k + 1) := List.drop_eq_getElem_cons (by omega)
      have hget : bs.getD k 0 = bs[k]'(by omega) := by simp [List.getD, List.getElem?_eq_getElem (show k < bs.length by omega)]
      rw [hdrop] at hdec
      rw [hget] at hc
      generalize bs[k]'(by omega) = c at hc hdec
      have hc256 : c.toNat < 256 := c.toNat_lt
      clear hB hdrop hget
      have hlw : ∀ W : World, Calls Tryz.prog 219 #[.int .u8 c.toNat] W fun e w' => e = .returned (.int .u8 (c ||| 32).toNat) ∧ W = w' := lower_any c
      have hdc := dig_cases 10 c
      have hlc256 : (c ||| 32).toNat < 256 := (c ||| 32).toNat_lt
      generalize (c ||| 32).toNat = lc at hlw hdc hlc256
      have HLOW := Lib.hid hlw
      clear hlw
      rcases hdc with ⟨d, hdg, hdB, hdd⟩ | ⟨hdg, hbad⟩
      · by_cases hov : 4294967295 < acc * 10 + d
        · -- OVER THE SIZE
          have hF : num 10 4294967295 acc (c :: bs.drop (k + 1)) = none := by simp only [num, hdg]; rw [if_pos hov]
          rw [hF] at hdec
          have iov : 4294967295 < a * 10 + (d : Int) := by omega
          have HD := Lib.hid hdec
          clear hF hov hdec hdg hacc ha
          rcases hdd with ⟨q1, q2, q3, q4⟩ | ⟨q0, q1, q2, q3, q4, q5⟩
          all_goals have h95 : ((c.toNat : Int) == 95) = false := (by rw [beq_eq_false_iff_ne]; omega)
          all_goals go_wp2_with (go_at_call 219; first | ((with_reducible refine (HLOW.out _).mono ?_); rintro e w' ⟨rfl, rfl⟩) | ((with_reducible refine (lower_95 _).mono ?_); rintro e w' ⟨rfl, rfl⟩))
          all_goals go_ret2
          all_goals exact ⟨by rw [HD.out]; exact ⟨_, _, .inl rfl, rfl⟩, rfl⟩
        · have hF : num 10 4294967295 acc (c :: bs.drop (k + 1)) = num 10 4294967295 (acc * 10 + d) (bs.drop (k + 1)) := by simp only [num, hdg]; rw [if_neg hov]
          have HN : Hid (a * 10 + (d : Int) = ((acc * 10 + d : Nat) : Int) ∧ acc * 10 + d ≤ 4294967295 ∧ num 10 4294967295 0 bs = num 10 4294967295 (acc * 10 + d) (bs.drop (k + 1))) := Lib.hid ⟨by omega, by omega, hdec.trans hF⟩
          have iov : a * 10 + (d : Int) ≤ 4294967295 := by omega
          clear hacc hF hov hdec ha hdg
          rcases hdd with ⟨q1, q2, q3, q4⟩ | ⟨q0, q1, q2, q3, q4, q5⟩
          all_goals have h95 : ((c.toNat : Int) == 95) = false := (by rw [beq_eq_false_iff_ne]; omega)
          all_goals go_wp2_with (go_at_call 219; first | ((with_reducible refine (HLOW.out _).mono ?_); rintro e w' ⟨rfl, rfl⟩) | ((with_reducible refine (lower_95 _).mono ?_); rintro e w' ⟨rfl, rfl⟩))
          all_goals refine ⟨⟨k + 1, acc * 10 + d, a * 10 + (d : Int), rfl, (by first | rfl | (congr 1; omega)), (by first | rfl | (congr 1; omega)), by omega, HN⟩, by simp [intOf]; omega⟩
      · have hF : num 10 4294967295 acc (c :: bs.drop (k + 1)) = none := by simp only [num, hdg]
        rw [hF] at hdec
        have HD := Lib.hid hdec
        clear hacc hF ha hdec hdg
        rcases hbad with ⟨q1, q2, q3⟩ | ⟨q0, q1, q2, q3, _q4⟩ | ⟨q0, q1⟩
        all_goals go_wp2_with (go_at_call 219; first | ((with_reducible refine (HLOW.out _).mono ?_); rintro e w' ⟨rfl, rfl⟩) | ((with_reducible refine (lower_95 _).mono ?_); rintro e w' ⟨rfl, rfl⟩))
        all_goals go_ret2
        all_goals exact ⟨by rw [HD.out]; exact ⟨_, _, .inr rfl, rfl⟩, rfl⟩
    · have hkk : k = t.size := by omega
      subst hkk
      have hF : num 10 4294967295 acc (bs.drop t.size) = some acc := by rw [List.drop_eq_nil_of_le (by omega)]; rfl
      rw [hF] at hdec
      subst ha
      have HD := Lib.hid hdec
      clear hacc hF a0 a1 hdec
      go_wp2
      go_ret2
      exact ⟨by rw [HD.out]; exact rfl, rfl⟩

set_option maxRecDepth 100000 in
set_option maxHeartbeats 4000000 in
theorem pu_16_32 (t : ByteArray) (hne : t.size ≠ 0) (hmax : t.size ≤ 1000000) (w : World) :
    Calls Tryz.prog 202 #[.string t, .int .i64 16, .int .i64 32] w fun e w' => PuEnd (num 16 4294967295 0 t.data.toList) e ∧ Lib.bytesWorld w 5 t = w' := by
  have hemp : t.toList.isEmpty = false := by
    rw [Lib.toList_data]
    cases h : t.data.toList with
    | nil => exact absurd (by rw [Lib.size_eq, h]; rfl) hne
    | cons _ _ => rfl
  have hcv := Lib.run_convert_string_bytes (P := Tryz.prog) w 9 77 5 t (u := .string) Tryz.underlying9 Tryz.underlying77 Tryz.underlying5
  have hB : ∀ j, j < t.size → (Lib.bytesWorld w 5 t).cell? ⟨w.heap.size, j, none⟩ = some (.int .u8 (t.data.toList.getD j 0).toNat) := fun j hj => Lib.bytesWorld_cell w 5 t j hj
  obtain ⟨W1, hW1⟩ : ∃ W1, W1 = Lib.bytesWorld w 5 t := ⟨_, rfl⟩
  rw [← hW1] at hcv hB ⊢
  clear hW1
  obtain ⟨bs, hL⟩ : ∃ bs, bs = t.data.toList := ⟨_, rfl⟩
  have hLn : bs.length = t.size := by rw [hL, Lib.size_eq]
  rw [← hL] at hB ⊢
  clear hL
  have hmv : IntKind.u64.wrap (IntKind.u64.wrap 4294967296 - 1) = 4294967295 := by
    rw [IntKind.wrap_u64, IntKind.wrap_u64]
    decide
  go_enter Tryz.func202, Tryz.ntmps202
  go_wp2
  go_loop [12, 13, 101] (fun vu vn vi => ∃ (k acc : Nat) (a : Int), vu = .bool false ∧ vn = .int .u64 a ∧ vi = .int .i64 k ∧ k ≤ t.size ∧ Hid (a = (acc : Int) ∧ acc ≤ 4294967295 ∧ num 16 4294967295 0 bs = num 16 4294967295 acc (bs.drop k)))
    (fun _ _ vi => t.size - (intOf vi).toNat)
  case atStart => exact ⟨0, 0, 0, rfl, rfl, rfl, by omega, rfl, by omega, rfl⟩
  case round =>
    obtain ⟨k, acc, a, rfl, rfl, rfl, hk, hh⟩ := hrel
    obtain ⟨ha, hacc, hdec⟩ := hh.out
    clear hh
    have a0 : 0 ≤ a := by omega
    have a1 : a ≤ 4294967295 := by omega
    by_cases hkn : k < t.size
    · have hc := hB k hkn
      have hdrop : bs.drop k = bs[k]'(by omega) :: bs.drop (k + 1) := List.drop_eq_getElem_cons (by omega)
      have hget : bs.getD k 0 = bs[k]'(by omega) := by simp [List.getD, List.getElem?_eq_getElem (show k < bs.length by omega)]
      rw [hdrop] at hdec
      rw [hget] at hc
      generalize bs[k]'(by omega) = c at hc hdec
      have hc256 : c.toNat < 256 := c.toNat_lt
      clear hB hdrop hget
      have hlw : ∀ W : World, Calls Tryz.prog 219 #[.int .u8 c.toNat] W fun e w' => e = .returned (.int .u8 (c ||| 32).toNat) ∧ W = w' := lower_any c
      have hdc := dig_cases 16 c
      have hlc256 : (c ||| 32).toNat < 256 := (c ||| 32).toNat_lt
      generalize (c ||| 32).toNat = lc at hlw hdc hlc256
      have HLOW := Lib.hid hlw
      clear hlw
      rcases hdc with ⟨d, hdg, hdB, hdd⟩ | ⟨hdg, hbad⟩
      · by_cases hov : 4294967295 < acc * 16 + d
        · -- OVER THE SIZE
          have hF : num 16 4294967295 acc (c :: bs.drop (k + 1)) = none := by simp only [num, hdg]; rw [if_pos hov]
          rw [hF] at hdec
          have iov : 4294967295 < a * 16 + (d : Int) := by omega
          have HD := Lib.hid hdec
          clear hF hov hdec hdg hacc ha
          rcases hdd with ⟨q1, q2, q3, q4⟩ | ⟨q0, q1, q2, q3, q4, q5⟩
          all_goals have h95 : ((c.toNat : Int) == 95) = false := (by rw [beq_eq_false_iff_ne]; omega)
          all_goals go_wp2_with (go_at_call 219; first | ((with_reducible refine (HLOW.out _).mono ?_); rintro e w' ⟨rfl, rfl⟩) | ((with_reducible refine (lower_95 _).mono ?_); rintro e w' ⟨rfl, rfl⟩))
          all_goals go_ret2
          all_goals exact ⟨by rw [HD.out]; exact ⟨_, _, .inl rfl, rfl⟩, rfl⟩
        · have hF : num 16 4294967295 acc (c :: bs.drop (k + 1)) = num 16 4294967295 (acc * 16 + d) (bs.drop (k + 1)) := by simp only [num, hdg]; rw [if_neg hov]
          have HN : Hid (a * 16 + (d : Int) = ((acc * 16 + d : Nat) : Int) ∧ acc * 16 + d ≤ 4294967295 ∧ num 16 4294967295 0 bs = num 16 4294967295 (acc * 16 + d) (bs.drop (k + 1))) := Lib.hid ⟨by omega, by omega, hdec.trans hF⟩
          have iov : a * 16 + (d : Int) ≤ 4294967295 := by omega
          clear hacc hF hov hdec ha hdg
          rcases hdd with ⟨q1, q2, q3, q4⟩ | ⟨q0, q1, q2, q3, q4, q5⟩
          all_goals have h95 : ((c.toNat : Int) == 95) = false := (by rw [beq_eq_false_iff_ne]; omega)
          all_goals go_wp2_with (go_at_call 219; first | ((with_reducible refine (HLOW.out _).mono ?_); rintro e w' ⟨rfl, rfl⟩) | ((with_reducible refine (lower_95 _).mono ?_); rintro e w' ⟨rfl, rfl⟩))
          all_goals refine ⟨⟨k + 1, acc * 16 + d, a * 16 + (d : Int), rfl, (by first | rfl | (congr 1; omega)), (by first | rfl | (congr 1; omega)), by omega, HN⟩, by simp [intOf]; omega⟩
      · have hF : num 16 4294967295 acc (c :: bs.drop (k + 1)) = none := by simp only [num, hdg]
        rw [hF] at hdec
        have HD := Lib.hid hdec
        clear hacc hF ha hdec hdg
        rcases hbad with ⟨q1, q2, q3⟩ | ⟨q0, q1, q2, q3, _q4⟩ | ⟨q0, q1⟩
        all_goals go_wp2_with (go_at_call 219; first | ((with_reducible refine (HLOW.out _).mono ?_); rintro e w' ⟨rfl, rfl⟩) | ((with_reducible refine (lower_95 _).mono ?_); rintro e w' ⟨rfl, rfl⟩))
        all_goals go_ret2
        all_goals exact ⟨by rw [HD.out]; exact ⟨_, _, .inr rfl, rfl⟩, rfl⟩
    · have hkk : k = t.size := by omega
      subst hkk
      have hF : num 16 4294967295 acc (bs.drop t.size) = some acc := by rw [List.drop_eq_nil_of_le (by omega)]; rfl
      rw [hF] at hdec
      subst ha
      have HD := Lib.hid hdec
      clear hacc hF a0 a1 hdec
      go_wp2
      go_ret2
      exact ⟨by rw [HD.out]; exact rfl, rfl⟩

set_option maxRecDepth 100000 in
set_option maxHeartbeats 4000000 in
theorem pu_10_64 (t : ByteArray) (n : Nat) (hval : num 10 4294967295 0 t.data.toList = some n) (hne : t.size ≠ 0) (hmax : t.size ≤ 1000000) (w : World) :
    Calls Tryz.prog 202 #[.string t, .int .i64 10, .int .i64 64] w fun e w' => PuEnd (some n) e ∧ Lib.bytesWorld w 5 t = w' := by
  have hemp : t.toList.isEmpty = false := by
    rw [Lib.toList_data]
    cases h : t.data.toList with
    | nil => exact absurd (by rw [Lib.size_eq, h]; rfl) hne
    | cons _ _ => rfl
  have hcv := Lib.run_convert_string_bytes (P := Tryz.prog) w 9 77 5 t (u := .string) Tryz.underlying9 Tryz.underlying77 Tryz.underlying5
  have hB : ∀ j, j < t.size → (Lib.bytesWorld w 5 t).cell? ⟨w.heap.size, j, none⟩ = some (.int .u8 (t.data.toList.getD j 0).toNat) := fun j hj => Lib.bytesWorld_cell w 5 t j hj
  obtain ⟨W1, hW1⟩ : ∃ W1, W1 = Lib.bytesWorld w 5 t := ⟨_, rfl⟩
  rw [← hW1] at hcv hB ⊢
  clear hW1
  obtain ⟨bs, hL⟩ : ∃ bs, bs = t.data.toList := ⟨_, rfl⟩
  have hLn : bs.length = t.size := by rw [hL, Lib.size_eq]
  rw [← hL] at hB hval
  clear hL
  have hmv : IntKind.u64.wrap (IntKind.u64.wrap 18446744073709551616 - 1) = 18446744073709551615 := by
    rw [IntKind.wrap_u64, IntKind.wrap_u64]
    decide
  go_enter Tryz.func202, Tryz.ntmps202
  go_wp2
  go_loop [12, 13, 101] (fun vu vn vi => ∃ (k acc : Nat) (a : Int), vu = .bool false ∧ vn = .int .u64 a ∧ vi = .int .i64 k ∧ k ≤ t.size ∧ Hid (a = (acc : Int) ∧ acc ≤ 4294967295 ∧ some n = num 10 4294967295 acc (bs.drop k)))
    (fun _ _ vi => t.size - (intOf vi).toNat)
  case atStart => exact ⟨0, 0, 0, rfl, rfl, rfl, by omega, rfl, by omega, hval.symm⟩
  case round =>
    obtain ⟨k, acc, a, rfl, rfl, rfl, hk, hh⟩ := hrel
    obtain ⟨ha, hacc, hdec⟩ := hh.out
    clear hh
    have a0 : 0 ≤ a := by omega
    have a1 : a ≤ 4294967295 := by omega
    by_cases hkn : k < t.size
    · have hc := hB k hkn
      have hdrop : bs.drop k = bs[k]'(by omega) :: bs.drop (k + 1) := List.drop_eq_getElem_cons (by omega)
      have hget : bs.getD k 0 = bs[k]'(by omega) := by simp [List.getD, List.getElem?_eq_getElem (show k < bs.length by omega)]
      rw [hdrop] at hdec
      rw [hget] at hc
      generalize bs[k]'(by omega) = c at hc hdec
      have hc256 : c.toNat < 256 := c.toNat_lt
      clear hB hdrop hget
      have hlw : ∀ W : World, Calls Tryz.prog 219 #[.int .u8 c.toNat] W fun e w' => e = .returned (.int .u8 (c ||| 32).toNat) ∧ W = w' := lower_any c
      have hdc := dig_cases 10 c
      have hlc256 : (c ||| 32).toNat < 256 := (c ||| 32).toNat_lt
      generalize (c ||| 32).toNat = lc at hlw hdc hlc256
      have HLOW := Lib.hid hlw
      clear hlw
      rcases hdc with ⟨d, hdg, hdB, hdd⟩ | ⟨hdg, hbad⟩
      · by_cases hov : 4294967295 < acc * 10 + d
        · -- OVER THE SIZE
          have hF : num 10 4294967295 acc (c :: bs.drop (k + 1)) = none := by simp only [num, hdg]; rw [if_pos hov]
          rw [hF] at hdec
          have iov : 4294967295 < a * 10 + (d : Int) := by omega
          have HD := Lib.hid hdec
          clear hF hov hdec hdg hacc ha
          exact absurd HD.out (by simp)
        · have hF : num 10 4294967295 acc (c :: bs.drop (k + 1)) = num 10 4294967295 (acc * 10 + d) (bs.drop (k + 1)) := by simp only [num, hdg]; rw [if_neg hov]
          have HN : Hid (a * 10 + (d : Int) = ((acc * 10 + d : Nat) : Int) ∧ acc * 10 + d ≤ 4294967295 ∧ some n = num 10 4294967295 (acc * 10 + d) (bs.drop (k + 1))) := Lib.hid ⟨by omega, by omega, hdec.trans hF⟩
          have iov : a * 10 + (d : Int) ≤ 4294967295 := by omega
          clear hacc hF hov hdec ha hdg
          rcases hdd with ⟨q1, q2, q3, q4⟩ | ⟨q0, q1, q2, q3, q4, q5⟩
          all_goals have h95 : ((c.toNat : Int) == 95) = false := (by rw [beq_eq_false_iff_ne]; omega)
          all_goals go_wp2_with (go_at_call 219; first | ((with_reducible refine (HLOW.out _).mono ?_); rintro e w' ⟨rfl, rfl⟩) | ((with_reducible refine (lower_95 _).mono ?_); rintro e w' ⟨rfl, rfl⟩))
          all_goals refine ⟨⟨k + 1, acc * 10 + d, a * 10 + (d : Int), rfl, (by first | rfl | (congr 1; omega)), (by first | rfl | (congr 1; omega)), by omega, HN⟩, by simp [intOf]; omega⟩
      · have hF : num 10 4294967295 acc (c :: bs.drop (k + 1)) = none := by simp only [num, hdg]
        rw [hF] at hdec
        have HD := Lib.hid hdec
        clear hacc hF ha hdec hdg
        rcases hbad with ⟨q1, q2, q3⟩ | ⟨q0, q1, q2, q3, _q4⟩ | ⟨q0, q1⟩
        all_goals go_wp2_with (go_at_call 219; first | ((with_reducible refine (HLOW.out _).mono ?_); rintro e w' ⟨rfl, rfl⟩) | ((with_reducible refine (lower_95 _).mono ?_); rintro e w' ⟨rfl, rfl⟩))
        all_goals go_ret2
        all_goals exact absurd HD.out (by simp)
    · have hkk : k = t.size := by omega
      subst hkk
      have hF : num 10 4294967295 acc (bs.drop t.size) = some acc := by rw [List.drop_eq_nil_of_le (by omega)]; rfl
      rw [hF] at hdec
      subst ha
      have HD := Lib.hid hdec
      clear hacc hF a0 a1 hdec
      go_wp2
      go_ret2
      exact ⟨by rw [HD.out]; exact rfl, rfl⟩

set_option maxRecDepth 100000 in
set_option maxHeartbeats 4000000 in
theorem pu_16_64 (t : ByteArray) (n : Nat) (hval : num 16 4294967295 0 t.data.toList = some n) (hne : t.size ≠ 0) (hmax : t.size ≤ 1000000) (w : World) :
    Calls Tryz.prog 202 #[.string t, .int .i64 16, .int .i64 64] w fun e w' => PuEnd (some n) e ∧ Lib.bytesWorld w 5 t = w' := by
  have hemp : t.toList.isEmpty = false := by
    rw [Lib.toList_data]
    cases h : t.data.toList with
    | nil => exact absurd (by rw [Lib.size_eq, h]; rfl) hne
    | cons _ _ => rfl
  have hcv := Lib.run_convert_string_bytes (P := Tryz.prog) w 9 77 5 t (u := .string) Tryz.underlying9 Tryz.underlying77 Tryz.underlying5
  have hB : ∀ j, j < t.size → (Lib.bytesWorld w 5 t).cell? ⟨w.heap.size, j, none⟩ = some (.int .u8 (t.data.toList.getD j 0).toNat) := fun j hj => Lib.bytesWorld_cell w 5 t j hj
  obtain ⟨W1, hW1⟩ : ∃ W1, W1 = Lib.bytesWorld w 5 t := ⟨_, rfl⟩
  rw [← hW1] at hcv hB ⊢
  clear hW1
  obtain ⟨bs, hL⟩ : ∃ bs, bs = t.data.toList := ⟨_, rfl⟩
  have hLn : bs.length = t.size := by rw [hL, Lib.size_eq]
  rw [← hL] at hB hval
  clear hL
  have hmv : IntKind.u64.wrap (IntKind.u64.wrap 18446744073709551616 - 1) = 18446744073709551615 := by
    rw [IntKind.wrap_u64, IntKind.wrap_u64]
    decide
  go_enter Tryz.func202, Tryz.ntmps202
  go_wp2
  go_loop [12, 13, 101] (fun vu vn vi => ∃ (k acc : Nat) (a : Int), vu = .bool false ∧ vn = .int .u64 a ∧ vi = .int .i64 k ∧ k ≤ t.size ∧ Hid (a = (acc : Int) ∧ acc ≤ 4294967295 ∧ some n = num 16 4294967295 acc (bs.drop k)))
    (fun _ _ vi => t.size - (intOf vi).toNat)
  case atStart => exact ⟨0, 0, 0, rfl, rfl, rfl, by omega, rfl, by omega, hval.symm⟩
  case round =>
    obtain ⟨k, acc, a, rfl, rfl, rfl, hk, hh⟩ := hrel
    obtain ⟨ha, hacc, hdec⟩ := hh.out
    clear hh
    have a0 : 0 ≤ a := by omega
    have a1 : a ≤ 4294967295 := by omega
    by_cases hkn : k < t.size
    · have hc := hB k hkn
      have hdrop : bs.drop k = bs[k]'(by omega) :: bs.drop (k + 1) := List.drop_eq_getElem_cons (by omega)
      have hget : bs.getD k 0 = bs[k]'(by omega) := by simp [List.getD, List.getElem?_eq_getElem (show k < bs.length by omega)]
      rw [hdrop] at hdec
      rw [hget] at hc
      generalize bs[k]'(by omega) = c at hc hdec
      have hc256 : c.toNat < 256 := c.toNat_lt
      clear hB hdrop hget
      have hlw : ∀ W : World, Calls Tryz.prog 219 #[.int .u8 c.toNat] W fun e w' => e = .returned (.int .u8 (c ||| 32).toNat) ∧ W = w' := lower_any c
      have hdc := dig_cases 16 c
      have hlc256 : (c ||| 32).toNat < 256 := (c ||| 32).toNat_lt
      generalize (c ||| 32).toNat = lc at hlw hdc hlc256
      have HLOW := Lib.hid hlw
      clear hlw
      rcases hdc with ⟨d, hdg, hdB, hdd⟩ | ⟨hdg, hbad⟩
      · by_cases hov : 4294967295 < acc * 16 + d
        · -- OVER THE SIZE
          have hF : num 16 4294967295 acc (c :: bs.drop (k + 1)) = none := by simp only [num, hdg]; rw [if_pos hov]
          rw [hF] at hdec
          have iov : 4294967295 < a * 16 + (d : Int) := by omega
          have HD := Lib.hid hdec
          clear hF hov hdec hdg hacc ha
          exact absurd HD.out (by simp)
        · have hF : num 16 4294967295 acc (c :: bs.drop (k + 1)) = num 16 4294967295 (acc * 16 + d) (bs.drop (k + 1)) := by simp only [num, hdg]; rw [if_neg hov]
          have HN : Hid (a * 16 + (d : Int) = ((acc * 16 + d : Nat) : Int) ∧ acc * 16 + d ≤ 4294967295 ∧ some n = num 16 4294967295 (acc * 16 + d) (bs.drop (k + 1))) := Lib.hid ⟨by omega, by omega, hdec.trans hF⟩
          have iov : a * 16 + (d : Int) ≤ 4294967295 := by omega
          clear hacc hF hov hdec ha hdg
          rcases hdd with ⟨q1, q2, q3, q4⟩ | ⟨q0, q1, q2, q3, q4, q5⟩
          all_goals have h95 : ((c.toNat : Int) == 95) = false := (by rw [beq_eq_false_iff_ne]; omega)
          all_goals go_wp2_with (go_at_call 219; first | ((with_reducible refine (HLOW.out _).mono ?_); rintro e w' ⟨rfl, rfl⟩) | ((with_reducible refine (lower_95 _).mono ?_); rintro e w' ⟨rfl, rfl⟩))
          all_goals refine ⟨⟨k + 1, acc * 16 + d, a * 16 + (d : Int), rfl, (by first | rfl | (congr 1; omega)), (by first | rfl | (congr 1; omega)), by omega, HN⟩, by simp [intOf]; omega⟩
      · have hF : num 16 4294967295 acc (c :: bs.drop (k + 1)) = none := by simp only [num, hdg]
        rw [hF] at hdec
        have HD := Lib.hid hdec
        clear hacc hF ha hdec hdg
        rcases hbad with ⟨q1, q2, q3⟩ | ⟨q0, q1, q2, q3, _q4⟩ | ⟨q0, q1⟩
        all_goals go_wp2_with (go_at_call 219; first | ((with_reducible refine (HLOW.out _).mono ?_); rintro e w' ⟨rfl, rfl⟩) | ((with_reducible refine (lower_95 _).mono ?_); rintro e w' ⟨rfl, rfl⟩))
        all_goals go_ret2
        all_goals exact absurd HD.out (by simp)
    · have hkk : k = t.size := by omega
      subst hkk
      have hF : num 16 4294967295 acc (bs.drop t.size) = some acc := by rw [List.drop_eq_nil_of_le (by omega)]; rfl
      rw [hF] at hdec
      subst ha
      have HD := Lib.hid hdec
      clear hacc hF a0 a1 hdec
      go_wp2
      go_ret2
      exact ⟨by rw [HD.out]; exact rfl, rfl⟩

end Go.Proofs.YtlljphipglgjiaaGreatDoor
