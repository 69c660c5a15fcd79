/-
  Names: isNameByte, readName.
-/
import Derived.Test.YtlljphipglgjiaaGreatDoorXmLowB
import Derived.Deep.LoopGhost
namespace Go.Proofs.YtlljphipglgjiaaGreatDoor
open Go.RowKit

/-- A byte of a name, or a colon. -/
def nameB (c : UInt8) : Bool := (65 ≤ c.toNat && c.toNat ≤ 90) || (97 ≤ c.toNat && c.toNat ≤ 122) || (48 ≤ c.toNat && c.toNat ≤ 57) || c.toNat == 95 || c.toNat == 58 || c.toNat == 46 || c.toNat == 45

theorem ret_bool {a b : Bool} (h : a = b) : Ending.returned (.bool a) = .returned (.bool b) := by rw [h]

set_option maxHeartbeats 400000 in
theorem isNameByte_any (c : UInt8) (w : World) :
    Calls Tryz.prog 212 #[.int .u8 c.toNat] w fun e w' => e = .returned (.bool (nameB c)) ∧ w = w' := by
  have hc := c.toNat_lt
  generalize hn : c.toNat = n at *
  have HN := Lib.hid hn
  clear hn
  go_enter Tryz.func212, Tryz.ntmps212
  go_wp2
  all_goals
    go_ret
    refine ⟨ret_bool ?_, rfl⟩
    unfold nameB
    rw [HN.out, Bool.eq_iff_iff]
    simp
    try omega

theorem isNameByte_yes {c : UInt8} (h : nameB c = true) (w : World) : Calls Tryz.prog 212 #[.int .u8 c.toNat] w fun e w' => e = .returned (.bool true) ∧ w = w' := by have := isNameByte_any c w; rwa [h] at this
theorem isNameByte_no {c : UInt8} (h : nameB c = false) (w : World) : Calls Tryz.prog 212 #[.int .u8 c.toNat] w fun e w' => e = .returned (.bool false) ∧ w = w' := by have := isNameByte_any c w; rwa [h] at this

/-- The bytes of s from i up to j. -/
def sub (s : ByteArray) (i j : Nat) : List UInt8 := (s.data.toList.drop i).take (j - i)

theorem sub_self (s : ByteArray) (i : Nat) : sub s i i = [] := by simp [sub]
theorem sub_snoc (s : ByteArray) (i k : Nat) (hik : i ≤ k) (hk : k < s.size) : sub s i (k + 1) = sub s i k ++ [s[k]] := by
  unfold sub
  have hl : s.data.toList.length = s.size := by rw [Array.length_toList]; rfl
  rw [show k + 1 - i = (k - i) + 1 by omega, List.take_succ_eq_append_getElem (by rw [List.length_drop, hl]; omega)]
  congr 1
  simp only [List.getElem_drop]
  congr 1
  have : i + (k - i) = k := by omega
  simp only [this]
  rfl
theorem sub_length (s : ByteArray) (i j : Nat) (hj : j ≤ s.size) : (sub s i j).length = j - i := by
  have hl : s.data.toList.length = s.size := by rw [Array.length_toList]; rfl
  unfold sub
  rw [List.length_take, List.length_drop, hl]; omega

theorem nameB_lt {c : UInt8} (h : nameB c = true) : c.toNat < 128 := by
  unfold nameB at h
  simp at h
  omega

set_option maxRecDepth 100000 in
set_option maxHeartbeats 1000000 in
theorem readNameB {M : Nat → Prop} {w : World} {L : LS} {s : ByteArray} {i : Nat} {f : Bool} {bs : List UInt8} (j : Nat) (h : LowB M w L s i f bs) (hij : i < j) (hj : j < s.size)
    (hn : ∀ k (hk : k < s.size), i ≤ k → k < j → nameB s[k] = true) (he : nameB s[j] = false) (hlt : s[j].toNat < 128) (hlim : bs.length + s.size ≤ 5000000) :
    Calls Tryz.prog 187 #[.pointer (some ⟨L.p, 0, none⟩)] w fun e w' => e = .returned (.bool true) ∧ LowB M w' L s j false (bs ++ sub s i j) ∧ Fr M w w' := by
  have H := Lib.hid h
  have hi : i < s.size := by omega
  have h1 : nameB s[i] = true := hn i hi (Nat.le_refl _) hij
  have h2 := nameB_lt h1
  have HNB := Lib.hid hn
  have HE := Lib.hid he
  have H1 := Lib.hid h1
  have d1 : decide (((s[i]).toNat : Int) < 128) = true := by simp; omega
  clear h hn he h1
  go_enter Tryz.func187, Tryz.ntmps187
  go_wp2_with fail
  refine (mustgetcB H.out hi).mono ?_
  rintro e w1 ⟨rfl, h1, hf1⟩
  have HL1 := Lib.hid h1
  have HF1 := Lib.hid hf1
  clear h1 hf1
  go_wp2_with fail
  refine (isNameByte_yes H1.out _).mono ?_
  rintro e w2 ⟨rfl, rfl⟩
  go_wp2_with fail
  refine (WriteByteB _ HL1.out (by omega)).mono ?_
  rintro e w2 ⟨rfl, h1, hf1⟩
  have HL2 := Lib.hid h1
  have HF2 := Lib.hid (HF1.out.trans hf1)
  clear h1 hf1 HL1 HF1
  go_wp2_with fail
  go_loopg [2, 3] (j - (i + 1)) (fun g _ok _b wr => ∃ (k : Nat) (f' : Bool), g = j - k ∧ i < k ∧ k ≤ j ∧ LowB M wr L s k f' (bs ++ sub s i k) ∧ Fr M w wr)
  case atStart => exact ⟨i + 1, true, by omega, by omega, by omega, by rw [sub_snoc s i i (Nat.le_refl _) hi, sub_self]; exact HL2.out, HF2.out⟩
  case round =>
    obtain ⟨k, f', hg, hik, hkj, hlow, hfr⟩ := hrel
    have HL := Lib.hid hlow
    have HF := Lib.hid hfr
    have HG := Lib.hid hg
    clear hlow hfr hg
    have hks : k < s.size := by omega
    by_cases hkj' : k < j
    · have g1 : nameB s[k] = true := HNB.out k hks (by omega) hkj'
      have g2 := nameB_lt g1
      have G1 := Lib.hid g1
      have d2 : decide (((s[k]).toNat : Int) < 128) = true := by simp; omega
      have hlen := sub_length s i k (by omega)
      clear g1
      go_wp2_with fail
      refine (mustgetcB HL.out hks).mono ?_
      rintro e w3 ⟨rfl, h1, hf1⟩
      have HL3 := Lib.hid h1
      have HF3 := Lib.hid (HF.out.trans hf1)
      clear h1 hf1 HL HF
      go_wp2_with fail
      refine (isNameByte_yes G1.out _).mono ?_
      rintro e w4 ⟨rfl, rfl⟩
      go_wp2_with fail
      refine (WriteByteB _ HL3.out (by rw [List.length_append, hlen]; omega)).mono ?_
      rintro e w4 ⟨rfl, h1, hf1⟩
      have HL4 := Lib.hid h1
      have HF4 := Lib.hid (HF3.out.trans hf1)
      clear h1 hf1 HL3 HF3
      go_wp2_with fail
      go_roundg (j - (k + 1))
      case rel => exact ⟨k + 1, true, rfl, by omega, by omega, by rw [sub_snoc s i k (by omega) hks, ← List.append_assoc]; exact HL4.out, HF4.out⟩
      case measure => have := HG.out; omega
    · obtain rfl : k = j := by omega
      have d2 : decide (((s[k]).toNat : Int) < 128) = true := by simp; omega
      go_wp2_with fail
      refine (mustgetcB HL.out hks).mono ?_
      rintro e w3 ⟨rfl, h1, hf1⟩
      have HL3 := Lib.hid h1
      have HF3 := Lib.hid (HF.out.trans hf1)
      clear h1 hf1 HL HF
      go_wp2_with fail
      refine (isNameByte_no HE.out _).mono ?_
      rintro e w4 ⟨rfl, rfl⟩
      go_wp2_with fail
      refine (ungetcB HL3.out hks).mono ?_
      rintro e w4 ⟨rfl, h1, hf1⟩
      have HL4 := Lib.hid h1
      have HF4 := Lib.hid (HF3.out.trans hf1)
      clear h1 hf1 HL3 HF3
      go_wp2_with fail
      go_ret
      exact ⟨rfl, HL4.out, HF4.out⟩

end Go.Proofs.YtlljphipglgjiaaGreatDoor
