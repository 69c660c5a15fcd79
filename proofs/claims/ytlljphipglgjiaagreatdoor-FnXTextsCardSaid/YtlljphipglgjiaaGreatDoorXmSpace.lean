/-
  space: blanks are passed over (zxml's Decoder.space).
-/
import Derived.Test.YtlljphipglgjiaaGreatDoorXmLow
import Derived.Deep.LoopGhost
namespace Go.Proofs.YtlljphipglgjiaaGreatDoor
open Go.RowKit

def Blank (b : UInt8) : Prop := b.toNat = 32 ∨ b.toNat = 9 ∨ b.toNat = 10 ∨ b.toNat = 13

set_option maxRecDepth 100000 in
set_option maxHeartbeats 400000 in
theorem space_low (L : LS) (s : ByteArray) (i j : Nat) (f : Bool) (buf : Value) (w : World) (h : Low w L s i f buf) (hs : s.size ≤ 1000000) (hij : i ≤ j) (hj : j < s.size)
    (hbl : ∀ k (hk : k < s.size), i ≤ k → k < j → Blank s[k]) (hnb : ¬ Blank s[j]) :
    Calls Tryz.prog 156 #[.pointer (some ⟨L.p, 0, none⟩)] w fun e w' => e = .returned (.tuple #[]) ∧ Low w' L s j false buf ∧ Fr (fun k => k = L.p ∨ k = L.rb) w w' := by
  have H := Lib.hid h
  clear h
  have HB := Lib.hid hbl
  have HN := Lib.hid hnb
  clear hbl hnb
  go_enter Tryz.func156, Tryz.ntmps156
  go_wp2_with fail
  go_loopg [2, 3] (j - i) (fun g _b _ok wr => ∃ (k : Nat) (f' : Bool), g = j - k ∧ i ≤ k ∧ k ≤ j ∧ Low wr L s k f' buf ∧ Fr (fun k => k = L.p ∨ k = L.rb) w wr)
  case atStart => exact ⟨i, f, rfl, Nat.le_refl _, hij, H.out, Fr.refl _ _⟩
  case round =>
    obtain ⟨k, f', hg, hik, hkj, hlow, hfr⟩ := hrel
    have HL := Lib.hid hlow
    have HF := Lib.hid hfr
    have HG := Lib.hid hg
    clear hlow hfr hg
    have hks : k < s.size := by omega
    go_wp2_with fail
    refine (getc_low L s k f' buf _ HL.out hs hks).mono ?_
    rintro e w1 ⟨rfl, h1, hf1⟩
    have H1 := Lib.hid h1
    have HF1 := Lib.hid (HF.out.trans hf1)
    clear h1 hf1
    by_cases hlt : k < j
    · have hb := HB.out k hks hik hlt
      unfold Blank at hb
      have HH := Lib.hid hb
      clear hb
      go_wp2_with fail
      rotate_right
      · have hb := HH.out
        exfalso
        simp only [beq_eq_false_iff_ne, ne_eq] at *
        omega
      all_goals
        go_roundg (j - (k + 1))
        case rel => exact ⟨k + 1, true, rfl, by omega, by omega, H1.out, HF1.out⟩
        case measure => have := HG.out; omega
    · obtain rfl : k = j := by omega
      have hb := HN.out
      unfold Blank at hb
      have HH := Lib.hid hb
      clear hb
      go_wp2_with fail
      rotate_right
      · refine (ungetc_low L s k buf _ hks H1.out).mono ?_
        rintro e w2 ⟨rfl, h2, hf2⟩
        have H2 := Lib.hid h2
        have HF2 := Lib.hid (HF1.out.trans hf2)
        clear h2 hf2
        go_wp2_with fail
        refine bodyPost_ret (results_none rfl _ _ _) rfl ?_
        exact ⟨rfl, H2.out, HF2.out⟩
      all_goals
        exfalso
        have hb := HH.out
        simp only [beq_iff_eq, beq_eq_false_iff_ne, ne_eq] at *
        omega

end Go.Proofs.YtlljphipglgjiaaGreatDoor
