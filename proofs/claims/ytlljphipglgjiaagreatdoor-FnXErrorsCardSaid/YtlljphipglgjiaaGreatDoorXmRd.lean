/-
  spec.xReader: has, blanks, until.
-/
import Derived.Test.YtlljphipglgjiaaGreatDoorXmStr
namespace Go.Proofs.YtlljphipglgjiaaGreatDoor
open Go.RowKit

/-- The reader of s is the block b; it stands at place i. M: the blocks that may turn. -/
def RdM (M : Nat → Prop) (w : World) (b : Nat) (s : ByteArray) (i : Nat) (bad : Bool) : Prop :=
  M b ∧ New M w ∧ s.size ≤ 1000000 ∧ i ≤ s.size ∧ Blk w b 101 #[.string s, .int .i64 i, .bool bad]

section
variable {M : Nat → Prop} {w w' : World} {b : Nat} {s : ByteArray} {i : Nat} {bad : Bool}
theorem RdM.c0 (h : RdM M w b s i bad) : w.cell? ⟨b, 0, none⟩ = some (.string s) := h.2.2.2.2.cell 0
theorem RdM.c1 (h : RdM M w b s i bad) : w.cell? ⟨b, 1, none⟩ = some (.int .i64 i) := h.2.2.2.2.cell 1
theorem RdM.c2 (h : RdM M w b s i bad) : w.cell? ⟨b, 2, none⟩ = some (.bool bad) := h.2.2.2.2.cell 2
theorem RdM.at' (h : RdM M w b s i bad) (j : Nat) (hj : j ≤ s.size) : RdM M (w.setCell ⟨b, 1, none⟩ (.int .i64 j)) b s j bad :=
  ⟨h.1, h.2.1.setCell _ _, h.2.2.1, hj, (h.2.2.2.2.set 1 _).eq rfl⟩
theorem RdM.bad' (h : RdM M w b s i bad) (q : Bool) : RdM M (w.setCell ⟨b, 2, none⟩ (.bool q)) b s i q :=
  ⟨h.1, h.2.1.setCell _ _, h.2.2.1, h.2.2.2.1, (h.2.2.2.2.set 2 _).eq rfl⟩
theorem RdM.fr' {M' : Nat → Prop} (h : RdM M w b s i bad) (f : Fr M' w w') (hb : ¬ M' b) : RdM M w' b s i bad :=
  ⟨h.1, h.2.1.fr f, h.2.2.1, h.2.2.2.1, h.2.2.2.2.fr f hb⟩
end

/-- Does wd stand at place i? -/
def hasB (s : ByteArray) (i : Nat) (wd : ByteArray) : Bool := decide (sub s i (i + wd.size) = wd.data.toList)

set_option maxHeartbeats 400000 in
theorem rd_has_no (M : Nat → Prop) (b : Nat) (s : ByteArray) (i : Nat) (bad : Bool) (wd : ByteArray) (w : World) (h : RdM M w b s i bad) (hwd : wd.size ≤ 1000) (hno : hasB s i wd = false) :
    Calls Tryz.prog 52 #[.pointer (some ⟨b, 0, none⟩), .string wd] w fun e w' => e = .returned (.bool false) ∧ ∃ n, w.drewN n = w' := by
  have c0 := h.c0
  have c1 := h.c1
  have hs := h.2.2.1
  have hi := h.2.2.2.1
  have q1 : IntKind.i64.wrap ((s.size : Int) - (i : Int)) = (s.size : Int) - (i : Int) := by rw [IntKind.wrap_i64]; omega
  clear h
  by_cases hlen : s.size - i < wd.size
  · have d1 : decide ((s.size : Int) - (i : Int) < (wd.size : Int)) = true := by simp; omega
    clear hno
    go_enter Tryz.func52, Tryz.ntmps52
    go_wp2_with fail
    go_quiet (fail)
    go_wp2_with fail
    go_ret
    exact ⟨rfl, _, rfl⟩
  · have d1 : decide ((s.size : Int) - (i : Int) < (wd.size : Int)) = false := by simp; omega
    have q2 : IntKind.i64.wrap ((i : Int) + (wd.size : Int)) = (i : Int) + (wd.size : Int) := by rw [IntKind.wrap_i64]; omega
    have q3 : ((i : Int) + (wd.size : Int)).toNat = i + wd.size := by omega
    have q4 : (i : Int) + (wd.size : Int) ≤ (s.size : Int) := by omega
    have q5 : (i : Int) ≤ (i : Int) + (wd.size : Int) := by omega
    have e1 : ((s.extract i (i + wd.size)).toList == wd.toList) = false := by
      rw [Lib.extract_toList, Lib.toList_data, beq_eq_false_iff_ne]
      unfold hasB sub at hno
      exact of_decide_eq_false hno
    clear hno
    go_enter Tryz.func52, Tryz.ntmps52
    go_wp2_with fail
    go_quiet (fail)
    go_wp2_with fail
    go_ret
    exact ⟨rfl, _, rfl⟩

theorem hasB_le {s : ByteArray} {i : Nat} {wd : ByteArray} (h : hasB s i wd = true) (hi : i ≤ s.size) : i + wd.size ≤ s.size := by
  have hl : s.data.toList.length = s.size := by rw [Array.length_toList]; rfl
  have hwl : wd.data.toList.length = wd.size := by rw [Array.length_toList]; rfl
  unfold hasB at h
  have := congrArg List.length (of_decide_eq_true h)
  unfold sub at this
  rw [List.length_take, List.length_drop] at this
  omega

set_option maxHeartbeats 400000 in
theorem rd_has_yes (M : Nat → Prop) (b : Nat) (s : ByteArray) (i : Nat) (bad : Bool) (wd : ByteArray) (w : World) (h : RdM M w b s i bad) (hwd : wd.size ≤ 1000) (hyes : hasB s i wd = true) :
    Calls Tryz.prog 52 #[.pointer (some ⟨b, 0, none⟩), .string wd] w fun e w' => e = .returned (.bool true) ∧ RdM M w' b s (i + wd.size) bad ∧ Fr (fun k => k = b) w w' := by
  have c0 := h.c0
  have c1 := h.c1
  have hf := h.2.2.2.2.frozen
  have hs := h.2.2.1
  have hi := h.2.2.2.1
  have hle := hasB_le hyes hi
  have HH := Lib.hid h
  clear h
  have q1 : IntKind.i64.wrap ((s.size : Int) - (i : Int)) = (s.size : Int) - (i : Int) := by rw [IntKind.wrap_i64]; omega
  have d1 : decide ((s.size : Int) - (i : Int) < (wd.size : Int)) = false := by simp; omega
  have q2 : IntKind.i64.wrap ((i : Int) + (wd.size : Int)) = (i : Int) + (wd.size : Int) := by rw [IntKind.wrap_i64]; omega
  have q3 : ((i : Int) + (wd.size : Int)).toNat = i + wd.size := by omega
  have q4 : (i : Int) + (wd.size : Int) ≤ (s.size : Int) := by omega
  have q5 : (i : Int) ≤ (i : Int) + (wd.size : Int) := by omega
  have e1 : ((s.extract i (i + wd.size)).toList == wd.toList) = true := by
    rw [Lib.extract_toList, Lib.toList_data, beq_iff_eq]
    unfold hasB sub at hyes
    exact of_decide_eq_true hyes
  clear hyes
  go_enter Tryz.func52, Tryz.ntmps52
  go_wp2_with fail
  go_quiet (fail)
  go_wp2_with fail
  go_ret
  refine ⟨rfl, ?_, ?_⟩
  · have := RdM.at' (w := w.drewN nq) (M := M) (b := b) (s := s) (i := i) (bad := bad) HH.out (i + wd.size) hle
    simpa using this
  · exact Fr.setCell (M := fun k => k = b) ((Fr.refl _ _).drewN _) (show b = b from rfl) _

/-- Where a run of bytes that p holds of ends. -/
def runEnd (p : UInt8 → Bool) (s : ByteArray) (i : Nat) : Nat := i + ((s.data.toList.drop i).takeWhile p).length
theorem runEnd_le (p : UInt8 → Bool) (s : ByteArray) (i : Nat) (hi : i ≤ s.size) : runEnd p s i ≤ s.size := by
  have hl : s.data.toList.length = s.size := by rw [Array.length_toList]; rfl
  have := List.IsPrefix.length_le (List.takeWhile_prefix p (l := s.data.toList.drop i))
  rw [List.length_drop] at this
  unfold runEnd
  omega
theorem runEnd_ge (p : UInt8 → Bool) (s : ByteArray) (i : Nat) : i ≤ runEnd p s i := Nat.le_add_right _ _
theorem runEnd_step (p : UInt8 → Bool) (s : ByteArray) (i : Nat) (hi : i < s.size) (hp : p s[i] = true) : runEnd p s i = runEnd p s (i + 1) := by
  have hl : s.data.toList.length = s.size := by rw [Array.length_toList]; rfl
  unfold runEnd
  rw [List.drop_eq_getElem_cons (by omega : i < s.data.toList.length), List.takeWhile_cons]
  have : s.data.toList[i]'(by omega) = s[i] := rfl
  rw [this, hp]
  simp
  omega
theorem runEnd_stop (p : UInt8 → Bool) (s : ByteArray) (i : Nat) (hi : i < s.size) (hp : p s[i] = false) : runEnd p s i = i := by
  have hl : s.data.toList.length = s.size := by rw [Array.length_toList]; rfl
  unfold runEnd
  rw [List.drop_eq_getElem_cons (by omega : i < s.data.toList.length), List.takeWhile_cons]
  have : s.data.toList[i]'(by omega) = s[i] := rfl
  rw [this, hp]
  simp
theorem runEnd_end (p : UInt8 → Bool) (s : ByteArray) : runEnd p s s.size = s.size := by
  have hl : s.data.toList.length = s.size := by rw [Array.length_toList]; rfl
  unfold runEnd
  rw [List.drop_of_length_le (by omega)]
  rfl

def blankB (c : UInt8) : Bool := c == 32 || c == 9 || c == 10

set_option maxRecDepth 100000 in
set_option maxHeartbeats 1000000 in
theorem rd_blanks (M : Nat → Prop) (b : Nat) (s : ByteArray) (i : Nat) (bad : Bool) (w : World) (h : RdM M w b s i bad) :
    Calls Tryz.prog 53 #[.pointer (some ⟨b, 0, none⟩)] w fun e w' => e = .returned (.bool (decide (i < runEnd blankB s i))) ∧ RdM M w' b s (runEnd blankB s i) bad ∧ Fr (fun k => k = b) w w' := by
  have c1 := h.c1
  have hi := h.2.2.2.1
  have hs := h.2.2.1
  have HH := Lib.hid h
  obtain ⟨e, he⟩ : ∃ e, runEnd blankB s i = e := ⟨_, rfl⟩
  have HE := Lib.hid he
  rw [he]
  clear h he
  have hie : i ≤ e := by rw [← HE.out]; exact runEnd_ge _ _ _
  have hes : e ≤ s.size := by rw [← HE.out]; exact runEnd_le _ _ _ hi
  go_enter Tryz.func53, Tryz.ntmps53
  go_wp2_with fail
  clear c1
  go_loopg [] (s.size - i) (fun g wr => ∃ k : Nat, g = s.size - k ∧ i ≤ k ∧ RdM M wr b s k bad ∧ Fr (fun k => k = b) w wr ∧ Hid (runEnd blankB s k = e))
  case atStart => exact ⟨i, rfl, Nat.le_refl _, HH.out, Fr.refl _ _, HE⟩
  case round =>
    obtain ⟨k, hg, hik, hr, hf, HK⟩ := hrel
    have c0 := hr.c0
    have c1 := hr.c1
    have fz := hr.2.2.2.2.frozen
    have hk := hr.2.2.2.1
    have HR := Lib.hid hr
    have HF := Lib.hid hf
    have HG := Lib.hid hg
    clear hr hf hg HH
    by_cases hks : k < s.size
    · have q1 : IntKind.i64.wrap ((k : Int) + 1) = (k : Int) + 1 := by rw [IntKind.wrap_i64]; omega
      cases hb : blankB s[k] with
      | true =>
        have hst := runEnd_step blankB s k hks hb
        rw [HK.out] at hst
        have HST := Lib.hid hst.symm
        have h3 : s[k].toNat = 32 ∨ s[k].toNat = 9 ∨ s[k].toNat = 10 := by
          unfold blankB at hb
          simp only [Bool.or_eq_true, beq_iff_eq] at hb
          rcases hb with (h | h) | h <;> rw [h] <;> simp
        clear hst hb
        rcases h3 with h | h | h
        all_goals
          have hx : ((s[k].toNat : Nat) : Int) = _ := congrArg (fun n : Nat => (n : Int)) h
          clear h
          go_wp2_with fail
          go_quiet (fail)
          go_wp2_with fail
          go_roundg (s.size - (k + 1))
          case rel => exact ⟨k + 1, rfl, by omega, by simpa using RdM.at' (w := wr.drewN nq) (M := M) (b := b) (s := s) (i := k) (bad := bad) HR.out (k + 1) (by omega), Fr.setCell (M := fun k => k = b) (HF.out.drewN _) (show b = b from rfl) _, HST⟩
          case measure => have := HG.out; omega
      | false =>
        have hst := runEnd_stop blankB s k hks hb
        rw [HK.out] at hst
        subst hst
        have h3 : s[e].toNat ≠ 32 ∧ s[e].toNat ≠ 9 ∧ s[e].toNat ≠ 10 := by
          unfold blankB at hb
          simp only [Bool.or_eq_false_iff, beq_eq_false_iff_ne] at hb
          exact ⟨fun h => hb.1.1 (UInt8.toNat_inj.1 h), fun h => hb.1.2 (UInt8.toNat_inj.1 h), fun h => hb.2 (UInt8.toNat_inj.1 h)⟩
        have d1 : ((s[e].toNat : Int) == 32) = false := by rw [beq_eq_false_iff_ne]; omega
        have d2 : ((s[e].toNat : Int) == 9) = false := by rw [beq_eq_false_iff_ne]; omega
        have d3 : ((s[e].toNat : Int) == 10) = false := by rw [beq_eq_false_iff_ne]; omega
        clear hb h3
        go_wp2_with fail
        go_quiet (fail)
        go_wp2_with fail
        go_ret
        exact ⟨rfl, HR.out, HF.out.drewN _⟩
    · obtain rfl : k = s.size := by omega
      have hke : e = s.size := by rw [← HK.out, runEnd_end]
      subst hke
      go_wp2_with fail
      go_quiet (fail)
      go_wp2_with fail
      go_ret
      exact ⟨rfl, HR.out, HF.out.drewN _⟩

set_option maxRecDepth 100000 in
set_option maxHeartbeats 1000000 in
/-- until, where the text stands at p for the first time. -/
theorem rd_until_yes (M : Nat → Prop) (b : Nat) (s : ByteArray) (i p : Nat) (wd : ByteArray) (w : World) (h : RdM M w b s i false) (hwd : wd.size ≤ 1000) (hip : i ≤ p) (hp : p < s.size) (hyes : hasB s p wd = true) (hno : ∀ k, i ≤ k → k < p → hasB s k wd = false) :
    Calls Tryz.prog 102 #[.pointer (some ⟨b, 0, none⟩), .string wd] w fun e w' => e = .returned (.string (s.extract i p)) ∧ RdM M w' b s (p + wd.size) false ∧ Fr (fun k => k = b) w w' := by
  have c1 := h.c1
  have hs := h.2.2.1
  have HH := Lib.hid h
  have HY := Lib.hid hyes
  have HN := Lib.hid hno
  clear h hyes hno
  go_enter Tryz.func102, Tryz.ntmps102
  go_wp2_with fail
  clear c1
  go_loopg [] (p - i) (fun g wr => ∃ k : Nat, g = p - k ∧ i ≤ k ∧ k ≤ p ∧ RdM M wr b s k false ∧ Fr (fun k => k = b) w wr)
  case atStart => exact ⟨i, rfl, Nat.le_refl _, hip, HH.out, Fr.refl _ _⟩
  case round =>
    obtain ⟨k, hg, hik, hkp, hr, hf⟩ := hrel
    have c0 := hr.c0
    have c1 := hr.c1
    have c2 := hr.c2
    have hk := hr.2.2.2.1
    have HR := Lib.hid hr
    have HF := Lib.hid hf
    have HG := Lib.hid hg
    clear hr hf hg HH
    have hks : k < s.size := by omega
    have q1 : IntKind.i64.wrap ((k : Int) + 1) = (k : Int) + 1 := by rw [IntKind.wrap_i64]; omega
    by_cases hkp' : k < p
    · go_wp2_with fail
      go_quiet (fail)
      go_wp2_with fail
      refine (rd_has_no M b s k false wd _ (show RdM M (wr.drewN _) b s k false from HR.out) hwd (HN.out k hik hkp')).mono ?_
      rintro e w2 ⟨rfl, n2, rfl⟩
      have c1 : ∀ n, (wr.drewN n).cell? ⟨b, 1, none⟩ = some (.int .i64 k) := fun n => HR.out.c1
      have fz : ∀ n i, (wr.drewN n).frozen? ⟨b, i, none⟩ = false := fun n i => HR.out.2.2.2.2.frozen i
      go_wp2_with fail
      go_roundg (p - (k + 1))
      case rel => exact ⟨k + 1, rfl, by omega, by omega, by simpa using RdM.at' (w := wr.drewN _) (M := M) (b := b) (s := s) (i := k) (bad := false) HR.out (k + 1) (by omega), Fr.setCell (M := fun k => k = b) (HF.out.drewN _) (show b = b from rfl) _⟩
      case measure => have := HG.out; omega
    · obtain rfl : k = p := by omega
      go_wp2_with fail
      go_quiet (fail)
      go_wp2_with fail
      refine (rd_has_yes M b s k false wd _ (show RdM M (wr.drewN _) b s k false from HR.out) hwd HY.out).mono ?_
      rintro e w2 ⟨rfl, h2, hf2⟩
      have c0 := h2.c0
      have H2 := Lib.hid h2
      have HF2 := Lib.hid ((HF.out.drewN _).trans hf2)
      clear h2 hf2
      go_wp2_with fail
      go_ret
      exact ⟨rfl, H2.out, HF2.out⟩

set_option maxRecDepth 100000 in
set_option maxHeartbeats 1000000 in
/-- until, where the text does not stand from here on. -/
theorem rd_until_no (M : Nat → Prop) (b : Nat) (s : ByteArray) (i : Nat) (wd : ByteArray) (w : World) (h : RdM M w b s i false) (hwd : wd.size ≤ 1000) (hno : ∀ k, i ≤ k → k < s.size → hasB s k wd = false) :
    Calls Tryz.prog 102 #[.pointer (some ⟨b, 0, none⟩), .string wd] w fun e w' => e = .returned (.string ⟨#[]⟩) ∧ RdM M w' b s s.size true ∧ Fr (fun k => k = b) w w' := by
  have c1 := h.c1
  have hs := h.2.2.1
  have hi := h.2.2.2.1
  have HH := Lib.hid h
  have HN := Lib.hid hno
  clear h hno
  go_enter Tryz.func102, Tryz.ntmps102
  go_wp2_with fail
  clear c1
  go_loopg [] (s.size - i) (fun g wr => ∃ k : Nat, g = s.size - k ∧ i ≤ k ∧ RdM M wr b s k false ∧ Fr (fun k => k = b) w wr)
  case atStart => exact ⟨i, rfl, Nat.le_refl _, HH.out, Fr.refl _ _⟩
  case round =>
    obtain ⟨k, hg, hik, hr, hf⟩ := hrel
    have c0 := hr.c0
    have c1 := hr.c1
    have c2 := hr.c2
    have hk := hr.2.2.2.1
    have HR := Lib.hid hr
    have HF := Lib.hid hf
    have HG := Lib.hid hg
    clear hr hf hg HH
    have q1 : IntKind.i64.wrap ((k : Int) + 1) = (k : Int) + 1 := by rw [IntKind.wrap_i64]; omega
    by_cases hks : k < s.size
    · go_wp2_with fail
      go_quiet (fail)
      go_wp2_with fail
      refine (rd_has_no M b s k false wd _ (show RdM M (wr.drewN _) b s k false from HR.out) hwd (HN.out k hik hks)).mono ?_
      rintro e w2 ⟨rfl, n2, rfl⟩
      have c1 : ∀ n, (wr.drewN n).cell? ⟨b, 1, none⟩ = some (.int .i64 k) := fun n => HR.out.c1
      have fz : ∀ n i, (wr.drewN n).frozen? ⟨b, i, none⟩ = false := fun n i => HR.out.2.2.2.2.frozen i
      go_wp2_with fail
      go_roundg (s.size - (k + 1))
      case rel => exact ⟨k + 1, rfl, by omega, by simpa using RdM.at' (w := wr.drewN _) (M := M) (b := b) (s := s) (i := k) (bad := false) HR.out (k + 1) (by omega), Fr.setCell (M := fun k => k = b) (HF.out.drewN _) (show b = b from rfl) _⟩
      case measure => have := HG.out; omega
    · obtain rfl : k = s.size := by omega
      have fz : ∀ n i, (wr.drewN n).frozen? ⟨b, i, none⟩ = false := fun n i => HR.out.2.2.2.2.frozen i
      go_wp2_with fail
      go_quiet (fail)
      go_wp2_with fail
      go_ret
      exact ⟨rfl, RdM.bad' (w := wr.drewN _) (M := M) (b := b) (s := s) (i := s.size) (bad := false) HR.out true, Fr.setCell (M := fun k => k = b) (HF.out.drewN _) (show b = b from rfl) _⟩

set_option maxRecDepth 100000 in
set_option maxHeartbeats 1000000 in
/-- until, of a reader that has met something bad. -/
theorem rd_until_bad (M : Nat → Prop) (b : Nat) (s : ByteArray) (i : Nat) (wd : ByteArray) (w : World) (h : RdM M w b s i true) :
    Calls Tryz.prog 102 #[.pointer (some ⟨b, 0, none⟩), .string wd] w fun e w' => e = .returned (.string ⟨#[]⟩) ∧ RdM M w' b s i true ∧ Fr (fun k => k = b) w w' := by
  have c0 := h.c0
  have c1 := h.c1
  have c2 := h.c2
  have hs := h.2.2.1
  have hi := h.2.2.2.1
  have fz := h.2.2.2.2.frozen
  have HH := Lib.hid h
  clear h
  go_enter Tryz.func102, Tryz.ntmps102
  go_wp2_with fail
  refine wp_loop_once ?_
  by_cases hks : i < s.size
  all_goals
    go_wp2_with fail
    go_quiet (fail)
    go_wp2_with fail
    go_ret
    exact ⟨rfl, RdM.bad' (w := w.drewN _) (M := M) (b := b) (s := s) (i := i) (bad := true) HH.out true, Fr.setCell (M := fun k => k = b) ((Fr.refl _ _).drewN _) (show b = b from rfl) _⟩

end Go.Proofs.YtlljphipglgjiaaGreatDoor
