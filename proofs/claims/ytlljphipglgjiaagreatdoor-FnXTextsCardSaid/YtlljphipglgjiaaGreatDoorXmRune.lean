/-
  spec.xRune: the character at a place, and its width.
-/
import Derived.Test.YtlljphipglgjiaaGreatDoorXmRd2
import Derived.Test.YtlljphipglgjiaaGreatDoorXmLaw1
import Derived.Laws.Cover4
import Derived.Laws.IdiomStrings
namespace Go.Proofs.YtlljphipglgjiaaGreatDoor
open Go.RowKit Go.Lib
set_option linter.unusedSimpArgs false

theorem runes_more (s : ByteArray) : ∀ (f i : Nat) (acc : Array Value), acc.size ≤ (Conv.runesFrom s f i acc).size
  | 0, _, acc => by simp [Conv.runesFrom]
  | f + 1, i, acc => by
    unfold Conv.runesFrom
    split
    · have := runes_more s f (i + (Utf8.decode s i).2) (acc.push (.int .i32 (Int.ofNat (Utf8.decode s i).1)))
      rw [Array.size_push] at this
      exact Nat.le_trans (Nat.le_succ _) this
    · exact Nat.le_refl _
theorem runes_end (s : ByteArray) (f i : Nat) (acc : Array Value) (h : ¬ i < s.size) : Conv.runesFrom s f i acc = acc := by
  cases f <;> simp [Conv.runesFrom, h]
theorem decode0 (t : ByteArray) : Utf8.decode t 0 = decodeL t.data.toList := by
  have := decodeL_drop t 0
  simpa using this.symm
theorem runes_one (t : ByteArray) (ht : 0 < t.size) (h : (decodeL t.data.toList).2 = t.size) : Conv.runesFrom t t.size 0 #[] = #[.int .i32 (decodeL t.data.toList).1] := by
  obtain ⟨m, hm⟩ : ∃ m, t.size = m + 1 := ⟨t.size - 1, by omega⟩
  have e : Conv.runesFrom t t.size 0 #[] = Conv.runesFrom t (m + 1) 0 #[] := by rw [hm]
  rw [e, Conv.runesFrom, if_pos ht]
  simp only []
  rw [decode0, runes_end _ _ _ _ (by omega)]
  rfl
theorem runes_two (t : ByteArray) (ht : 0 < t.size) (h : (decodeL t.data.toList).2 ≠ t.size) : 2 ≤ (Conv.runesFrom t t.size 0 #[]).size := by
  have hle := decodeL_le t.data.toList (by intro e; have := congrArg List.length e; rw [Array.length_toList] at this; have h5 : t.data.size = t.size := rfl; rw [List.length_nil] at this; omega)
  rw [Array.length_toList] at hle
  have h5 : t.data.size = t.size := rfl
  have hw := decodeL_width t.data.toList
  obtain ⟨m, hm⟩ : ∃ m, t.size = m + 2 := ⟨t.size - 2, by omega⟩
  have e : Conv.runesFrom t t.size 0 #[] = Conv.runesFrom t (m + 1 + 1) 0 #[] := by rw [hm]
  rw [e, Conv.runesFrom, if_pos ht]
  simp only []
  rw [decode0, Conv.runesFrom, if_pos (by omega)]
  simp only []
  refine Nat.le_trans ?_ (runes_more _ _ _ _)
  simp

theorem utf8_encode (c : Nat) : (Utf8.encode (c : Int)).data.toList = encodeRune (c : Int) := by
  have hb : ∀ (x : Int) (n : Nat), x = (n : Int) → x.toNat.toUInt8 = UInt8.ofNat n := fun x n h => by subst h; rfl
  unfold encodeRune
  by_cases c1 : c < 128
  · have v : Utf8.valid (c : Int) = true := by simp [Utf8.valid]; omega
    rw [encodeRuneZ_one (by omega) (by omega)]
    simp only [List.map_cons, List.map_nil]
    rw [hb _ c rfl]
    simp [Utf8.encode, v, c1]
  by_cases c2 : c < 2048
  · have v : Utf8.valid (c : Int) = true := by simp [Utf8.valid]; omega
    rw [encodeRuneZ_two (by omega) (by omega)]
    simp only [List.map_cons, List.map_nil]
    rw [hb _ (192 + c / 64) (by omega), hb _ (128 + c % 64) (by omega)]
    simp [Utf8.encode, v, c1, c2]
  by_cases hbad : (55296 ≤ c ∧ c ≤ 57343) ∨ 1114111 < c
  · have v : Utf8.valid (c : Int) = false := by simp [Utf8.valid]; omega
    rw [encodeRuneZ_bad (by omega)]
    simp [Utf8.encode, v, Utf8.runeError]
  by_cases c3 : c < 65536
  · have v : Utf8.valid (c : Int) = true := by simp [Utf8.valid]; omega
    rw [encodeRuneZ_three (by omega)]
    simp only [List.map_cons, List.map_nil]
    rw [hb _ (224 + c / 4096) (by omega), hb _ (128 + c / 64 % 64) (by omega), hb _ (128 + c % 64) (by omega)]
    simp [Utf8.encode, v, c1, c2, c3]
  · have v : Utf8.valid (c : Int) = true := by simp [Utf8.valid]; omega
    rw [encodeRuneZ_four (by omega) (by omega)]
    simp only [List.map_cons, List.map_nil]
    rw [hb _ (240 + c / 262144) (by omega), hb _ (128 + c / 4096 % 64) (by omega), hb _ (128 + c / 64 % 64) (by omega), hb _ (128 + c % 64) (by omega)]
    simp [Utf8.encode, v, c1, c2, c3]
theorem one_rune (c : Nat) : (runesBytes [(c : Int)]).data.toList = encodeRune (c : Int) := by
  rw [← utf8_encode]
  unfold runesBytes
  rw [List.foldl_cons, List.foldl_nil, ByteArray.empty_append]

/-- Is it a character? -/
def okCh (l : List UInt8) : Bool := !((decodeL l).1 == 65533 && (decodeL l).2 == 1)

theorem okCh_yes {l : List UInt8} (h : okCh l = true) : ¬ ((decodeL l).1 = 65533 ∧ (decodeL l).2 = 1) := by
  unfold okCh at h
  simp only [Bool.not_eq_true', Bool.and_eq_false_iff, beq_eq_false_iff_ne] at h
  rintro ⟨h1, h2⟩
  rcases h with h | h
  · exact h h1
  · exact h h2
theorem below_drewN {B : Nat} {a w : World} (h : Below B a w) (n : Nat) : Below B a (w.drewN n) := ⟨h.os, h.tape, h.output, h.size, h.block⟩
theorem below_drew {B : Nat} {a w : World} (h : Below B a w) : Below B a w.drew := ⟨h.os, h.tape, h.output, h.size, h.block⟩

set_option maxRecDepth 100000 in
set_option maxHeartbeats 2000000 in
theorem xRune_any (s : ByteArray) (i : Nat) (w : World) (hs : s.size ≤ 1000000) (hi : i < s.size) :
    Calls Tryz.prog 56 #[.string s, .int .i64 i] w fun e w' => e = .returned (.tuple #[.int .i32 (decodeL (s.data.toList.drop i)).1, .int .i64 (decodeL (s.data.toList.drop i)).2]) ∧ Below w.heap.size w w' := by
  have hl : s.data.toList.length = s.size := by rw [Array.length_toList]; rfl
  obtain ⟨l, hle⟩ : ∃ l, s.data.toList.drop i = l := ⟨_, rfl⟩
  have hll : l.length = s.size - i := by rw [← hle, List.length_drop, hl]
  have hlne : l ≠ [] := by intro e; rw [e] at hll; simp at hll; omega
  have hwd := decodeL_le l hlne
  have hw4 : (decodeL l).2 ≤ 4 := by
    rw [decodeL_N]
    rcases decodeN_shape l.length (l.getD 0 0).toNat (l.getD 1 0).toNat (l.getD 2 0).toNat (l.getD 3 0).toNat with ⟨c, e⟩ | ⟨c1, c2, c3, cv, e⟩ | ⟨c1, c2, c3, c4, cv, cs, e⟩ | ⟨c1, c2, c3, c4, c5, cv, cw, e⟩ | e <;> rw [e] <;> simp
  have hw1 := decodeL_width l
  rw [hle]
  have HLE := Lib.hid hle
  clear hle
  go_enter Tryz.func56, Tryz.ntmps56
  go_wp2_with fail
  go_loopw [6] (fun n wr => ∃ k : Nat, 1 ≤ k ∧ k ≤ 5 ∧ n = .int .i64 k ∧ Below w.heap.size w wr ∧ Hid (okCh l = true → k ≤ (decodeL l).2)) (fun n _ => 5 - (RowKit.intOf n).toNat)
  case atStart => exact ⟨1, Nat.le_refl _, by omega, rfl, Below.refl _ _, Lib.hid fun _ => hw1⟩
  case round =>
    obtain ⟨k, hk1, hk5, rfl, hb, HK⟩ := hrel
    have HB := Lib.hid hb
    clear hb
    have q1 : IntKind.i64.wrap ((i : Int) + (k : Int)) = (i : Int) + (k : Int) := by rw [IntKind.wrap_i64]; omega
    by_cases hc : k ≤ 4 ∧ i + k ≤ s.size
    · obtain ⟨hc1, hc2⟩ := hc
      obtain ⟨t, ht⟩ : ∃ t, s.extract i (i + k) = t := ⟨_, rfl⟩
      have hts : t.size = k := by rw [← ht, ByteArray.size_extract, Nat.min_eq_left hc2]; omega
      have htl : t.data.toList = l.take k := by rw [← ht, ext_list, HLE.out, show i + k - i = k by omega]
      have q2 : ((i : Int) + (k : Int)).toNat = i + k := by omega
      have q3 : (i : Int) + (k : Int) ≤ (s.size : Int) := by omega
      have q4 : (i : Int) ≤ (i : Int) + (k : Int) := by omega
      have q5 : IntKind.i64.wrap ((k : Int) + 1) = (k : Int) + 1 := by rw [IntKind.wrap_i64]; omega
      have hrs : (Conv.runesFrom t t.size 0 #[]).size ≤ t.size := by
        have := size_runesFrom t t.size 0 #[]
        simpa using this
      have hcv := run_runes_of_string (P := Tryz.prog) wr 9 173 21 t Tryz.underlying9 Tryz.underlying173 Tryz.underlying21 (by omega)
      have hsame : okCh l = true → (decodeL l).2 = k → decodeL t.data.toList = decodeL l := fun h1 h2 => by
        have := decode_pre l [] hlne (okCh_yes h1)
        rwa [h2, List.append_nil, ← htl] at this
      have HSAME := Lib.hid hsame
      have htne : t.data.toList ≠ [] := by
        intro e
        have := congrArg List.length e
        rw [Array.length_toList] at this
        have h5 : t.data.size = t.size := rfl
        rw [List.length_nil] at this
        omega
      have HTL := Lib.hid htl
      have HTS := Lib.hid hts
      have HTN := Lib.hid htne
      clear htl hts hsame htne
      by_cases hone : (decodeL t.data.toList).2 = t.size
      · have h1 := runes_one t (by rw [HTS.out]; omega) hone
        obtain ⟨c, hc⟩ : ∃ c, (decodeL t.data.toList).1 = c := ⟨_, rfl⟩
        rw [h1, hc] at hcv
        clear h1
        have HC := Lib.hid hc
        have HONE := Lib.hid hone
        clear hc hone hrs
        obtain ⟨cap, hcap⟩ : ∃ cap, grownCap wr (#[Value.int .i32 (c : Int)]).size 0 21 = cap := ⟨_, rfl⟩
        rw [hcap] at hcv
        clear hcap
        obtain ⟨cs, hcs⟩ : ∃ cs, (#[Value.int .i32 (c : Int)] ++ Array.replicate (cap - (#[Value.int .i32 (c : Int)]).size) (Value.int .i32 0)) = cs := ⟨_, rfl⟩
        rw [hcs] at hcv
        have hcell : (wr.alloc (.cells cs 21)).cell? ⟨wr.heap.size, 0, none⟩ = some (.int .i32 (c : Int)) := by
          rw [cell_of_row _ wr.heap.size 0 cs 21 (0, 0) (heap_alloc_new wr _), ← hcs]
          rw [Array.getElem?_append_left (by simp)]
          rfl
        have hcell2 : ∀ n, ((wr.alloc (.cells cs 21)).drewN n).cell? ⟨wr.heap.size, 0, none⟩ = some (.int .i32 (c : Int)) := fun n => hcell
        clear hcs
        have hst : ∀ n, (convert 173 9 (.slice (some ⟨wr.heap.size, 0, none⟩) 1 cap)).run Tryz.prog ((wr.alloc (.cells cs 21)).drewN n) = .ok (.string (runesBytes [(c : Int)])) ((wr.alloc (.cells cs 21)).drewN n) := fun n =>
          run_convert_runes _ 173 9 21 ⟨wr.heap.size, 0, none⟩ 1 cap [(c : Int)] (by simp) Tryz.underlying173 Tryz.underlying21 Tryz.underlying9 (fun j hj => by
            have : j = 0 := by simpa using hj
            subst this
            exact hcell)
        have hB1 : Below w.heap.size w (wr.alloc (.cells cs 21)) := HB.out.alloc HB.out.size _
        have HB1 := Lib.hid hB1
        clear hB1
        rw [← ht] at hcv
        have HTE := Lib.hid ht
        clear ht
        by_cases hv : okCh t.data.toList = true
        · have hen : encodeRune (c : Int) = t.data.toList := by
            rw [← HC.out, encode_decode _ HTN.out (okCh_yes hv), HONE.out]
            exact List.take_of_length_le (by rw [Array.length_toList]; exact Nat.le_refl _)
          have e1 : ((runesBytes [(c : Int)]).toList == (s.extract i (i + k)).toList) = true := by
            rw [HTE.out, Lib.toList_data, Lib.toList_data, one_rune, hen, beq_iff_eq]
          have hfin : decodeL l = (c, k) := by
            have := decode_pre t.data.toList (l.drop k) HTN.out (okCh_yes hv)
            rw [HONE.out, HTS.out, List.take_of_length_le (by rw [Array.length_toList]; have := HTS.out; have h5 : t.data.size = t.size := rfl; omega), HTL.out, List.take_append_drop] at this
            rw [this]
            exact Prod.ext (by rw [← HTL.out]; exact HC.out) (by rw [← HTL.out, HONE.out, HTS.out])
          have HFIN := Lib.hid hfin
          clear hfin hen hv
          go_wp2_with fail
          go_quiet (fail)
          go_wp2_with fail
          go_ret2
          exact ⟨by rw [HFIN.out]; rfl, below_drewN HB1.out _⟩
        · have hv' : okCh t.data.toList = false := by simpa using hv
          have hz : (decodeL t.data.toList).1 = 65533 ∧ (decodeL t.data.toList).2 = 1 := by
            unfold okCh at hv'
            simpa using hv'
          have e1 : ((runesBytes [(c : Int)]).toList == (s.extract i (i + k)).toList) = false := by
            rw [HTE.out, Lib.toList_data, Lib.toList_data, one_rune, beq_eq_false_iff_ne, ← HC.out, hz.1]
            intro h
            have := congrArg List.length h
            have h5 : t.data.toList.length = t.size := by rw [Array.length_toList]; rfl
            have h6 := HONE.out
            have h7 : (encodeRune ((65533 : Nat) : Int)).length = 3 := by decide +kernel
            rw [h7, h5, ← h6, hz.2] at this
            cases this
          have hnext : okCh l = true → k + 1 ≤ (decodeL l).2 := fun h => by
            have h2 := HK.out h
            rcases Nat.lt_or_ge k (decodeL l).2 with h3 | h3
            · exact h3
            · have h4 := HSAME.out h (by omega)
              have : okCh t.data.toList = okCh l := by unfold okCh; rw [h4]
              rw [this, h] at hv'
              cases hv'
          have HNX := Lib.hid hnext
          clear hnext hz hv hv'
          go_wp2_with fail
          go_quiet (fail)
          go_wp2_with fail
          go_roundw
          case rel => exact ⟨k + 1, by omega, by omega, by go_num, below_drewN HB1.out _, HNX⟩
          case measure => simp [RowKit.intOf]; omega
      · have h2 := runes_two t (by rw [HTS.out]; omega) hone
        obtain ⟨R, hR⟩ : ∃ R, Conv.runesFrom t t.size 0 #[] = R := ⟨_, rfl⟩
        rw [hR] at hcv h2 hrs
        clear hR
        have hnext : okCh l = true → k + 1 ≤ (decodeL l).2 := fun h => by
          have h2 := HK.out h
          rcases Nat.lt_or_ge k (decodeL l).2 with h3 | h3
          · exact h3
          · have h4 := HSAME.out h (by omega)
            rw [h4, HTS.out] at hone
            omega
        have HNX := Lib.hid hnext
        clear hnext hone
        rw [← ht] at hcv
        clear ht
        obtain ⟨cap, hcap⟩ : ∃ cap, grownCap wr R.size 0 21 = cap := ⟨_, rfl⟩
        rw [hcap] at hcv
        clear hcap
        obtain ⟨cs, hcs⟩ : ∃ cs, (R ++ Array.replicate (cap - R.size) (Value.int .i32 0)) = cs := ⟨_, rfl⟩
        rw [hcs] at hcv
        clear hcs
        have hB1 : Below w.heap.size w (wr.alloc (.cells cs 21)) := HB.out.alloc HB.out.size _
        have HB1 := Lib.hid hB1
        clear hB1
        have d1 : ((R.size : Int) == 1) = false := by rw [beq_eq_false_iff_ne]; omega
        go_wp2_with fail
        go_quiet (fail)
        go_wp2_with fail
        go_roundw
        case rel => exact ⟨k + 1, by omega, by omega, by go_num, below_drewN HB1.out _, HNX⟩
        case measure => simp [RowKit.intOf]; omega
    · have hno : okCh l = false := by
        cases h : okCh l with
        | false => rfl
        | true => have := HK.out h; omega
      have HNO := Lib.hid hno
      clear hno
      have hz : (decodeL l).1 = 65533 ∧ (decodeL l).2 = 1 := by
        have := HNO.out
        unfold okCh at this
        simpa using this
      have HZ := Lib.hid hz
      clear hz
      go_wp2_with fail
      all_goals go_ret2
      all_goals exact ⟨by rw [HZ.out.1, HZ.out.2]; rfl, HB.out⟩

end Go.Proofs.YtlljphipglgjiaaGreatDoor
