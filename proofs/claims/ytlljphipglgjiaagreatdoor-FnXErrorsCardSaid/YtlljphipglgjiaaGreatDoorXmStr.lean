/-
  The plain loops over strings: zzIndex, zzCount, zzCut (package zxml).
  nsname: a name, in its two halves.
-/
import Derived.Test.YtlljphipglgjiaaGreatDoorXmWrite2
namespace Go.Proofs.YtlljphipglgjiaaGreatDoor
open Go.RowKit

theorem ba_ext {a b : ByteArray} (h : a.data.toList = b.data.toList) : a = b := by
  cases a; cases b
  simpa using h
theorem ba_beq (a b : ByteArray) : (a.toList == b.toList) = decide (a = b) := by
  rw [Lib.toList_data, Lib.toList_data]
  by_cases h : a = b
  · simp [h]
  · have h2 : ¬ a.data.toList = b.data.toList := fun e => h (ba_ext e)
    rw [decide_eq_false h, beq_eq_false_iff_ne]
    exact h2

set_option maxHeartbeats 400000 in
theorem zzIndex_found (s sub : ByteArray) (j : Nat) (w : World) (hs : s.size ≤ 1000000) (hj : j + sub.size ≤ s.size) (hat : s.extract j (j + sub.size) = sub) (hno : ∀ k, k < j → s.extract k (k + sub.size) ≠ sub) :
    Calls Tryz.prog 196 #[.string s, .string sub] w fun e w' => e = .returned (.int .i64 j) ∧ w = w' := by
  have HA := Lib.hid hat
  have HN := Lib.hid hno
  clear hat hno
  go_enter Tryz.func196, Tryz.ntmps196
  go_wp2_with fail
  go_loop [4, 5] (fun _a i => ∃ k : Nat, k ≤ j ∧ i = .int .i64 k) (fun _ i => j - (intOf i).toNat)
  case atStart => exact ⟨0, Nat.zero_le _, rfl⟩
  case round =>
    obtain ⟨k, hk, rfl⟩ := hrel
    by_cases hkj : k < j
    · have e1 : ((s.extract k (k + sub.size)).toList == sub.toList) = false := by rw [ba_beq]; simpa using HN.out k hkj
      go_wp2_with fail
      go_round
      case rel => exact ⟨k + 1, by omega, by go_num⟩
      case measure => simp [intOf]; omega
    · obtain rfl : k = j := by omega
      have e1 : ((s.extract k (k + sub.size)).toList == sub.toList) = true := by rw [ba_beq]; simpa using HA.out
      go_wp2_with fail
      go_ret
      exact ⟨rfl, rfl⟩

set_option maxHeartbeats 400000 in
theorem zzIndex_none (s sub : ByteArray) (w : World) (hs : s.size ≤ 1000000) (hb : sub.size ≤ 1000000) (hno : ∀ k, k + sub.size ≤ s.size → s.extract k (k + sub.size) ≠ sub) :
    Calls Tryz.prog 196 #[.string s, .string sub] w fun e w' => e = .returned (.int .i64 (-1)) ∧ w = w' := by
  have HN := Lib.hid hno
  clear hno
  go_enter Tryz.func196, Tryz.ntmps196
  go_wp2_with fail
  go_loop [4, 5] (fun _a i => ∃ k : Nat, k ≤ s.size + 1 ∧ i = .int .i64 k) (fun _ i => s.size + 1 - (intOf i).toNat)
  case atStart => exact ⟨0, Nat.zero_le _, rfl⟩
  case round =>
    obtain ⟨k, hk, rfl⟩ := hrel
    by_cases hkj : k + sub.size ≤ s.size
    · have e1 : ((s.extract k (k + sub.size)).toList == sub.toList) = false := by rw [ba_beq]; simpa using HN.out k hkj
      go_wp2_with fail
      go_round
      case rel => exact ⟨k + 1, by omega, by go_num⟩
      case measure => simp [intOf]; omega
    · go_wp2_with fail
      go_ret
      exact ⟨rfl, rfl⟩


/-- How often the colon stands in a list. -/
def colons (l : List UInt8) : Nat := l.countP (· == 58)

theorem colon_list : (⟨#[58]⟩ : ByteArray).toList = [58] := by rw [Lib.toList_data]

theorem ext_one (s : ByteArray) (k : Nat) (hk : k < s.size) : s.extract k (k + 1) = ⟨#[s[k]]⟩ := by
  apply ba_ext
  have hl : s.data.toList.length = s.size := by rw [Array.length_toList]; rfl
  rw [← Lib.toList_data, Lib.extract_toList]
  rw [show k + 1 - k = 1 by omega, List.take_one]
  have : (s.data.toList.drop k).head? = some s[k] := by
    rw [List.head?_drop, List.getElem?_eq_getElem (by omega)]
    rfl
  rw [this]
  rfl

set_option maxHeartbeats 400000 in
theorem zzCount_any (s : ByteArray) (w : World) (hs : s.size ≤ 1000000) :
    Calls Tryz.prog 192 #[.string s, .string ⟨#[58]⟩] w fun e w' => e = .returned (.int .i64 (colons s.data.toList)) ∧ w = w' := by
  have hl : s.data.toList.length = s.size := by rw [Array.length_toList]; rfl
  go_enter Tryz.func192, Tryz.ntmps192
  go_wp2_with fail
  go_loop [5, 6, 9] (fun n _j i => ∃ k : Nat, k ≤ s.size ∧ i = .int .i64 k ∧ n = .int .i64 (colons (s.data.toList.take k))) (fun _ _ i => s.size - (intOf i).toNat)
  case atStart => exact ⟨0, Nat.zero_le _, rfl, rfl⟩
  case round =>
    obtain ⟨k, hk, rfl, rfl⟩ := hrel
    have hcb : colons (s.data.toList.take k) ≤ k := Nat.le_trans List.countP_le_length (by rw [List.length_take]; omega)
    by_cases hkj : k < s.size
    · have hsn : colons (s.data.toList.take (k + 1)) = colons (s.data.toList.take k) + if s[k] = 58 then 1 else 0 := by
        unfold colons
        rw [List.take_succ_eq_append_getElem (by omega), List.countP_append]
        congr 1
        have : s.data.toList[k]'(by omega) = s[k] := rfl
        rw [this]
        simp [List.countP_cons]
      by_cases h58 : s[k] = 58
      · have e1 : ((s.extract k (k + 1)).toList == [58]) = true := by rw [← colon_list, ba_beq, ext_one s k hkj, h58]; simp
        rw [if_pos h58] at hsn
        have HS := Lib.hid hsn
        clear hsn h58
        go_wp2_with fail
        go_round
        case rel => exact ⟨k + 1, by omega, by go_num, by rw [HS.out]; go_num⟩
        case measure => simp [intOf]; omega
      · have e1 : ((s.extract k (k + 1)).toList == [58]) = false := by
          rw [← colon_list, ba_beq, ext_one s k hkj]
          simp only [decide_eq_false_iff_not]
          intro h
          injection h with h
          injection h with h
          injection h with h
          exact h58 h
        rw [if_neg h58] at hsn
        have HS := Lib.hid hsn
        clear hsn h58
        go_wp2_with fail
        go_round
        case rel => exact ⟨k + 1, by omega, by go_num, by rw [HS.out]; rfl⟩
        case measure => simp [intOf]; omega
    · obtain rfl : k = s.size := by omega
      go_wp2_with fail
      go_ret
      exact ⟨ret_int (by rw [List.take_of_length_le (by omega)]), rfl⟩

set_option maxHeartbeats 400000 in
theorem zzCut_yes (s : ByteArray) (j : Nat) (w : World) (hs : s.size ≤ 1000000) (hj : j < s.size) (hat : s[j] = 58) (hno : ∀ k (hk : k < j), s[k]'(by omega) ≠ 58) :
    Calls Tryz.prog 193 #[.string s, .string ⟨#[58]⟩] w fun e w' => e = .returned (.tuple #[.string (s.extract 0 j), .string (s.extract (j + 1) s.size), .bool true]) ∧ ∃ n, w.drewN n = w' := by
  have HI : Hid (Calls Tryz.prog 196 #[.string s, .string ⟨#[58]⟩] w fun e w' => e = .returned (.int .i64 j) ∧ w = w') :=
    Lib.hid (zzIndex_found s ⟨#[58]⟩ j w hs (by show j + 1 ≤ s.size; omega) (by show s.extract j (j + 1) = _; rw [ext_one s j hj, hat]) (fun k hk => by
      show s.extract k (k + 1) ≠ _
      rw [ext_one s k (by omega)]
      intro h
      injection h with h
      injection h with h
      injection h with h
      exact hno k hk h))
  clear hat hno
  go_enter Tryz.func193, Tryz.ntmps193
  go_wp2_with fail
  refine HI.out.mono ?_
  rintro e w1 ⟨rfl, rfl⟩
  go_wp2_with fail
  have q1 : IntKind.i64.wrap ((j : Int) + 1) = (j : Int) + 1 := by rw [IntKind.wrap_i64]; omega
  have q2 : (0 : Int) ≤ (j : Int) + 1 := by omega
  have q3 : ((j : Int) + 1).toNat = j + 1 := by omega
  have q4 : (j : Int) + 1 ≤ (s.size : Int) := by omega
  go_quiet (fail)
  go_wp2_with fail
  go_ret3
  exact ⟨rfl, _, rfl⟩

set_option maxHeartbeats 400000 in
theorem zzCut_no (s : ByteArray) (w : World) (hs : s.size ≤ 1000000) (hno : ∀ k (hk : k < s.size), s[k] ≠ 58) :
    Calls Tryz.prog 193 #[.string s, .string ⟨#[58]⟩] w fun e w' => e = .returned (.tuple #[.string s, .string ⟨#[]⟩, .bool false]) ∧ w = w' := by
  have HI : Hid (Calls Tryz.prog 196 #[.string s, .string ⟨#[58]⟩] w fun e w' => e = .returned (.int .i64 (-1)) ∧ w = w') :=
    Lib.hid (zzIndex_none s ⟨#[58]⟩ w hs (by decide) (fun k hk => by
      have hk' : k < s.size := hk
      show s.extract k (k + 1) ≠ _
      rw [ext_one s k hk']
      intro h
      injection h with h
      injection h with h
      injection h with h
      exact hno k hk' h))
  clear hno
  go_enter Tryz.func193, Tryz.ntmps193
  go_wp2_with fail
  refine HI.out.mono ?_
  rintro e w1 ⟨rfl, rfl⟩
  go_wp2_with fail
  go_ret3
  exact ⟨rfl, rfl⟩

end Go.Proofs.YtlljphipglgjiaaGreatDoor

namespace Go.Proofs.YtlljphipglgjiaaGreatDoor
open Go.RowKit

/-- A name with its prefix (empty: none) and its local part. -/
def QName (nl sp lo : List UInt8) : Prop := (sp = [] ∧ nl = lo ∧ 58 ∉ lo) ∨ (sp ≠ [] ∧ lo ≠ [] ∧ nl = sp ++ 58 :: lo ∧ 58 ∉ sp ∧ 58 ∉ lo)

/-- M without the blocks that were made between two worlds. -/
def Out (M : Nat → Prop) (a b : Nat) (k : Nat) : Prop := M k ∧ (k < a ∨ b ≤ k)
theorem Out.sub {M : Nat → Prop} {a b k : Nat} (h : Out M a b k) : M k := h.1
theorem not_Out {M : Nat → Prop} {a b k : Nat} (h1 : a ≤ k) (h2 : k < b) : ¬ Out M a b k := fun h => by rcases h.2 with h | h <;> omega

theorem LowB.out {M : Nat → Prop} {w W : World} {L : LS} {s : ByteArray} {i : Nat} {f : Bool} {bs : List UInt8} (h : LowB M w L s i f bs) (hb : Below w.heap.size w W) : LowB (Out M w.heap.size W.heap.size) W L s i f bs := by
  obtain ⟨h1, h2, h3, h4, h5, buf, hL, hB, hM⟩ := h
  have hp : L.p < w.heap.size := by obtain ⟨_, _, _, _, _, _, _, q, _⟩ := hL; exact q.lt
  have hr : L.rb < w.heap.size := by obtain ⟨_, _, _, _, _, _, _, _, q, _⟩ := hL; exact q.lt
  have hg : ∀ g, buf.ownBlock = some g → g < w.heap.size := by
    intro g hg
    rcases hB.cases with ⟨rfl, rfl⟩ | ⟨g', cap, cur, rfl, hg2, _⟩
    · cases hg
    · cases hg; exact Blk.lt (t := 5) (cs := cur) hg2
  have := LowB.below ⟨h1, h2, h3, h4, h5, buf, hL, hB, hM⟩ hb
  obtain ⟨_, _, q3, _, _, _⟩ := this
  have hLW : Low W L s i f buf := by
    obtain ⟨lr, nb, ri, pr, line, ls, off, r1, r2, r3⟩ := hL
    exact ⟨lr, nb, ri, pr, line, ls, off, (hb.block _ r1.lt).trans r1, (hb.block _ r2.lt).trans r2, r3⟩
  exact ⟨⟨h1, .inl hp⟩, ⟨h2, .inl hr⟩, fun k hk => ⟨q3 k hk, .inr hk⟩, h4, h5, buf, hLW, hB.keep fun g hg' cur hc => (hb.block g (hg g hg')).trans hc, fun g hg' => ⟨⟨(hM g hg').1, .inl (hg g hg')⟩, (hM g hg').2⟩⟩

theorem LowB.setOther {M : Nat → Prop} {w : World} {L : LS} {s : ByteArray} {i : Nat} {f : Bool} {bs : List UInt8} (h : LowB M w L s i f bs) {q : Addr} (hq : ¬ M q.block) (v : Value) : LowB M (w.setCell q v) L s i f bs := by
  obtain ⟨h1, h2, h3, h4, h5, buf, ⟨lr, nb, ri, pr, line, ls, off, r1, r2, r3⟩, hB, hM⟩ := h
  exact ⟨h1, h2, h3.setCell _ _, h4, h5, buf, ⟨lr, nb, ri, pr, line, ls, off, r1.far (fun e => hq (e ▸ h1)) _, r2.far (fun e => hq (e ▸ h2)) _, r3⟩,
    hB.keep fun g hg cur hc => (Below.heap_setCell _ _ _ _ (fun e => hq (e ▸ (hM g hg).1))).trans hc, hM⟩

theorem LowB.mono {M M' : Nat → Prop} {w : World} {L : LS} {s : ByteArray} {i : Nat} {f : Bool} {bs : List UInt8} (h : LowB M w L s i f bs) (hM : ∀ k, M k → M' k) : LowB M' w L s i f bs := by
  obtain ⟨h1, h2, h3, h4, h5, buf, hL, hB, hg⟩ := h
  exact ⟨hM _ h1, hM _ h2, fun k hk => hM _ (h3 k hk), h4, h5, buf, hL, hB, fun g hg' => ⟨hM _ (hg g hg').1, (hg g hg').2⟩⟩

theorem colons_zero {l : List UInt8} (h : 58 ∉ l) : colons l = 0 := by
  unfold colons
  rw [List.countP_eq_zero]
  intro a ha h2
  simp at h2
  subst h2
  exact h ha

set_option maxRecDepth 100000 in
set_option maxHeartbeats 1000000 in
theorem nsname_plain {M : Nat → Prop} {w : World} {L : LS} {s : ByteArray} {i : Nat} {f : Bool} {bs : List UInt8} (j : Nat) (h : LowB M w L s i f bs) (hij : i < j) (hj : j < s.size)
    (hn : ∀ k (hk : k < s.size), i ≤ k → k < j → nameB s[k] = true) (hf : firstB (s[i]'(by omega)) = true) (he : nameB s[j] = false) (hlt : s[j].toNat < 128) (hq : 58 ∉ sub s i j) :
    Calls Tryz.prog 155 #[.pointer (some ⟨L.p, 0, none⟩)] w fun e w' => e = .returned (.tuple #[.agg #[.string ⟨#[]⟩, .string (bst (sub s i j))], .bool true]) ∧ LowB M w' L s j false (sub s i j) ∧ Fr M w w' := by
  have hsz := h.parts.2.2.2.1
  have hN := h.parts.2.2.1
  have hb0 : Below w.heap.size w (w.alloc (.cells #[.string ⟨#[]⟩, .string ⟨#[]⟩] 59)) := (Below.refl _ _).alloc (Nat.le_refl _) _
  have HNM := nameB_ok j (h.out hb0) hij hj hn hf he hlt
  have HM := Lib.hid HNM
  have H := Lib.hid h
  have hlen := sub_length s i j (by omega)
  have hcnt := zzCount_any (bst (sub s i j))
  have hcut := zzCut_no (bst (sub s i j))
  rw [bst_toList, colons_zero hq] at hcnt
  have HCN := Lib.hid hcnt
  have HCT := Lib.hid hcut
  have HQ := Lib.hid hq
  have hbs : (bst (sub s i j)).size ≤ 1000000 := by rw [bst_size]; omega
  have HBS := Lib.hid hbs
  clear h hn hf he hq hcnt hcut hbs HNM hlen
  go_enter Tryz.func155, Tryz.ntmps155
  go_wp2_with fail
  refine HM.out.mono ?_
  rintro e w1 ⟨rfl, h1, hf1⟩
  have hblk : Blk w1 w.heap.size 59 #[.string ⟨#[]⟩, .string ⟨#[]⟩] := (Blk.new w 59 _).fr hf1 (not_Out (Nat.le_refl _) (by simp))
  have H1 := Lib.hid h1
  have F1 := Lib.hid hf1
  have HBK := Lib.hid hblk
  have hc := hblk.cell
  have hfz := hblk.frozen
  clear h1 hf1 hblk
  go_wp2_with fail
  refine (HCN.out _ HBS.out).mono ?_
  rintro e w2 ⟨rfl, rfl⟩
  go_wp2_with fail
  refine (HCT.out _ HBS.out (fun k hk => ?_)).mono ?_
  · intro h58
    exact HQ.out (by rw [← h58]; exact List.getElem_mem (l := sub s i j) (by rw [bst_size] at hk; exact hk))
  rintro e w2 ⟨rfl, rfl⟩
  go_wp2_with fail
  have hb2 : Blk (((w1.setCell ⟨w.heap.size, 1, none⟩ (.string (bst (sub s i j)))).setCell ⟨w.heap.size, 0, none⟩ (.string ⟨#[]⟩)).setCell ⟨w.heap.size, 1, none⟩ (.string (bst (sub s i j)))) w.heap.size 59 #[.string ⟨#[]⟩, .string (bst (sub s i j))] := (((HBK.out.set 1 _).set 0 _).set 1 _).eq rfl
  have hc2 := hb2.cell
  refine bodyPost_ret (v := .tuple #[.agg #[.string ⟨#[]⟩, .string (bst (sub s i j))], .bool true]) (by simp [results, Tryz.results155, go_sem, hc2]) rfl ⟨rfl, ?_, ?_⟩
  · exact (((H1.out.setOther (q := ⟨w.heap.size, 1, none⟩) (not_Out (Nat.le_refl _) (by simp)) _).setOther (q := ⟨w.heap.size, 0, none⟩) (not_Out (Nat.le_refl _) (by simp)) _).setOther (q := ⟨w.heap.size, 1, none⟩) (not_Out (Nat.le_refl _) (by simp)) _).mono fun k hk => hk.sub
  · exact ((((Fr.below hb0 (Nat.le_refl _) hN).trans (F1.out.mono fun k hk => hk.sub)).setCell (p := ⟨w.heap.size, 1, none⟩) (hN _ (Nat.le_refl _)) _).setCell (p := ⟨w.heap.size, 0, none⟩) (hN _ (Nat.le_refl _)) _).setCell (p := ⟨w.heap.size, 1, none⟩) (hN _ (Nat.le_refl _)) _

set_option maxRecDepth 100000 in
set_option maxHeartbeats 1000000 in
theorem nsname_pre {M : Nat → Prop} {w : World} {L : LS} {s : ByteArray} {i : Nat} {f : Bool} {bs : List UInt8} (j : Nat) (sp lo : List UInt8) (h : LowB M w L s i f bs) (hij : i < j) (hj : j < s.size)
    (hn : ∀ k (hk : k < s.size), i ≤ k → k < j → nameB s[k] = true) (hf : firstB (s[i]'(by omega)) = true) (he : nameB s[j] = false) (hlt : s[j].toNat < 128) (hq : sub s i j = sp ++ 58 :: lo) (hsp : sp ≠ []) (hlo : lo ≠ []) (hq1 : 58 ∉ sp) (hq2 : 58 ∉ lo) :
    Calls Tryz.prog 155 #[.pointer (some ⟨L.p, 0, none⟩)] w fun e w' => e = .returned (.tuple #[.agg #[.string (bst sp), .string (bst lo)], .bool true]) ∧ LowB M w' L s j false (sub s i j) ∧ Fr M w w' := by
  have hsz := h.parts.2.2.2.1
  have hN := h.parts.2.2.1
  have hb0 : Below w.heap.size w (w.alloc (.cells #[.string ⟨#[]⟩, .string ⟨#[]⟩] 59)) := (Below.refl _ _).alloc (Nat.le_refl _) _
  have HNM := nameB_ok j (h.out hb0) hij hj hn hf he hlt
  have HM := Lib.hid HNM
  have H := Lib.hid h
  have hlen := sub_length s i j (by omega)
  have hcnt := zzCount_any (bst (sub s i j))
  have hcut := zzCut_yes (bst (sub s i j)) sp.length
  have hc1 : colons (bst (sub s i j)).data.toList = 1 := by
    rw [bst_toList, hq]
    unfold colons
    rw [List.countP_append, List.countP_cons]
    have e1 := colons_zero hq1
    have e2 := colons_zero hq2
    unfold colons at e1 e2
    rw [e1, e2]
    rfl
  rw [hc1] at hcnt
  have hbs : (bst (sub s i j)).size ≤ 1000000 := by rw [bst_size]; omega
  have hspl : sp.length < (bst (sub s i j)).size := by rw [bst_size, hq]; simp
  have x1 : (bst (sub s i j)).extract 0 sp.length = bst sp := by
    apply ba_ext
    rw [← Lib.toList_data, Lib.extract_toList, bst_toList, bst_toList, hq]
    simp
  have x2 : (bst (sub s i j)).extract (sp.length + 1) (bst (sub s i j)).size = bst lo := by
    apply ba_ext
    rw [← Lib.toList_data, Lib.extract_toList, bst_size, bst_toList, bst_toList, hq]
    have : (sp ++ 58 :: lo).drop (sp.length + 1) = lo := by
      rw [List.drop_append]
      simp
    rw [this, List.take_of_length_le]
    rw [List.length_append, List.length_cons]; omega
  rw [x1, x2] at hcut
  have hget : ∀ k (hk : k < (bst (sub s i j)).size), (bst (sub s i j))[k] = (sp ++ 58 :: lo)[k]'(by rw [bst_size, hq] at hk; exact hk) := by
    intro k hk
    have : (bst (sub s i j))[k] = (sub s i j)[k]'(by rw [bst_size] at hk; exact hk) := rfl
    rw [this]
    congr 1
  have hat : (bst (sub s i j))[sp.length] = 58 := by rw [hget _ hspl]; simp
  have hno : ∀ k (hk : k < sp.length), (bst (sub s i j))[k]'(by omega) ≠ 58 := by
    intro k hk h58
    rw [hget k (by omega), List.getElem_append_left hk] at h58
    exact hq1 (by rw [← h58]; exact List.getElem_mem hk)
  have HCN := Lib.hid hcnt
  have HCT := Lib.hid (fun W => hcut W hbs hspl hat hno)
  have HBS := Lib.hid hbs
  have hs1 : (bst sp).toList = sp := Lib.toList_data _
  have hl1 : (bst lo).toList = lo := Lib.toList_data _
  have hs0 : sp.isEmpty = false := by cases sp with | nil => exact absurd rfl hsp | cons _ _ => rfl
  have hl0 : lo.isEmpty = false := by cases lo with | nil => exact absurd rfl hlo | cons _ _ => rfl
  clear h hn hf he hq hcnt hcut hbs HNM hlen hc1 hspl x1 x2 hget hat hno hsp hlo hq1 hq2
  go_enter Tryz.func155, Tryz.ntmps155
  go_wp2_with fail
  refine HM.out.mono ?_
  rintro e w1 ⟨rfl, h1, hf1⟩
  have hblk : Blk w1 w.heap.size 59 #[.string ⟨#[]⟩, .string ⟨#[]⟩] := (Blk.new w 59 _).fr hf1 (not_Out (Nat.le_refl _) (by simp))
  have H1 := Lib.hid h1
  have F1 := Lib.hid hf1
  have HBK := Lib.hid hblk
  have hc := hblk.cell
  have hfz := hblk.frozen
  clear h1 hf1 hblk
  go_wp2_with fail
  refine (HCN.out _ HBS.out).mono ?_
  rintro e w2 ⟨rfl, rfl⟩
  go_wp2_with fail
  refine (HCT.out _).mono ?_
  rintro e w2 ⟨rfl, n2, rfl⟩
  go_wp2_with fail
  have q0 : ¬ Out M w.heap.size (w.alloc (Obj.cells #[Value.string { data := #[] }, Value.string { data := #[] }] 59)).heap.size w.heap.size := not_Out (Nat.le_refl _) (by simp)
  have hb2 : Blk (((((w1.drewN n2).setCell ⟨w.heap.size, 0, none⟩ (.string (bst sp))).setCell ⟨w.heap.size, 1, none⟩ (.string (bst lo))).setCell ⟨w.heap.size, 0, none⟩ (.string (bst sp))).setCell ⟨w.heap.size, 1, none⟩ (.string (bst lo))) w.heap.size 59 #[.string (bst sp), .string (bst lo)] :=
    (((((HBK.out.drewN n2).set 0 _).set 1 _).set 0 _).set 1 _).eq rfl
  have hc2 := hb2.cell
  refine bodyPost_ret (v := .tuple #[.agg #[.string (bst sp), .string (bst lo)], .bool true]) (by simp [results, Tryz.results155, go_sem, hc2]) rfl ⟨rfl, ?_, ?_⟩
  · have h5 : LowB (Out M w.heap.size (w.alloc (Obj.cells #[Value.string { data := #[] }, Value.string { data := #[] }] 59)).heap.size) (w1.drewN n2) L s j false (sub s i j) := H1.out.below ⟨rfl, rfl, rfl, Nat.le_refl _, fun _ _ => rfl⟩
    exact ((((h5.setOther (q := ⟨w.heap.size, 0, none⟩) q0 _).setOther (q := ⟨w.heap.size, 1, none⟩) q0 _).setOther (q := ⟨w.heap.size, 0, none⟩) q0 _).setOther (q := ⟨w.heap.size, 1, none⟩) q0 _).mono fun k hk => hk.sub
  · exact ((((((Fr.below hb0 (Nat.le_refl _) hN).trans (F1.out.mono fun k hk => hk.sub)).drewN n2).setCell (p := ⟨w.heap.size, 0, none⟩) (hN _ (Nat.le_refl _)) _).setCell (p := ⟨w.heap.size, 1, none⟩) (hN _ (Nat.le_refl _)) _).setCell (p := ⟨w.heap.size, 0, none⟩) (hN _ (Nat.le_refl _)) _).setCell (p := ⟨w.heap.size, 1, none⟩) (hN _ (Nat.le_refl _)) _

theorem nsnameB {M : Nat → Prop} {w : World} {L : LS} {s : ByteArray} {i : Nat} {f : Bool} {bs : List UInt8} (j : Nat) (sp lo : List UInt8) (h : LowB M w L s i f bs) (hij : i < j) (hj : j < s.size)
    (hn : ∀ k (hk : k < s.size), i ≤ k → k < j → nameB s[k] = true) (hf : firstB (s[i]'(by omega)) = true) (he : nameB s[j] = false) (hlt : s[j].toNat < 128) (hq : QName (sub s i j) sp lo) :
    Calls Tryz.prog 155 #[.pointer (some ⟨L.p, 0, none⟩)] w fun e w' => e = .returned (.tuple #[.agg #[.string (bst sp), .string (bst lo)], .bool true]) ∧ LowB M w' L s j false (sub s i j) ∧ Fr M w w' := by
  rcases hq with ⟨rfl, rfl, h1⟩ | ⟨h1, h2, h3, h4, h5⟩
  · exact nsname_plain j h hij hj hn hf he hlt h1
  · exact nsname_pre j sp lo h hij hj hn hf he hlt h3 h1 h2 h4 h5

end Go.Proofs.YtlljphipglgjiaaGreatDoor
