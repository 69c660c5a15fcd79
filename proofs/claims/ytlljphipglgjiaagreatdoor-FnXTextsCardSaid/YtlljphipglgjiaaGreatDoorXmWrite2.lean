/-
  (*bytes.Buffer).WriteString and Truncate.
-/
import Derived.Test.YtlljphipglgjiaaGreatDoorXmWrite
import Derived.Test.YtlljphipglgjiaaGreatDoorXmGrow2
import Derived.Lib.BufferWrite
namespace Go.Proofs.YtlljphipglgjiaaGreatDoor
open Go.RowKit

theorem Fr.setRow {M : Nat → Prop} {a w : World} (h : Fr M a w) {g : Nat} (hg : M g) (cs : Array Value) : Fr M a (w.setRow g cs) :=
  ⟨h.os, h.tape, h.output, by simpa using h.size, fun i hn => (setRow_other _ _ _ _ (fun e => hn (by rw [e]; exact hg))).trans (h.block i hn)⟩

/-- Behind growing by the length of news, news copied behind what there was: the buffer holds it. -/
theorem BufG.copied {M : Nat → Prop} {w : World} {b o g cap : Nat} {T : TypeId} {cs cur : Array Value} {bs news : List UInt8} {lr : Int}
    (hblk : Blk w b T ((cs.setIfInBounds o (.slice (some ⟨g, 0, none⟩) (bs.length + news.length) cap)).setIfInBounds (o + 2) (.int .i8 lr))) (hs : o + 2 < cs.size) (h1 : cs[o + 1]? = some (.int .i64 0))
    (hg : w.heap[g]? = some (.cells cur 5 (0, 0))) (hl : bs.length + news.length ≤ cap) (hm : cap ≤ maxLen) (hcs : cur.size = cap) (ht : cur.toList.take bs.length = Lib.byteCells bs) (hMg : M g) (hgb : g ≠ b) :
    BufM M (w.setRow g (cur.toList.take bs.length ++ Lib.byteCells news ++ cur.toList.drop (bs.length + news.length)).toArray) b o T cs (bs ++ news) := by
  have hnl : (Lib.byteCells news).length = news.length := Lib.byteCells_length _
  have hbl : (Lib.byteCells bs).length = bs.length := Lib.byteCells_length _
  have hcl : cur.toList.length = cap := by rw [Array.length_toList, hcs]
  refine ⟨.slice (some ⟨g, 0, none⟩) (bs.length + news.length) cap, lr, (setRow_other _ _ _ _ (fun e => hgb e.symm)).trans hblk, hs, h1, ?_, fun g' hg' => by cases hg'; exact ⟨hMg, hgb⟩⟩
  have := BufH.mk (bs := bs ++ news) (setRow_heap w g cur (cur.toList.take bs.length ++ Lib.byteCells news ++ cur.toList.drop (bs.length + news.length)).toArray 5 (0, 0) hg) (cap := cap) (by simpa using hl) hm
    (by simp only [List.size_toArray, List.length_append, List.length_take, hnl, List.length_drop, hcl]; omega)
    (by
      rw [ht, Lib.byteCells_append, List.length_append]
      simp only []
      rw [List.take_append_of_le_length (by rw [List.length_append, hbl, hnl]; exact Nat.le_refl _), List.take_of_length_le (by rw [List.length_append, hbl, hnl]; exact Nat.le_refl _)])
  simpa using this

theorem info5size : (Tryz.prog.info? 5).map (·.size) = some 1 := by kernel_rfl

set_option maxRecDepth 100000 in
set_option maxHeartbeats 2000000 in
theorem buf_WriteString (M : Nat → Prop) (b o : Nat) (T : TypeId) (cs : Array Value) (bs : List UInt8) (s : ByteArray) (w : World) (h : BufM M w b o T cs bs) (hb : M b) (hN : New M w) (hlim : bs.length + s.size ≤ 1000000000) :
    Calls Tryz.prog 190 #[.pointer (some ⟨b, o, none⟩), .string s] w fun e w' => e = .returned (.tuple #[.int .i64 s.size, .nilIface]) ∧ BufM M w' b o T cs (bs ++ s.data.toList) ∧ Fr M w w' := by
  obtain ⟨buf, lr, hblk, hs, h1, hB, hM⟩ := h
  have hsl : s.data.toList.length = s.size := by rw [Array.length_toList]; rfl
  have hf := hblk.frozen
  have c2 := buf_c2 hblk hs
  have HB := Lib.hid hblk
  have H1 := Lib.hid h1
  clear hblk h1
  have hb2 := buf_set2 HB.out 0
  have HB2 := Lib.hid hb2
  have k0 := buf_c0 hb2 hs
  have K0 := Lib.hid k0
  have kf := hb2.frozen
  have KF := Lib.hid kf
  clear hb2 k0 kf
  have hF0 : Fr M w (w.setCell ⟨b, o + 2, none⟩ (.int .i8 0)) := (Fr.refl _ _).setCell hb _
  by_cases hz : s.size = 0
  · have hz' := Lib.hid hz
    have hcp := fun (W : World) (d : Option Addr) (l c : Nat) => Lib.run_copy_empty_string (P := Tryz.prog) W 77 9 3 5 d l c s Tryz.underlying77 (by kernel_rfl) hz
    have hnil : s.data.toList = [] := List.eq_nil_of_length_eq_zero (by omega)
    have HN := Lib.hid hnil
    clear hnil
    have hcp0 : ∀ (W : World) (d : Option Addr) (l c : Nat), (Builtin.copy_ #[77, 9] 3 #[.slice d l c, .string s]).run Tryz.prog W = .ok (.int .i64 0) W := fun W d l c => hcp W d l c
    clear hcp
    rcases hB.cases with ⟨rfl, rfl⟩ | ⟨g, cap, cur, rfl, hg, hl, hm, hcs, ht⟩
    · go_enter Tryz.func190, Tryz.ntmps190
      go_wp2_with fail
      refine (Tryz.Buffer_tryGrow_room_at b o none 0 0 0 _ K0.out (KF.out o) (Nat.le_refl _) (by unfold maxLen; omega) (by omega)).mono ?_
      rintro e w1 ⟨rfl, rfl⟩
      obtain ⟨w2, hw2⟩ : ∃ w2 : World, ((w.setCell ⟨b, o + 2, none⟩ (.int .i8 0)).setCell ⟨b, o, none⟩ (.slice none (0 + 0) 0)) = w2 := ⟨_, rfl⟩
      have hblk : Blk w2 b T ((cs.setIfInBounds o (.slice none 0 0)).setIfInBounds (o + 2) (.int .i8 0)) := by rw [← hw2]; exact buf_set0 HB2.out _
      have hfr : Fr M w w2 := by rw [← hw2]; exact hF0.setCell hb _
      rw [hw2]
      clear hw2
      have c0 := buf_c0 hblk hs
      have HX := Lib.hid hblk
      have HF := Lib.hid hfr
      clear hblk hfr
      go_wp2_with fail
      go_ret2
      refine ⟨by first | rfl | (rw [hz'.out]; rfl), ?_, HF.out⟩
      rw [HN.out]
      exact ⟨_, _, HX.out, hs, H1.out, BufH.nil _, fun g hg => by cases hg⟩
    · obtain ⟨hMg, hgb⟩ := hM g rfl
      have HM := Lib.hid hM
      have HG := Lib.hid hg
      have HC := Lib.hid hcs
      have HT := Lib.hid ht
      clear hM hg hcs ht
      go_enter Tryz.func190, Tryz.ntmps190
      go_wp2_with fail
      refine (Tryz.Buffer_tryGrow_room_at b o _ bs.length cap 0 _ K0.out (KF.out o) hl hm (by omega)).mono ?_
      rintro e w1 ⟨rfl, rfl⟩
      obtain ⟨w2, hw2⟩ : ∃ w2 : World, ((w.setCell ⟨b, o + 2, none⟩ (.int .i8 0)).setCell ⟨b, o, none⟩ (.slice (some ⟨g, 0, none⟩) (bs.length + 0) cap)) = w2 := ⟨_, rfl⟩
      have hblk : Blk w2 b T ((cs.setIfInBounds o (.slice (some ⟨g, 0, none⟩) bs.length cap)).setIfInBounds (o + 2) (.int .i8 0)) := by rw [← hw2]; exact buf_set0 HB2.out _
      have hfr : Fr M w w2 := by rw [← hw2]; exact hF0.setCell hb _
      have hg : w2.heap[g]? = some (.cells cur 5 (0, 0)) := by rw [← hw2]; exact (Below.heap_setCell _ _ _ _ hgb).trans ((Below.heap_setCell _ _ _ _ hgb).trans HG.out)
      rw [hw2]
      clear hw2
      have c0 := buf_c0 hblk hs
      have HX := Lib.hid hblk
      have HF := Lib.hid hfr
      have HG2 := Lib.hid hg
      clear hblk hfr hg
      have hm' := hm
      unfold maxLen at hm'
      go_wp2_with fail
      all_goals go_ret2
      all_goals
        refine ⟨by first | rfl | (rw [hz'.out]; rfl), ?_, HF.out⟩
        rw [HN.out]
        exact ⟨_, _, HX.out, hs, H1.out, by rw [List.append_nil]; exact BufH.mk HG2.out hl hm HC.out HT.out, fun g' hg' => by cases hg'; exact ⟨hMg, hgb⟩⟩
  have hn1 : 1 ≤ s.size := by omega
  clear hz
  rcases hB.cases with ⟨rfl, rfl⟩ | ⟨g, cap, cur, rfl, hg, hl, hm, hcs, ht⟩
  · clear hB hM
    by_cases h64 : s.size ≤ 64
    · go_enter Tryz.func190, Tryz.ntmps190
      go_wp2_with fail
      refine (Tryz.Buffer_tryGrow_none_at b o none 0 0 s.size _ K0.out (Nat.le_refl _) (by unfold maxLen; omega) (by omega)).mono ?_
      rintro e w1 ⟨rfl, rfl⟩
      go_wp2_with fail
      refine (buf_grow_nil_small M b o s.size T cs 0 _ HB2.out hs H1.out hb (hN.setCell _ _) hn1 h64).mono ?_
      rintro e w2 ⟨rfl, ⟨g, cap, cur, lr2, hblk, -, -, hg, hlc, hm, hcs, ht, hMg, hgb⟩, hfr⟩
      have c0 := buf_c0 hblk hs
      have hf2 := hblk.frozen
      have hcp := Lib.run_copy_row_string (P := Tryz.prog) w2 77 9 3 5 g 0 s.size (cap - 0) s cur 5 Tryz.underlying77 info5size hg (Nat.le_refl _) (by (try simp at hlc); omega)
      have hne : ¬ cap = 0 := by (try simp at hlc); omega
      have hcap2 : 0 + s.size ≤ cap := by (try simp at hlc); omega
      have HX := Lib.hid hblk
      have HG := Lib.hid hg
      have HC := Lib.hid hcs
      have HT := Lib.hid ht
      have HF := Lib.hid hfr
      clear hblk hg hcs ht hfr
      try simp only [List.length_nil, Nat.zero_add] at c0
      try simp only [Nat.sub_zero] at hcp
      have hm' := hm
      unfold maxLen at hm'
      go_wp2_with fail
      go_ret2
      have hfin := BufG.copied (bs := []) (news := s.data.toList) (by rw [hsl]; exact HX.out) hs H1.out HG.out (by rw [hsl]; exact hlc) hm HC.out HT.out hMg hgb
      rw [hsl] at hfin
      exact ⟨rfl, by simpa using hfin, (hF0.trans HF.out).setRow hMg _⟩
    · go_enter Tryz.func190, Tryz.ntmps190
      go_wp2_with fail
      refine (Tryz.Buffer_tryGrow_none_at b o none 0 0 s.size _ K0.out (Nat.le_refl _) (by unfold maxLen; omega) (by omega)).mono ?_
      rintro e w1 ⟨rfl, rfl⟩
      go_wp2_with fail
      refine (buf_grow_nil_big M b o s.size T cs 0 _ HB2.out hs H1.out hb (hN.setCell _ _) (by omega) (by simp at hlim; omega)).mono ?_
      rintro e w2 ⟨rfl, ⟨g, cap, cur, lr2, hblk, -, -, hg, hlc, hm, hcs, ht, hMg, hgb⟩, hfr⟩
      have c0 := buf_c0 hblk hs
      have hf2 := hblk.frozen
      have hcp := Lib.run_copy_row_string (P := Tryz.prog) w2 77 9 3 5 g 0 s.size (cap - 0) s cur 5 Tryz.underlying77 info5size hg (Nat.le_refl _) (by (try simp at hlc); omega)
      have hne : ¬ cap = 0 := by (try simp at hlc); omega
      have hcap2 : 0 + s.size ≤ cap := by (try simp at hlc); omega
      have HX := Lib.hid hblk
      have HG := Lib.hid hg
      have HC := Lib.hid hcs
      have HT := Lib.hid ht
      have HF := Lib.hid hfr
      clear hblk hg hcs ht hfr
      try simp only [List.length_nil, Nat.zero_add] at c0
      try simp only [Nat.sub_zero] at hcp
      have hm' := hm
      unfold maxLen at hm'
      go_wp2_with fail
      go_ret2
      have hfin := BufG.copied (bs := []) (news := s.data.toList) (by rw [hsl]; exact HX.out) hs H1.out HG.out (by rw [hsl]; exact hlc) hm HC.out HT.out hMg hgb
      rw [hsl] at hfin
      exact ⟨rfl, by simpa using hfin, (hF0.trans HF.out).setRow hMg _⟩
  · obtain ⟨hMg, hgb⟩ := hM g rfl
    clear hB hM
    have hg2 : (w.setCell ⟨b, o + 2, none⟩ (.int .i8 0)).heap[g]? = some (.cells cur 5 (0, 0)) := (Below.heap_setCell _ _ _ _ hgb).trans hg
    have HG2 := Lib.hid hg2
    have HC2 := Lib.hid hcs
    have HT2 := Lib.hid ht
    clear hg2 hg hcs ht
    by_cases hroom : bs.length + s.size ≤ cap
    · go_enter Tryz.func190, Tryz.ntmps190
      go_wp2_with fail
      refine (Tryz.Buffer_tryGrow_room_at b o _ bs.length cap s.size _ K0.out (KF.out o) hl hm (by omega)).mono ?_
      rintro e w1 ⟨rfl, rfl⟩
      obtain ⟨w2, hw2⟩ : ∃ w2 : World, ((w.setCell ⟨b, o + 2, none⟩ (.int .i8 0)).setCell ⟨b, o, none⟩ (.slice (some ⟨g, 0, none⟩) (bs.length + s.size) cap)) = w2 := ⟨_, rfl⟩
      have hblk : Blk w2 b T ((cs.setIfInBounds o (.slice (some ⟨g, 0, none⟩) (bs.length + s.size) cap)).setIfInBounds (o + 2) (.int .i8 0)) := by rw [← hw2]; exact buf_set0 HB2.out _
      have hg : w2.heap[g]? = some (.cells cur 5 (0, 0)) := by rw [← hw2]; exact (Below.heap_setCell _ _ _ _ hgb).trans HG2.out
      have hfr : Fr M w w2 := by rw [← hw2]; exact hF0.setCell hb _
      have hcs := HC2.out
      have ht := HT2.out
      have hlc := hroom
      rw [hw2]
      clear hw2
      have c0 := buf_c0 hblk hs
      have hf2 := hblk.frozen
      have hcp := Lib.run_copy_row_string (P := Tryz.prog) w2 77 9 3 5 g bs.length s.size (cap - bs.length) s cur 5 Tryz.underlying77 info5size hg (Nat.le_refl _) (by (try simp at hlc); omega)
      have hne : ¬ cap = bs.length := by (try simp at hlc); omega
      have hcap2 : bs.length + s.size ≤ cap := by (try simp at hlc); omega
      have HX := Lib.hid hblk
      have HG := Lib.hid hg
      have HC := Lib.hid hcs
      have HT := Lib.hid ht
      have HF := Lib.hid hfr
      clear hblk hg hcs ht hfr
      try simp only [List.length_nil, Nat.zero_add] at c0
      try simp only [Nat.sub_zero] at hcp
      have hm' := hm
      unfold maxLen at hm'
      go_wp2_with fail
      go_ret2
      have hfin := BufG.copied (bs := bs) (news := s.data.toList) (by rw [hsl]; exact HX.out) hs H1.out HG.out (by rw [hsl]; exact hlc) hm HC.out HT.out hMg hgb
      rw [hsl] at hfin
      exact ⟨rfl, by simpa using hfin, HF.out.setRow hMg _⟩
    · have hr : cap - bs.length < s.size := by omega
      by_cases hl0 : bs = []
      · subst hl0
        simp only [List.length_nil] at hl hr K0 HB2
        go_enter Tryz.func190, Tryz.ntmps190
        go_wp2_with fail
        refine (Tryz.Buffer_tryGrow_none_at b o _ 0 cap s.size _ K0.out hl hm hr).mono ?_
        rintro e w1 ⟨rfl, rfl⟩
        go_wp2_with fail
        refine (buf_grow_row0 M b o s.size g cap T cs 0 cur _ HB2.out hs H1.out HG2.out hl hm HC2.out HT2.out hMg hgb hb (hN.setCell _ _) hn1 hr (by simp at hlim; omega)).mono ?_
        clear hMg hgb hm hl hr
        rintro e w2 ⟨rfl, ⟨g, cap, cur, lr2, hblk, -, -, hg, hlc, hm, hcs, ht, hMg, hgb⟩, hfr⟩
        have c0 := buf_c0 hblk hs
        have hf2 := hblk.frozen
        have hcp := Lib.run_copy_row_string (P := Tryz.prog) w2 77 9 3 5 g 0 s.size (cap - 0) s cur 5 Tryz.underlying77 info5size hg (Nat.le_refl _) (by (try simp at hlc); omega)
        have hne : ¬ cap = 0 := by (try simp at hlc); omega
        have hcap2 : 0 + s.size ≤ cap := by (try simp at hlc); omega
        have HX := Lib.hid hblk
        have HG := Lib.hid hg
        have HC := Lib.hid hcs
        have HT := Lib.hid ht
        have HF := Lib.hid hfr
        clear hblk hg hcs ht hfr
        try simp only [List.length_nil, Nat.zero_add] at c0
        try simp only [Nat.sub_zero] at hcp
        have hm' := hm
        unfold maxLen at hm'
        go_wp2_with fail
        go_ret2
        have hfin := BufG.copied (bs := []) (news := s.data.toList) (by rw [hsl]; exact HX.out) hs H1.out HG.out (by rw [hsl]; exact hlc) hm HC.out HT.out hMg hgb
        rw [hsl] at hfin
        exact ⟨rfl, by simpa using hfin, (hF0.trans HF.out).setRow hMg _⟩
      · have hl1 : 1 ≤ bs.length := by
          rcases Nat.eq_zero_or_pos bs.length with h | h
          · exact absurd (List.eq_nil_of_length_eq_zero h) hl0
          · exact h
        clear hl0
        go_enter Tryz.func190, Tryz.ntmps190
        go_wp2_with fail
        refine (Tryz.Buffer_tryGrow_none_at b o _ bs.length cap s.size _ K0.out hl hm hr).mono ?_
        rintro e w1 ⟨rfl, rfl⟩
        go_wp2_with fail
        refine (buf_grow_row M b o s.size g cap T cs 0 cur bs _ HB2.out hs H1.out HG2.out hl hm HC2.out HT2.out hMg hgb hb (hN.setCell _ _) hn1 hr hlim hl1).mono ?_
        clear hMg hgb hm hl hr
        rintro e w2 ⟨rfl, ⟨g, cap, cur, lr2, hblk, -, -, hg, hlc, hm, hcs, ht, hMg, hgb⟩, hfr⟩
        have c0 := buf_c0 hblk hs
        have hf2 := hblk.frozen
        have hcp := Lib.run_copy_row_string (P := Tryz.prog) w2 77 9 3 5 g bs.length s.size (cap - bs.length) s cur 5 Tryz.underlying77 info5size hg (Nat.le_refl _) (by (try simp at hlc); omega)
        have hne : ¬ cap = bs.length := by (try simp at hlc); omega
        have hcap2 : bs.length + s.size ≤ cap := by (try simp at hlc); omega
        have HX := Lib.hid hblk
        have HG := Lib.hid hg
        have HC := Lib.hid hcs
        have HT := Lib.hid ht
        have HF := Lib.hid hfr
        clear hblk hg hcs ht hfr
        try simp only [List.length_nil, Nat.zero_add] at c0
        try simp only [Nat.sub_zero] at hcp
        have hm' := hm
        unfold maxLen at hm'
        go_wp2_with fail
        go_ret2
        have hfin := BufG.copied (bs := bs) (news := s.data.toList) (by rw [hsl]; exact HX.out) hs H1.out HG.out (by rw [hsl]; exact hlc) hm HC.out HT.out hMg hgb
        rw [hsl] at hfin
        exact ⟨rfl, by simpa using hfin, (hF0.trans HF.out).setRow hMg _⟩



set_option maxRecDepth 100000 in
set_option maxHeartbeats 1000000 in
theorem buf_Truncate (M : Nat → Prop) (b o n : Nat) (T : TypeId) (cs : Array Value) (bs : List UInt8) (w : World) (h : BufM M w b o T cs bs) (hb : M b) (hn : n ≤ bs.length) (hlim : bs.length ≤ 1000000000) :
    Calls Tryz.prog 163 #[.pointer (some ⟨b, o, none⟩), .int .i64 n] w fun e w' => e = .returned (.tuple #[]) ∧ BufM M w' b o T cs (bs.take n) ∧ Fr M w w' := by
  have HH := Lib.hid h
  obtain ⟨buf, lr, hblk, hs, h1, hB, hM⟩ := h
  by_cases hz : n = 0
  · subst hz
    clear hblk hs h1 hB hM
    go_enter Tryz.func163, Tryz.ntmps163
    go_wp2_with fail
    refine (buf_Reset M b o T cs bs _ HH.out hb).mono ?_
    rintro e w1 ⟨rfl, h1, hf1⟩
    have H1 := Lib.hid h1
    have HF := Lib.hid hf1
    clear h1 hf1
    go_wp2_with fail
    refine bodyPost_ret (results_none rfl _ _ _) rfl ?_
    exact ⟨rfl, by simpa using H1.out, HF.out⟩
  · have hz1 : ((n : Int) == 0) = false := by rw [beq_eq_false_iff_ne]; omega
    have hz2 : decide ((n : Int) < 0) = false := by rw [decide_eq_false_iff_not]; omega
    have hn1 : 1 ≤ n := by omega
    have hz3 : decide ((bs.length : Int) < (n : Int)) = false := by rw [decide_eq_false_iff_not]; omega
    clear hz HH
    rcases hB.cases with ⟨rfl, rfl⟩ | ⟨g, cap, cur, rfl, hg, hl, hm, hcs, ht⟩
    · simp at hn; omega
    have hb2 := buf_set2 hblk 0
    have c2 := buf_c2 hblk hs
    have hf := hblk.frozen
    have HBM : Hid (BufM M (w.setCell ⟨b, o + 2, none⟩ (.int .i8 0)) b o T cs bs) := Lib.hid ⟨_, _, hb2, hs, h1, BufH.mk ((Below.heap_setCell _ _ _ _ (hM g rfl).2).trans hg) hl hm hcs ht, hM⟩
    have k0 := buf_c0 hb2 hs
    have k1 := buf_c1 hb2 h1
    have kf := hb2.frozen
    have HB2 := Lib.hid hb2
    have H1 := Lib.hid h1
    have HG := Lib.hid hg
    have HC := Lib.hid hcs
    have HT := Lib.hid ht
    have HM := Lib.hid hM
    have hgb := (hM g rfl).2
    clear hb2 h1 hg hcs ht hM hblk hB
    have hm' := hm
    unfold maxLen at hm'
    go_enter Tryz.func163, Tryz.ntmps163
    go_wp2_with fail
    refine (buf_Len M b o T cs bs _ HBM.out hlim).mono ?_
    rintro e w1 ⟨rfl, k, rfl⟩
    obtain ⟨W, hW⟩ : ∃ W : World, (w.setCell ⟨b, o + 2, none⟩ (.int .i8 0)).drewN k = W := ⟨_, rfl⟩
    have hb3 : Blk W b T ((cs.setIfInBounds o (.slice (some ⟨g, 0, none⟩) bs.length cap)).setIfInBounds (o + 2) (.int .i8 0)) := by rw [← hW]; exact HB2.out
    have hg3 : W.heap[g]? = some (.cells cur 5 (0, 0)) := by rw [← hW]; exact (Below.heap_setCell _ _ _ _ hgb).trans HG.out
    have hfr : Fr M w W := by rw [← hW]; exact ((Fr.refl _ _).setCell hb _).drewN k
    rw [hW]
    clear hW k0 k1 kf
    have k0 := buf_c0 hb3 hs
    have k1 := buf_c1 hb3 H1.out
    have kf := hb3.frozen
    have HB3 := Lib.hid hb3
    have HG3 := Lib.hid hg3
    have HF3 := Lib.hid hfr
    clear hb3 hg3 hfr
    go_wp2_with fail
    have hwn : IntKind.i64.wrap (n : Int) = n := by rw [IntKind.wrap_i64]; omega
    go_region
    go_end0
    have htk : (bs.take n).length = n := by rw [List.length_take]; omega
    refine ⟨rfl, ⟨.slice (some ⟨g, 0, none⟩) n cap, 0, (buf_set0 HB3.out _).drew, hs, H1.out, ?_, fun g' hg' => by cases hg'; exact HM.out g rfl⟩, (HF3.out.setCell hb _).drew⟩
    have := BufH.mk (w := (W.setCell ⟨b, o, none⟩ (.slice (some ⟨g, 0, none⟩) n cap)).drew) (g := g) (cap := cap) (cur := cur) (bs := bs.take n) ((Below.heap_setCell _ _ _ _ hgb).trans HG3.out) (by omega) hm HC.out
      (by rw [htk, show Lib.byteCells (bs.take n) = (Lib.byteCells bs).take n from by simp [Lib.byteCells], ← HT.out, List.take_take, Nat.min_eq_left hn])
    simpa [htk] using this

end Go.Proofs.YtlljphipglgjiaaGreatDoor
