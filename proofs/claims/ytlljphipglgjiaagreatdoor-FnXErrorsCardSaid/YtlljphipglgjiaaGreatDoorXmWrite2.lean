/-
  (*bytes.Buffer).WriteString and Truncate.
  The decoder with the bytes of its buffer: the low functions once more, each with a frame.
  Names: isNameByte, readName.
  unicode.is16 and unicode.Is of a sign of ASCII over a table that leads to a row of R16.
  isName of a name of ASCII.
  name, nsname on the good road.
-/
import Derived.Test.YtlljphipglgjiaaGreatDoorXmWrite
import Derived.Test.YtlljphipglgjiaaGreatDoorXmGrow2
import Derived.Lib.BufferWrite
import Derived.Test.YtlljphipglgjiaaGreatDoorXmLow
import Derived.Deep.LoopGhost
import Derived.Test.YtlljphipglgjiaaGreatDoorXmTab
namespace Go.Proofs.YtlljphipglgjiaaGreatDoor
open Go.RowKit

theorem Fr.setRow {M : Nat → Prop} {a w : World} (h : Fr M a w) {g : Nat} (hg : M g) (cs : Array Value) : Fr M a (w.setRow g cs) :=
  ⟨h.os, h.tape, h.output, by simpa using h.size, fun i hn => (setRow_other _ _ _ _ (fun e => hn (by rw [e]; exact hg))).trans (h.block i hn)⟩

/-- Behind growing by the length of news, news copied behind what there was: the buffer holds it. -/
theorem BufG.copied {M : Nat → Prop} {w : World} {b o g cap : Nat} {T : TypeId} {cs cur : Array Value} {bs news : List UInt8} {lr : Int}
    (hblk : Blk w b T ((cs.setIfInBounds o (.slice (some ⟨g, 0, none⟩) (bs.length + news.length) cap)).setIfInBounds (o + 2) (.int .i8 lr))) (hs : o + 2 < cs.size) (h1 : cs[o + 1]? = some (.int .i64 0))
    (hg : w.heap[g]? = some (.cells cur 5 (0, 0))) (hl : bs.length + news.length ≤ cap) (hm : cap ≤ maxLen) (hcs : cur.size = cap) (ht : cur.toList.take bs.length = Lib.byteCells bs) (hMg : M g) (hgb : g ≠ b) :
    BufM M (w.setRow g (cur.toList.take bs.length ++ Lib.byteCells news ++ cur.toList.drop (bs.length + news.length)).toArray) b o T cs (bs ++ news) := by
  have hnl : (Lib.byteCells news).length = news.length := Lib.byteCells_length _
  have hbl : (Lib.byteCells bs).length = bs.length := Lib.byteCells_length _
  have hcl : cur.toList.length = cap := by rw [Array.length_toList, hcs]
  refine ⟨.slice (some ⟨g, 0, none⟩) (bs.length + news.length) cap, lr, (setRow_other _ _ _ _ (fun e => hgb e.symm)).trans hblk, hs, h1, ?_, fun g' hg' => by cases hg'; exact ⟨hMg, hgb⟩⟩
  have := BufH.mk (bs := bs ++ news) (setRow_heap w g cur (cur.toList.take bs.length ++ Lib.byteCells news ++ cur.toList.drop (bs.length + news.length)).toArray 5 (0, 0) hg) (cap := cap) (by simpa using hl) hm
    (by simp only [List.size_toArray, List.length_append, List.length_take, hnl, List.length_drop, hcl]; omega)
    (by
      rw [ht, Lib.byteCells_append, List.length_append]
      simp only []
      rw [List.take_append_of_le_length (by rw [List.length_append, hbl, hnl]; exact Nat.le_refl _), List.take_of_length_le (by rw [List.length_append, hbl, hnl]; exact Nat.le_refl _)])
  simpa using this

theorem info5size : (Tryz.prog.info? 5).map (·.size) = some 1 := by kernel_rfl

set_option maxRecDepth 100000 in
set_option maxHeartbeats 2000000 in
theorem buf_WriteString (M : Nat → Prop) (b o : Nat) (T : TypeId) (cs : Array Value) (bs : List UInt8) (s : ByteArray) (w : World) (h : BufM M w b o T cs bs) (hb : M b) (hN : New M w) (hlim : bs.length + s.size ≤ 1000000000) :
    Calls Tryz.prog 190 #[.pointer (some ⟨b, o, none⟩), .string s] w fun e w' => e = .returned (.tuple #[.int .i64 s.size, .nilIface]) ∧ BufM M w' b o T cs (bs ++ s.data.toList) ∧ Fr M w w' := by
  obtain ⟨buf, lr, hblk, hs, h1, hB, hM⟩ := h
  have hsl : s.data.toList.length = s.size := by rw [Array.length_toList]; rfl
  have hf := hblk.frozen
  have c2 := buf_c2 hblk hs
  have HB := Lib.hid hblk
  have H1 := Lib.hid h1
  clear hblk h1
  have hb2 := buf_set2 HB.out 0
  have HB2 := Lib.hid hb2
  have k0 := buf_c0 hb2 hs
  have K0 := Lib.hid k0
  have kf := hb2.frozen
  have KF := Lib.hid kf
  clear hb2 k0 kf
  have hF0 : Fr M w (w.setCell ⟨b, o + 2, none⟩ (.int .i8 0)) := (Fr.refl _ _).setCell hb _
  by_cases hz : s.size = 0
  · have hz' := Lib.hid hz
    have hcp := fun (W : World) (d : Option Addr) (l c : Nat) => Lib.run_copy_empty_string (P := Tryz.prog) W 77 9 3 5 d l c s Tryz.underlying77 (by kernel_rfl) hz
    have hnil : s.data.toList = [] := List.eq_nil_of_length_eq_zero (by omega)
    have HN := Lib.hid hnil
    clear hnil
    have hcp0 : ∀ (W : World) (d : Option Addr) (l c : Nat), (Builtin.copy_ #[77, 9] 3 #[.slice d l c, .string s]).run Tryz.prog W = .ok (.int .i64 0) W := fun W d l c => hcp W d l c
    clear hcp
    rcases hB.cases with ⟨rfl, rfl⟩ | ⟨g, cap, cur, rfl, hg, hl, hm, hcs, ht⟩
    · go_enter Tryz.func190, Tryz.ntmps190
      go_wp2_with fail
      refine (Tryz.Buffer_tryGrow_room_at b o none 0 0 0 _ K0.out (KF.out o) (Nat.le_refl _) (by unfold maxLen; omega) (by omega)).mono ?_
      rintro e w1 ⟨rfl, rfl⟩
      obtain ⟨w2, hw2⟩ : ∃ w2 : World, ((w.setCell ⟨b, o + 2, none⟩ (.int .i8 0)).setCell ⟨b, o, none⟩ (.slice none (0 + 0) 0)) = w2 := ⟨_, rfl⟩
      have hblk : Blk w2 b T ((cs.setIfInBounds o (.slice none 0 0)).setIfInBounds (o + 2) (.int .i8 0)) := by rw [← hw2]; exact buf_set0 HB2.out _
      have hfr : Fr M w w2 := by rw [← hw2]; exact hF0.setCell hb _
      rw [hw2]
      clear hw2
      have c0 := buf_c0 hblk hs
      have HX := Lib.hid hblk
      have HF := Lib.hid hfr
      clear hblk hfr
      go_wp2_with fail
      go_ret2
      refine ⟨by first | rfl | (rw [hz'.out]; rfl), ?_, HF.out⟩
      rw [HN.out]
      exact ⟨_, _, HX.out, hs, H1.out, BufH.nil _, fun g hg => by cases hg⟩
    · obtain ⟨hMg, hgb⟩ := hM g rfl
      have HM := Lib.hid hM
      have HG := Lib.hid hg
      have HC := Lib.hid hcs
      have HT := Lib.hid ht
      clear hM hg hcs ht
      go_enter Tryz.func190, Tryz.ntmps190
      go_wp2_with fail
      refine (Tryz.Buffer_tryGrow_room_at b o _ bs.length cap 0 _ K0.out (KF.out o) hl hm (by omega)).mono ?_
      rintro e w1 ⟨rfl, rfl⟩
      obtain ⟨w2, hw2⟩ : ∃ w2 : World, ((w.setCell ⟨b, o + 2, none⟩ (.int .i8 0)).setCell ⟨b, o, none⟩ (.slice (some ⟨g, 0, none⟩) (bs.length + 0) cap)) = w2 := ⟨_, rfl⟩
      have hblk : Blk w2 b T ((cs.setIfInBounds o (.slice (some ⟨g, 0, none⟩) bs.length cap)).setIfInBounds (o + 2) (.int .i8 0)) := by rw [← hw2]; exact buf_set0 HB2.out _
      have hfr : Fr M w w2 := by rw [← hw2]; exact hF0.setCell hb _
      have hg : w2.heap[g]? = some (.cells cur 5 (0, 0)) := by rw [← hw2]; exact (Below.heap_setCell _ _ _ _ hgb).trans ((Below.heap_setCell _ _ _ _ hgb).trans HG.out)
      rw [hw2]
      clear hw2
      have c0 := buf_c0 hblk hs
      have HX := Lib.hid hblk
      have HF := Lib.hid hfr
      have HG2 := Lib.hid hg
      clear hblk hfr hg
      have hm' := hm
      unfold maxLen at hm'
      go_wp2_with fail
      all_goals go_ret2
      all_goals
        refine ⟨by first | rfl | (rw [hz'.out]; rfl), ?_, HF.out⟩
        rw [HN.out]
        exact ⟨_, _, HX.out, hs, H1.out, by rw [List.append_nil]; exact BufH.mk HG2.out hl hm HC.out HT.out, fun g' hg' => by cases hg'; exact ⟨hMg, hgb⟩⟩
  have hn1 : 1 ≤ s.size := by omega
  clear hz
  rcases hB.cases with ⟨rfl, rfl⟩ | ⟨g, cap, cur, rfl, hg, hl, hm, hcs, ht⟩
  · clear hB hM
    by_cases h64 : s.size ≤ 64
    · go_enter Tryz.func190, Tryz.ntmps190
      go_wp2_with fail
      refine (Tryz.Buffer_tryGrow_none_at b o none 0 0 s.size _ K0.out (Nat.le_refl _) (by unfold maxLen; omega) (by omega)).mono ?_
      rintro e w1 ⟨rfl, rfl⟩
      go_wp2_with fail
      refine (buf_grow_nil_small M b o s.size T cs 0 _ HB2.out hs H1.out hb (hN.setCell _ _) hn1 h64).mono ?_
      rintro e w2 ⟨rfl, ⟨g, cap, cur, lr2, hblk, -, -, hg, hlc, hm, hcs, ht, hMg, hgb⟩, hfr⟩
      have c0 := buf_c0 hblk hs
      have hf2 := hblk.frozen
      have hcp := Lib.run_copy_row_string (P := Tryz.prog) w2 77 9 3 5 g 0 s.size (cap - 0) s cur 5 Tryz.underlying77 info5size hg (Nat.le_refl _) (by (try simp at hlc); omega)
      have hne : ¬ cap = 0 := by (try simp at hlc); omega
      have hcap2 : 0 + s.size ≤ cap := by (try simp at hlc); omega
      have HX := Lib.hid hblk
      have HG := Lib.hid hg
      have HC := Lib.hid hcs
      have HT := Lib.hid ht
      have HF := Lib.hid hfr
      clear hblk hg hcs ht hfr
      try simp only [List.length_nil, Nat.zero_add] at c0
      try simp only [Nat.sub_zero] at hcp
      have hm' := hm
      unfold maxLen at hm'
      go_wp2_with fail
      go_ret2
      have hfin := BufG.copied (bs := []) (news := s.data.toList) (by rw [hsl]; exact HX.out) hs H1.out HG.out (by rw [hsl]; exact hlc) hm HC.out HT.out hMg hgb
      rw [hsl] at hfin
      exact ⟨rfl, by simpa using hfin, (hF0.trans HF.out).setRow hMg _⟩
    · go_enter Tryz.func190, Tryz.ntmps190
      go_wp2_with fail
      refine (Tryz.Buffer_tryGrow_none_at b o none 0 0 s.size _ K0.out (Nat.le_refl _) (by unfold maxLen; omega) (by omega)).mono ?_
      rintro e w1 ⟨rfl, rfl⟩
      go_wp2_with fail
      refine (buf_grow_nil_big M b o s.size T cs 0 _ HB2.out hs H1.out hb (hN.setCell _ _) (by omega) (by simp at hlim; omega)).mono ?_
      rintro e w2 ⟨rfl, ⟨g, cap, cur, lr2, hblk, -, -, hg, hlc, hm, hcs, ht, hMg, hgb⟩, hfr⟩
      have c0 := buf_c0 hblk hs
      have hf2 := hblk.frozen
      have hcp := Lib.run_copy_row_string (P := Tryz.prog) w2 77 9 3 5 g 0 s.size (cap - 0) s cur 5 Tryz.underlying77 info5size hg (Nat.le_refl _) (by (try simp at hlc); omega)
      have hne : ¬ cap = 0 := by (try simp at hlc); omega
      have hcap2 : 0 + s.size ≤ cap := by (try simp at hlc); omega
      have HX := Lib.hid hblk
      have HG := Lib.hid hg
      have HC := Lib.hid hcs
      have HT := Lib.hid ht
      have HF := Lib.hid hfr
      clear hblk hg hcs ht hfr
      try simp only [List.length_nil, Nat.zero_add] at c0
      try simp only [Nat.sub_zero] at hcp
      have hm' := hm
      unfold maxLen at hm'
      go_wp2_with fail
      go_ret2
      have hfin := BufG.copied (bs := []) (news := s.data.toList) (by rw [hsl]; exact HX.out) hs H1.out HG.out (by rw [hsl]; exact hlc) hm HC.out HT.out hMg hgb
      rw [hsl] at hfin
      exact ⟨rfl, by simpa using hfin, (hF0.trans HF.out).setRow hMg _⟩
  · obtain ⟨hMg, hgb⟩ := hM g rfl
    clear hB hM
    have hg2 : (w.setCell ⟨b, o + 2, none⟩ (.int .i8 0)).heap[g]? = some (.cells cur 5 (0, 0)) := (Below.heap_setCell _ _ _ _ hgb).trans hg
    have HG2 := Lib.hid hg2
    have HC2 := Lib.hid hcs
    have HT2 := Lib.hid ht
    clear hg2 hg hcs ht
    by_cases hroom : bs.length + s.size ≤ cap
    · go_enter Tryz.func190, Tryz.ntmps190
      go_wp2_with fail
      refine (Tryz.Buffer_tryGrow_room_at b o _ bs.length cap s.size _ K0.out (KF.out o) hl hm (by omega)).mono ?_
      rintro e w1 ⟨rfl, rfl⟩
      obtain ⟨w2, hw2⟩ : ∃ w2 : World, ((w.setCell ⟨b, o + 2, none⟩ (.int .i8 0)).setCell ⟨b, o, none⟩ (.slice (some ⟨g, 0, none⟩) (bs.length + s.size) cap)) = w2 := ⟨_, rfl⟩
      have hblk : Blk w2 b T ((cs.setIfInBounds o (.slice (some ⟨g, 0, none⟩) (bs.length + s.size) cap)).setIfInBounds (o + 2) (.int .i8 0)) := by rw [← hw2]; exact buf_set0 HB2.out _
      have hg : w2.heap[g]? = some (.cells cur 5 (0, 0)) := by rw [← hw2]; exact (Below.heap_setCell _ _ _ _ hgb).trans HG2.out
      have hfr : Fr M w w2 := by rw [← hw2]; exact hF0.setCell hb _
      have hcs := HC2.out
      have ht := HT2.out
      have hlc := hroom
      rw [hw2]
      clear hw2
      have c0 := buf_c0 hblk hs
      have hf2 := hblk.frozen
      have hcp := Lib.run_copy_row_string (P := Tryz.prog) w2 77 9 3 5 g bs.length s.size (cap - bs.length) s cur 5 Tryz.underlying77 info5size hg (Nat.le_refl _) (by (try simp at hlc); omega)
      have hne : ¬ cap = bs.length := by (try simp at hlc); omega
      have hcap2 : bs.length + s.size ≤ cap := by (try simp at hlc); omega
      have HX := Lib.hid hblk
      have HG := Lib.hid hg
      have HC := Lib.hid hcs
      have HT := Lib.hid ht
      have HF := Lib.hid hfr
      clear hblk hg hcs ht hfr
      try simp only [List.length_nil, Nat.zero_add] at c0
      try simp only [Nat.sub_zero] at hcp
      have hm' := hm
      unfold maxLen at hm'
      go_wp2_with fail
      go_ret2
      have hfin := BufG.copied (bs := bs) (news := s.data.toList) (by rw [hsl]; exact HX.out) hs H1.out HG.out (by rw [hsl]; exact hlc) hm HC.out HT.out hMg hgb
      rw [hsl] at hfin
      exact ⟨rfl, by simpa using hfin, HF.out.setRow hMg _⟩
    · have hr : cap - bs.length < s.size := by omega
      by_cases hl0 : bs = []
      · subst hl0
        simp only [List.length_nil] at hl hr K0 HB2
        go_enter Tryz.func190, Tryz.ntmps190
        go_wp2_with fail
        refine (Tryz.Buffer_tryGrow_none_at b o _ 0 cap s.size _ K0.out hl hm hr).mono ?_
        rintro e w1 ⟨rfl, rfl⟩
        go_wp2_with fail
        refine (buf_grow_row0 M b o s.size g cap T cs 0 cur _ HB2.out hs H1.out HG2.out hl hm HC2.out HT2.out hMg hgb hb (hN.setCell _ _) hn1 hr (by simp at hlim; omega)).mono ?_
        clear hMg hgb hm hl hr
        rintro e w2 ⟨rfl, ⟨g, cap, cur, lr2, hblk, -, -, hg, hlc, hm, hcs, ht, hMg, hgb⟩, hfr⟩
        have c0 := buf_c0 hblk hs
        have hf2 := hblk.frozen
        have hcp := Lib.run_copy_row_string (P := Tryz.prog) w2 77 9 3 5 g 0 s.size (cap - 0) s cur 5 Tryz.underlying77 info5size hg (Nat.le_refl _) (by (try simp at hlc); omega)
        have hne : ¬ cap = 0 := by (try simp at hlc); omega
        have hcap2 : 0 + s.size ≤ cap := by (try simp at hlc); omega
        have HX := Lib.hid hblk
        have HG := Lib.hid hg
        have HC := Lib.hid hcs
        have HT := Lib.hid ht
        have HF := Lib.hid hfr
        clear hblk hg hcs ht hfr
        try simp only [List.length_nil, Nat.zero_add] at c0
        try simp only [Nat.sub_zero] at hcp
        have hm' := hm
        unfold maxLen at hm'
        go_wp2_with fail
        go_ret2
        have hfin := BufG.copied (bs := []) (news := s.data.toList) (by rw [hsl]; exact HX.out) hs H1.out HG.out (by rw [hsl]; exact hlc) hm HC.out HT.out hMg hgb
        rw [hsl] at hfin
        exact ⟨rfl, by simpa using hfin, (hF0.trans HF.out).setRow hMg _⟩
      · have hl1 : 1 ≤ bs.length := by
          rcases Nat.eq_zero_or_pos bs.length with h | h
          · exact absurd (List.eq_nil_of_length_eq_zero h) hl0
          · exact h
        clear hl0
        go_enter Tryz.func190, Tryz.ntmps190
        go_wp2_with fail
        refine (Tryz.Buffer_tryGrow_none_at b o _ bs.length cap s.size _ K0.out hl hm hr).mono ?_
        rintro e w1 ⟨rfl, rfl⟩
        go_wp2_with fail
        refine (buf_grow_row M b o s.size g cap T cs 0 cur bs _ HB2.out hs H1.out HG2.out hl hm HC2.out HT2.out hMg hgb hb (hN.setCell _ _) hn1 hr hlim hl1).mono ?_
        clear hMg hgb hm hl hr
        rintro e w2 ⟨rfl, ⟨g, cap, cur, lr2, hblk, -, -, hg, hlc, hm, hcs, ht, hMg, hgb⟩, hfr⟩
        have c0 := buf_c0 hblk hs
        have hf2 := hblk.frozen
        have hcp := Lib.run_copy_row_string (P := Tryz.prog) w2 77 9 3 5 g bs.length s.size (cap - bs.length) s cur 5 Tryz.underlying77 info5size hg (Nat.le_refl _) (by (try simp at hlc); omega)
        have hne : ¬ cap = bs.length := by (try simp at hlc); omega
        have hcap2 : bs.length + s.size ≤ cap := by (try simp at hlc); omega
        have HX := Lib.hid hblk
        have HG := Lib.hid hg
        have HC := Lib.hid hcs
        have HT := Lib.hid ht
        have HF := Lib.hid hfr
        clear hblk hg hcs ht hfr
        try simp only [List.length_nil, Nat.zero_add] at c0
        try simp only [Nat.sub_zero] at hcp
        have hm' := hm
        unfold maxLen at hm'
        go_wp2_with fail
        go_ret2
        have hfin := BufG.copied (bs := bs) (news := s.data.toList) (by rw [hsl]; exact HX.out) hs H1.out HG.out (by rw [hsl]; exact hlc) hm HC.out HT.out hMg hgb
        rw [hsl] at hfin
        exact ⟨rfl, by simpa using hfin, (hF0.trans HF.out).setRow hMg _⟩



set_option maxRecDepth 100000 in
set_option maxHeartbeats 1000000 in
theorem buf_Truncate (M : Nat → Prop) (b o n : Nat) (T : TypeId) (cs : Array Value) (bs : List UInt8) (w : World) (h : BufM M w b o T cs bs) (hb : M b) (hn : n ≤ bs.length) (hlim : bs.length ≤ 1000000000) :
    Calls Tryz.prog 163 #[.pointer (some ⟨b, o, none⟩), .int .i64 n] w fun e w' => e = .returned (.tuple #[]) ∧ BufM M w' b o T cs (bs.take n) ∧ Fr M w w' := by
  have HH := Lib.hid h
  obtain ⟨buf, lr, hblk, hs, h1, hB, hM⟩ := h
  by_cases hz : n = 0
  · subst hz
    clear hblk hs h1 hB hM
    go_enter Tryz.func163, Tryz.ntmps163
    go_wp2_with fail
    refine (buf_Reset M b o T cs bs _ HH.out hb).mono ?_
    rintro e w1 ⟨rfl, h1, hf1⟩
    have H1 := Lib.hid h1
    have HF := Lib.hid hf1
    clear h1 hf1
    go_wp2_with fail
    refine bodyPost_ret (results_none rfl _ _ _) rfl ?_
    exact ⟨rfl, by simpa using H1.out, HF.out⟩
  · have hz1 : ((n : Int) == 0) = false := by rw [beq_eq_false_iff_ne]; omega
    have hz2 : decide ((n : Int) < 0) = false := by rw [decide_eq_false_iff_not]; omega
    have hn1 : 1 ≤ n := by omega
    have hz3 : decide ((bs.length : Int) < (n : Int)) = false := by rw [decide_eq_false_iff_not]; omega
    clear hz HH
    rcases hB.cases with ⟨rfl, rfl⟩ | ⟨g, cap, cur, rfl, hg, hl, hm, hcs, ht⟩
    · simp at hn; omega
    have hb2 := buf_set2 hblk 0
    have c2 := buf_c2 hblk hs
    have hf := hblk.frozen
    have HBM : Hid (BufM M (w.setCell ⟨b, o + 2, none⟩ (.int .i8 0)) b o T cs bs) := Lib.hid ⟨_, _, hb2, hs, h1, BufH.mk ((Below.heap_setCell _ _ _ _ (hM g rfl).2).trans hg) hl hm hcs ht, hM⟩
    have k0 := buf_c0 hb2 hs
    have k1 := buf_c1 hb2 h1
    have kf := hb2.frozen
    have HB2 := Lib.hid hb2
    have H1 := Lib.hid h1
    have HG := Lib.hid hg
    have HC := Lib.hid hcs
    have HT := Lib.hid ht
    have HM := Lib.hid hM
    have hgb := (hM g rfl).2
    clear hb2 h1 hg hcs ht hM hblk hB
    have hm' := hm
    unfold maxLen at hm'
    go_enter Tryz.func163, Tryz.ntmps163
    go_wp2_with fail
    refine (buf_Len M b o T cs bs _ HBM.out hlim).mono ?_
    rintro e w1 ⟨rfl, k, rfl⟩
    obtain ⟨W, hW⟩ : ∃ W : World, (w.setCell ⟨b, o + 2, none⟩ (.int .i8 0)).drewN k = W := ⟨_, rfl⟩
    have hb3 : Blk W b T ((cs.setIfInBounds o (.slice (some ⟨g, 0, none⟩) bs.length cap)).setIfInBounds (o + 2) (.int .i8 0)) := by rw [← hW]; exact HB2.out
    have hg3 : W.heap[g]? = some (.cells cur 5 (0, 0)) := by rw [← hW]; exact (Below.heap_setCell _ _ _ _ hgb).trans HG.out
    have hfr : Fr M w W := by rw [← hW]; exact ((Fr.refl _ _).setCell hb _).drewN k
    rw [hW]
    clear hW k0 k1 kf
    have k0 := buf_c0 hb3 hs
    have k1 := buf_c1 hb3 H1.out
    have kf := hb3.frozen
    have HB3 := Lib.hid hb3
    have HG3 := Lib.hid hg3
    have HF3 := Lib.hid hfr
    clear hb3 hg3 hfr
    go_wp2_with fail
    have hwn : IntKind.i64.wrap (n : Int) = n := by rw [IntKind.wrap_i64]; omega
    go_region
    go_end0
    have htk : (bs.take n).length = n := by rw [List.length_take]; omega
    refine ⟨rfl, ⟨.slice (some ⟨g, 0, none⟩) n cap, 0, (buf_set0 HB3.out _).drew, hs, H1.out, ?_, fun g' hg' => by cases hg'; exact HM.out g rfl⟩, (HF3.out.setCell hb _).drew⟩
    have := BufH.mk (w := (W.setCell ⟨b, o, none⟩ (.slice (some ⟨g, 0, none⟩) n cap)).drew) (g := g) (cap := cap) (cur := cur) (bs := bs.take n) ((Below.heap_setCell _ _ _ _ hgb).trans HG3.out) (by omega) hm HC.out
      (by rw [htk, show Lib.byteCells (bs.take n) = (Lib.byteCells bs).take n from by simp [Lib.byteCells], ← HT.out, List.take_take, Nat.min_eq_left hn])
    simpa [htk] using this

end Go.Proofs.YtlljphipglgjiaaGreatDoor

namespace Go.Proofs.YtlljphipglgjiaaGreatDoor
open Go.RowKit

/-- The decoder stands at place i of s; its buffer holds bs. M: the blocks that may turn (among them the decoder's, and all that are yet to come). -/
def LowB (M : Nat → Prop) (w : World) (L : LS) (s : ByteArray) (i : Nat) (f : Bool) (bs : List UInt8) : Prop :=
  M L.p ∧ M L.rb ∧ New M w ∧ s.size ≤ 1000000 ∧ bs.length ≤ 5000000 ∧ ∃ (buf : Value), Low w L s i f buf ∧ BufH w buf bs ∧ ∀ g, buf.ownBlock = some g → M g ∧ g ≠ L.p

section
variable {M : Nat → Prop} {w w' : World} {L : LS} {s : ByteArray} {i : Nat} {f : Bool} {bs : List UInt8}

theorem BufH.keep {buf : Value} (h : BufH w buf bs) (hk : ∀ g, buf.ownBlock = some g → ∀ cur, w.heap[g]? = some (.cells cur 5 (0, 0)) → w'.heap[g]? = some (.cells cur 5 (0, 0))) : BufH w' buf bs := by
  rcases h.cases with ⟨rfl, rfl⟩ | ⟨g, cap, cur, rfl, hg, hl, hm, hcs, ht⟩
  · exact BufH.nil _
  · exact BufH.mk (hk g rfl cur hg) hl hm hcs ht

theorem LowB.le (h : LowB M w L s i f bs) : i ≤ s.size := by obtain ⟨_, _, _, _, _, _, h, _⟩ := h; exact h.le

/-- Behind a step that turns the decoder's and the reader's block alone. -/
theorem LowB.step {j : Nat} {f' : Bool} {buf : Value} (hMp : M L.p) (hMr : M L.rb) (hN : New M w) (hs : s.size ≤ 1000000) (hbl : bs.length ≤ 5000000) (h0 : Low w L s i f buf) (h : Low w' L s j f' buf) (hB : BufH w buf bs)
    (hM : ∀ g, buf.ownBlock = some g → M g ∧ g ≠ L.p) (hf : Fr (fun k => k = L.p ∨ k = L.rb) w w') : LowB M w' L s j f' bs ∧ Fr M w w' := by
  have hf' : Fr M w w' := hf.mono fun x hx => by rcases hx with rfl | rfl <;> assumption
  refine ⟨⟨hMp, hMr, hN.fr hf, hs, hbl, buf, h, hB.keep fun g hg cur hcur => ?_, hM⟩, hf'⟩
  refine hf.heap hcur ?_
  rintro (rfl | rfl)
  · exact (hM _ hg).2 rfl
  · obtain ⟨_, _, _, _, _, _, _, _, hr, _⟩ := h0
    have hcur' : Blk w L.rb 5 cur := hcur
    exact hr.ne hcur' (by decide) rfl

theorem LowB.toM (h : LowB M w L s i f bs) : ∃ (nb : Int) (ri : Nat) (pr line ls off : Int), BufM M w L.p 10 197 (lcells L (.slice none 0 0) 0 nb line ls off) bs ∧ Blk w L.rb 190 #[.string s, .int .i64 ri, .int .i64 pr] ∧ Cur s i f nb ri := by
  obtain ⟨_, _, _, _, _, buf, ⟨lr, nb, ri, pr, line, ls, off, h1, h2, h3⟩, hB, hM⟩ := h
  exact ⟨nb, ri, pr, line, ls, off, ⟨buf, lr, h1.eq rfl, by show 12 < 21; decide, rfl, hB, hM⟩, h2, h3⟩

theorem LowB.ofM {nb : Int} {ri : Nat} {pr line ls off : Int} (hMp : M L.p) (hMr : M L.rb) (hN : New M w) (hs : s.size ≤ 1000000) (hbl : bs.length ≤ 5000000) (h : BufM M w L.p 10 197 (lcells L (.slice none 0 0) 0 nb line ls off) bs)
    (h2 : Blk w L.rb 190 #[.string s, .int .i64 ri, .int .i64 pr]) (h3 : Cur s i f nb ri) : LowB M w L s i f bs := by
  obtain ⟨buf, lr, hb, -, -, hB, hM⟩ := h
  exact ⟨hMp, hMr, hN, hs, hbl, buf, ⟨lr, nb, ri, pr, line, ls, off, hb.eq rfl, h2, h3⟩, hB, hM⟩

/-- A change of the buffer leaves the reader where it is: its block is neither the decoder's nor a row of bytes; a buffer's step writes those alone. -/
theorem getcB (h : LowB M w L s i f bs) (hi : i < s.size) :
    Calls Tryz.prog 151 #[.pointer (some ⟨L.p, 0, none⟩)] w fun e w' => e = .returned (.tuple #[.int .u8 (s[i]).toNat, .bool true]) ∧ LowB M w' L s (i + 1) true bs ∧ Fr M w w' := by
  obtain ⟨hMp, hMr, hN, hs, hbl, buf, hL, hB, hM⟩ := h
  refine (getc_low L s i f buf w hL hs hi).mono ?_
  rintro e w' ⟨he, h1, hf⟩
  exact ⟨he, LowB.step hMp hMr hN hs hbl hL h1 hB hM hf⟩
theorem mustgetcB (h : LowB M w L s i f bs) (hi : i < s.size) :
    Calls Tryz.prog 154 #[.pointer (some ⟨L.p, 0, none⟩)] w fun e w' => e = .returned (.tuple #[.int .u8 (s[i]).toNat, .bool true]) ∧ LowB M w' L s (i + 1) true bs ∧ Fr M w w' := by
  obtain ⟨hMp, hMr, hN, hs, hbl, buf, hL, hB, hM⟩ := h
  refine (mustgetc_low L s i f buf w hL hs hi).mono ?_
  rintro e w' ⟨he, h1, hf⟩
  exact ⟨he, LowB.step hMp hMr hN hs hbl hL h1 hB hM hf⟩
theorem ungetcB (h : LowB M w L s (i + 1) true bs) (hi : i < s.size) :
    Calls Tryz.prog 152 #[.pointer (some ⟨L.p, 0, none⟩), .int .u8 (s[i]).toNat] w fun e w' => e = .returned (.tuple #[]) ∧ LowB M w' L s i false bs ∧ Fr M w w' := by
  obtain ⟨hMp, hMr, hN, hs, hbl, buf, hL, hB, hM⟩ := h
  refine (ungetc_low L s i buf w hi hL).mono ?_
  rintro e w' ⟨he, h1, hf⟩
  exact ⟨he, LowB.step hMp hMr hN hs hbl hL h1 hB hM hf⟩
theorem spaceB (j : Nat) (h : LowB M w L s i f bs) (hij : i ≤ j) (hj : j < s.size) (hbl : ∀ k (hk : k < s.size), i ≤ k → k < j → Blank s[k]) (hnb : ¬ Blank s[j]) :
    Calls Tryz.prog 156 #[.pointer (some ⟨L.p, 0, none⟩)] w fun e w' => e = .returned (.tuple #[]) ∧ LowB M w' L s j false bs ∧ Fr M w w' := by
  obtain ⟨hMp, hMr, hN, hs, hbl', buf, hL, hB, hM⟩ := h
  refine (space_low L s i j f buf w hL hs hij hj hbl hnb).mono ?_
  rintro e w' ⟨he, h1, hf⟩
  exact ⟨he, LowB.step hMp hMr hN hs hbl' hL h1 hB hM hf⟩
end

section
variable {M : Nat → Prop} {w : World} {L : LS} {s : ByteArray} {i : Nat} {f : Bool} {bs : List UInt8}

theorem LowB.parts (h : LowB M w L s i f bs) : M L.p ∧ M L.rb ∧ New M w ∧ s.size ≤ 1000000 ∧ bs.length ≤ 5000000 := ⟨h.1, h.2.1, h.2.2.1, h.2.2.2.1, h.2.2.2.2.1⟩

/-- The buffer's own blocks: the decoder's and rows that are not the reader's: a step framed by them keeps the reader. -/
theorem buf_Mr {nb : Int} {ri : Nat} {pr line ls off : Int} (h : BufM M w L.p 10 197 (lcells L (.slice none 0 0) 0 nb line ls off) bs) (h2 : Blk w L.rb 190 #[.string s, .int .i64 ri, .int .i64 pr]) :
    BufM (fun k => M k ∧ k ≠ L.rb) w L.p 10 197 (lcells L (.slice none 0 0) 0 nb line ls off) bs := by
  obtain ⟨buf, lr, hb, hs, h1, hB, hM⟩ := h
  refine ⟨buf, lr, hb, hs, h1, hB, fun g hg => ⟨⟨(hM g hg).1, ?_⟩, (hM g hg).2⟩⟩
  rintro rfl
  rcases hB.cases with ⟨rfl, rfl⟩ | ⟨g, cap, cur, rfl, hg2, hl, hm, hcs, ht⟩
  · cases hg
  · have e : g = L.rb := by simpa [Value.ownBlock] using hg
    subst e
    have hcur' : Blk w L.rb 5 cur := hg2
    exact h2.ne hcur' (by decide) rfl
theorem ResetB (h : LowB M w L s i f bs) :
    Calls Tryz.prog 158 #[.pointer (some ⟨L.p, 10, none⟩)] w fun e w' => e = .returned (.tuple #[]) ∧ LowB M w' L s i f [] ∧ Fr M w w' := by
  obtain ⟨hMp, hMr, hN, hs, hbl⟩ := h.parts
  obtain ⟨nb, ri, pr, line, ls, off, hb, h2, h3⟩ := h.toM
  have hne : L.p ≠ L.rb := by obtain ⟨_, _, _, _, _, _, hL, _⟩ := h; exact hL.ne
  have hN' : New (fun k => M k ∧ k ≠ L.rb) w := fun k hk => ⟨hN k hk, by have := h2.lt; omega⟩
  refine (buf_Reset (fun k => M k ∧ k ≠ L.rb) L.p 10 197 _ bs w (buf_Mr hb h2) ⟨hMp, hne⟩).mono ?_
  rintro e w' ⟨he, h1, hf⟩
  have hf' : Fr M w w' := hf.mono fun x hx => hx.1
  obtain ⟨buf, lr, q1, q2, q3, q4, q5⟩ := h1
  exact ⟨he, LowB.ofM hMp hMr (hN.fr hf') hs (by simp) ⟨buf, lr, q1, q2, q3, q4, fun g hg => ⟨(q5 g hg).1.1, (q5 g hg).2⟩⟩ (h2.fr hf fun hx => hx.2 rfl) h3, hf'⟩

theorem WriteByteB (c : UInt8) (h : LowB M w L s i f bs) (hlim : bs.length + 1 ≤ 5000000) :
    Calls Tryz.prog 159 #[.pointer (some ⟨L.p, 10, none⟩), .int .u8 c.toNat] w fun e w' => e = .returned .nilIface ∧ LowB M w' L s i f (bs ++ [c]) ∧ Fr M w w' := by
  obtain ⟨hMp, hMr, hN, hs, hbl⟩ := h.parts
  obtain ⟨nb, ri, pr, line, ls, off, hb, h2, h3⟩ := h.toM
  have hne : L.p ≠ L.rb := by obtain ⟨_, _, _, _, _, _, hL, _⟩ := h; exact hL.ne
  have hN' : New (fun k => M k ∧ k ≠ L.rb) w := fun k hk => ⟨hN k hk, by have := h2.lt; omega⟩
  refine (buf_WriteByte (fun k => M k ∧ k ≠ L.rb) L.p 10 197 _ bs c w (buf_Mr hb h2) ⟨hMp, hne⟩ hN' (by omega)).mono ?_
  rintro e w' ⟨he, h1, hf⟩
  have hf' : Fr M w w' := hf.mono fun x hx => hx.1
  obtain ⟨buf, lr, q1, q2, q3, q4, q5⟩ := h1
  exact ⟨he, LowB.ofM hMp hMr (hN.fr hf') hs (by simpa using hlim) ⟨buf, lr, q1, q2, q3, q4, fun g hg => ⟨(q5 g hg).1.1, (q5 g hg).2⟩⟩ (h2.fr hf fun hx => hx.2 rfl) h3, hf'⟩

theorem WriteStringB (t : ByteArray) (h : LowB M w L s i f bs) (hlim : bs.length + t.size ≤ 5000000) :
    Calls Tryz.prog 190 #[.pointer (some ⟨L.p, 10, none⟩), .string t] w fun e w' => e = .returned (.tuple #[.int .i64 t.size, .nilIface]) ∧ LowB M w' L s i f (bs ++ t.data.toList) ∧ Fr M w w' := by
  obtain ⟨hMp, hMr, hN, hs, hbl⟩ := h.parts
  obtain ⟨nb, ri, pr, line, ls, off, hb, h2, h3⟩ := h.toM
  have hne : L.p ≠ L.rb := by obtain ⟨_, _, _, _, _, _, hL, _⟩ := h; exact hL.ne
  have hN' : New (fun k => M k ∧ k ≠ L.rb) w := fun k hk => ⟨hN k hk, by have := h2.lt; omega⟩
  refine (buf_WriteString (fun k => M k ∧ k ≠ L.rb) L.p 10 197 _ bs t w (buf_Mr hb h2) ⟨hMp, hne⟩ hN' (by omega)).mono ?_
  rintro e w' ⟨he, h1, hf⟩
  have hf' : Fr M w w' := hf.mono fun x hx => hx.1
  obtain ⟨buf, lr, q1, q2, q3, q4, q5⟩ := h1
  have hlen : (bs ++ t.data.toList).length ≤ 5000000 := by
    have e : t.data.toList.length = t.size := by rw [Array.length_toList]; rfl
    rw [List.length_append]; omega
  exact ⟨he, LowB.ofM hMp hMr (hN.fr hf') hs hlen ⟨buf, lr, q1, q2, q3, q4, fun g hg => ⟨(q5 g hg).1.1, (q5 g hg).2⟩⟩ (h2.fr hf fun hx => hx.2 rfl) h3, hf'⟩

theorem TruncateB (n : Nat) (h : LowB M w L s i f bs) (hn : n ≤ bs.length) :
    Calls Tryz.prog 163 #[.pointer (some ⟨L.p, 10, none⟩), .int .i64 n] w fun e w' => e = .returned (.tuple #[]) ∧ LowB M w' L s i f (bs.take n) ∧ Fr M w w' := by
  obtain ⟨hMp, hMr, hN, hs, hbl⟩ := h.parts
  obtain ⟨nb, ri, pr, line, ls, off, hb, h2, h3⟩ := h.toM
  have hne : L.p ≠ L.rb := by obtain ⟨_, _, _, _, _, _, hL, _⟩ := h; exact hL.ne
  have hN' : New (fun k => M k ∧ k ≠ L.rb) w := fun k hk => ⟨hN k hk, by have := h2.lt; omega⟩
  refine (buf_Truncate (fun k => M k ∧ k ≠ L.rb) L.p 10 n 197 _ bs w (buf_Mr hb h2) ⟨hMp, hne⟩ hn (by omega)).mono ?_
  rintro e w' ⟨he, h1, hf⟩
  have hf' : Fr M w w' := hf.mono fun x hx => hx.1
  obtain ⟨buf, lr, q1, q2, q3, q4, q5⟩ := h1
  exact ⟨he, LowB.ofM hMp hMr (hN.fr hf') hs (by rw [List.length_take]; omega) ⟨buf, lr, q1, q2, q3, q4, fun g hg => ⟨(q5 g hg).1.1, (q5 g hg).2⟩⟩ (h2.fr hf fun hx => hx.2 rfl) h3, hf'⟩

theorem LenB (h : LowB M w L s i f bs) :
    Calls Tryz.prog 164 #[.pointer (some ⟨L.p, 10, none⟩)] w fun e w' => e = .returned (.int .i64 bs.length) ∧ LowB M w' L s i f bs ∧ Fr M w w' := by
  obtain ⟨hMp, hMr, hN, hs, hbl⟩ := h.parts
  obtain ⟨nb, ri, pr, line, ls, off, hb, h2, h3⟩ := h.toM
  refine (buf_Len M L.p 10 197 _ bs w hb (by omega)).mono ?_
  rintro e w' ⟨he, n, rfl⟩
  exact ⟨he, h, (Fr.refl _ _).drewN n⟩

theorem BytesB (h : LowB M w L s i f bs) :
    Calls Tryz.prog 160 #[.pointer (some ⟨L.p, 10, none⟩)] w fun e w' => ∃ buf, e = .returned buf ∧ Low w' L s i f buf ∧ BufH w' buf bs ∧ LowB M w' L s i f bs ∧ Fr M w w' := by
  obtain ⟨hMp, hMr, hN, hs, hbl⟩ := h.parts
  obtain ⟨nb, ri, pr, line, ls, off, hb, h2, h3⟩ := h.toM
  refine (buf_Bytes M L.p 10 197 _ bs w hb (by omega)).mono ?_
  rintro e w' ⟨buf, lr, he, hb', hB, n, rfl⟩
  exact ⟨buf, he, ⟨lr, nb, ri, pr, line, ls, off, hb'.eq rfl, h2, h3⟩, hB, h, (Fr.refl _ _).drewN n⟩

end

end Go.Proofs.YtlljphipglgjiaaGreatDoor

namespace Go.Proofs.YtlljphipglgjiaaGreatDoor
open Go.RowKit

/-- A byte of a name, or a colon. -/
def nameB (c : UInt8) : Bool := (65 ≤ c.toNat && c.toNat ≤ 90) || (97 ≤ c.toNat && c.toNat ≤ 122) || (48 ≤ c.toNat && c.toNat ≤ 57) || c.toNat == 95 || c.toNat == 58 || c.toNat == 46 || c.toNat == 45

theorem ret_bool {a b : Bool} (h : a = b) : Ending.returned (.bool a) = .returned (.bool b) := by rw [h]

set_option maxHeartbeats 400000 in
theorem isNameByte_any (c : UInt8) (w : World) :
    Calls Tryz.prog 212 #[.int .u8 c.toNat] w fun e w' => e = .returned (.bool (nameB c)) ∧ w = w' := by
  have hc := c.toNat_lt
  generalize hn : c.toNat = n at *
  have HN := Lib.hid hn
  clear hn
  go_enter Tryz.func212, Tryz.ntmps212
  go_wp2
  all_goals
    go_ret
    refine ⟨ret_bool ?_, rfl⟩
    unfold nameB
    rw [HN.out, Bool.eq_iff_iff]
    simp
    try omega

theorem isNameByte_yes {c : UInt8} (h : nameB c = true) (w : World) : Calls Tryz.prog 212 #[.int .u8 c.toNat] w fun e w' => e = .returned (.bool true) ∧ w = w' := by have := isNameByte_any c w; rwa [h] at this
theorem isNameByte_no {c : UInt8} (h : nameB c = false) (w : World) : Calls Tryz.prog 212 #[.int .u8 c.toNat] w fun e w' => e = .returned (.bool false) ∧ w = w' := by have := isNameByte_any c w; rwa [h] at this

/-- The bytes of s from i up to j. -/
def sub (s : ByteArray) (i j : Nat) : List UInt8 := (s.data.toList.drop i).take (j - i)

theorem sub_self (s : ByteArray) (i : Nat) : sub s i i = [] := by simp [sub]
theorem sub_snoc (s : ByteArray) (i k : Nat) (hik : i ≤ k) (hk : k < s.size) : sub s i (k + 1) = sub s i k ++ [s[k]] := by
  unfold sub
  have hl : s.data.toList.length = s.size := by rw [Array.length_toList]; rfl
  rw [show k + 1 - i = (k - i) + 1 by omega, List.take_succ_eq_append_getElem (by rw [List.length_drop, hl]; omega)]
  congr 1
  simp only [List.getElem_drop]
  congr 1
  have : i + (k - i) = k := by omega
  simp only [this]
  rfl
theorem sub_length (s : ByteArray) (i j : Nat) (hj : j ≤ s.size) : (sub s i j).length = j - i := by
  have hl : s.data.toList.length = s.size := by rw [Array.length_toList]; rfl
  unfold sub
  rw [List.length_take, List.length_drop, hl]; omega

theorem nameB_lt {c : UInt8} (h : nameB c = true) : c.toNat < 128 := by
  unfold nameB at h
  simp at h
  omega

set_option maxRecDepth 100000 in
set_option maxHeartbeats 1000000 in
theorem readNameB {M : Nat → Prop} {w : World} {L : LS} {s : ByteArray} {i : Nat} {f : Bool} {bs : List UInt8} (j : Nat) (h : LowB M w L s i f bs) (hij : i < j) (hj : j < s.size)
    (hn : ∀ k (hk : k < s.size), i ≤ k → k < j → nameB s[k] = true) (he : nameB s[j] = false) (hlt : s[j].toNat < 128) (hlim : bs.length + s.size ≤ 5000000) :
    Calls Tryz.prog 187 #[.pointer (some ⟨L.p, 0, none⟩)] w fun e w' => e = .returned (.bool true) ∧ LowB M w' L s j false (bs ++ sub s i j) ∧ Fr M w w' := by
  have H := Lib.hid h
  have hi : i < s.size := by omega
  have h1 : nameB s[i] = true := hn i hi (Nat.le_refl _) hij
  have h2 := nameB_lt h1
  have HNB := Lib.hid hn
  have HE := Lib.hid he
  have H1 := Lib.hid h1
  have d1 : decide (((s[i]).toNat : Int) < 128) = true := by simp; omega
  clear h hn he h1
  go_enter Tryz.func187, Tryz.ntmps187
  go_wp2_with fail
  refine (mustgetcB H.out hi).mono ?_
  rintro e w1 ⟨rfl, h1, hf1⟩
  have HL1 := Lib.hid h1
  have HF1 := Lib.hid hf1
  clear h1 hf1
  go_wp2_with fail
  refine (isNameByte_yes H1.out _).mono ?_
  rintro e w2 ⟨rfl, rfl⟩
  go_wp2_with fail
  refine (WriteByteB _ HL1.out (by omega)).mono ?_
  rintro e w2 ⟨rfl, h1, hf1⟩
  have HL2 := Lib.hid h1
  have HF2 := Lib.hid (HF1.out.trans hf1)
  clear h1 hf1 HL1 HF1
  go_wp2_with fail
  go_loopg [2, 3] (j - (i + 1)) (fun g _ok _b wr => ∃ (k : Nat) (f' : Bool), g = j - k ∧ i < k ∧ k ≤ j ∧ LowB M wr L s k f' (bs ++ sub s i k) ∧ Fr M w wr)
  case atStart => exact ⟨i + 1, true, by omega, by omega, by omega, by rw [sub_snoc s i i (Nat.le_refl _) hi, sub_self]; exact HL2.out, HF2.out⟩
  case round =>
    obtain ⟨k, f', hg, hik, hkj, hlow, hfr⟩ := hrel
    have HL := Lib.hid hlow
    have HF := Lib.hid hfr
    have HG := Lib.hid hg
    clear hlow hfr hg
    have hks : k < s.size := by omega
    by_cases hkj' : k < j
    · have g1 : nameB s[k] = true := HNB.out k hks (by omega) hkj'
      have g2 := nameB_lt g1
      have G1 := Lib.hid g1
      have d2 : decide (((s[k]).toNat : Int) < 128) = true := by simp; omega
      have hlen := sub_length s i k (by omega)
      clear g1
      go_wp2_with fail
      refine (mustgetcB HL.out hks).mono ?_
      rintro e w3 ⟨rfl, h1, hf1⟩
      have HL3 := Lib.hid h1
      have HF3 := Lib.hid (HF.out.trans hf1)
      clear h1 hf1 HL HF
      go_wp2_with fail
      refine (isNameByte_yes G1.out _).mono ?_
      rintro e w4 ⟨rfl, rfl⟩
      go_wp2_with fail
      refine (WriteByteB _ HL3.out (by rw [List.length_append, hlen]; omega)).mono ?_
      rintro e w4 ⟨rfl, h1, hf1⟩
      have HL4 := Lib.hid h1
      have HF4 := Lib.hid (HF3.out.trans hf1)
      clear h1 hf1 HL3 HF3
      go_wp2_with fail
      go_roundg (j - (k + 1))
      case rel => exact ⟨k + 1, true, rfl, by omega, by omega, by rw [sub_snoc s i k (by omega) hks, ← List.append_assoc]; exact HL4.out, HF4.out⟩
      case measure => have := HG.out; omega
    · obtain rfl : k = j := by omega
      have d2 : decide (((s[k]).toNat : Int) < 128) = true := by simp; omega
      go_wp2_with fail
      refine (mustgetcB HL.out hks).mono ?_
      rintro e w3 ⟨rfl, h1, hf1⟩
      have HL3 := Lib.hid h1
      have HF3 := Lib.hid (HF.out.trans hf1)
      clear h1 hf1 HL HF
      go_wp2_with fail
      refine (isNameByte_no HE.out _).mono ?_
      rintro e w4 ⟨rfl, rfl⟩
      go_wp2_with fail
      refine (ungetcB HL3.out hks).mono ?_
      rintro e w4 ⟨rfl, h1, hf1⟩
      have HL4 := Lib.hid h1
      have HF4 := Lib.hid (HF3.out.trans hf1)
      clear h1 hf1 HL3 HF3
      go_wp2_with fail
      go_ret
      exact ⟨rfl, HL4.out, HF4.out⟩

end Go.Proofs.YtlljphipglgjiaaGreatDoor

namespace Go.Proofs.YtlljphipglgjiaaGreatDoor
open Go.RowKit

set_option maxRecDepth 100000 in
set_option maxHeartbeats 400000 in
theorem is16_any (g n K : Nat) (lo hi : Nat → Nat) (c : Nat) (ans : Bool) (w : World) (hc : c < 128) (hK : K < n) (hn : n ≤ 1000) (h18 : 18 < n)
    (hlo : ∀ k, k ≤ K → w.cell? ⟨g, k * 3, none⟩ = some (.int .u16 (lo k))) (hhi : ∀ k, k ≤ K → w.cell? ⟨g, k * 3 + 1, none⟩ = some (.int .u16 (hi k))) (hst : ∀ k, k ≤ K → w.cell? ⟨g, k * 3 + 2, none⟩ = some (.int .u16 1))
    (hlh : ∀ k, k ≤ K → lo k ≤ hi k) (hbel : ∀ k, k < K → hi k < c) (hans : ans = decide (lo K ≤ c)) (hin : lo K ≤ c → c ≤ hi K) :
    Calls Tryz.prog 239 #[.slice (some ⟨g, 0, none⟩) n n, .int .u16 c] w fun e w' => e = .returned (.bool ans) ∧ ∃ k, w.drewN k = w' := by
  have HLO := Lib.hid hlo
  have HHI := Lib.hid hhi
  have HST := Lib.hid hst
  have HLH := Lib.hid hlh
  have HBE := Lib.hid hbel
  have HA := Lib.hid hans
  have HI := Lib.hid hin
  have d1 : decide ((n : Int) ≤ 18) = false := by simp; omega
  have d0 : decide ((c : Int) ≤ 255) = true := by simp; omega
  clear hlo hhi hst hlh hbel hans hin
  go_enter Tryz.func239, Tryz.ntmps239
  go_wp2_with fail
  go_loop [5, 6, 20] (fun _a _b i => ∃ k : Nat, k ≤ K ∧ i = .int .i64 k) (fun _ _ i => n - (intOf i).toNat)
  case atStart => exact ⟨0, Nat.zero_le _, rfl⟩
  case round =>
    obtain ⟨k, hk, rfl⟩ := hrel
    have a0 := HLO.out k hk
    have a1 := HHI.out k hk
    have a2 := HST.out k hk
    have hkn : (k : Int) < n := by omega
    have l1 := HLH.out k hk
    by_cases hkK : k < K
    · have b1 := HBE.out k hkK
      have e1 : decide ((c : Int) < (lo k : Int)) = false := by simp; omega
      have e2 : decide ((c : Int) ≤ (hi k : Int)) = false := by simp; omega
      go_wp2_with fail
      go_round
      case rel => exact ⟨k + 1, by omega, by go_num⟩
      case measure => simp [intOf]; omega
    · obtain rfl : k = K := by omega
      by_cases hin : lo k ≤ c
      · have e1 : decide ((c : Int) < (lo k : Int)) = false := by simp; omega
        have e3 := HI.out hin
        have e2 : decide ((c : Int) ≤ (hi k : Int)) = true := by simp; omega
        have hans : ans = true := by rw [HA.out]; simpa using hin
        have HA' := Lib.hid hans
        clear hans
        go_wp2_with fail
        go_quiet (fail)
        go_wp2_with fail
        go_ret
        exact ⟨ret_bool HA'.out.symm, _, rfl⟩
      · have e1 : decide ((c : Int) < (lo k : Int)) = true := by simp; omega
        have hans : ans = false := by rw [HA.out]; simpa using hin
        have HA' := Lib.hid hans
        clear hans
        go_wp2_with fail
        go_ret
        exact ⟨ret_bool HA'.out.symm, 0, rfl⟩


set_option maxRecDepth 100000 in
set_option maxHeartbeats 400000 in
theorem is_any (t g n K : Nat) (lo hi : Nat → Nat) (c h : Nat) (ans : Bool) (w : World) (hc : c < 128) (hK : K < n) (hn : n ≤ 1000) (h18 : 18 < n) (ht : Blk w t 346 #[.slice (some ⟨g, 0, none⟩) n n, .slice none 0 0, .int .i64 0])
    (hlast : w.cell? ⟨g, (n - 1) * 3 + 1, none⟩ = some (.int .u16 h)) (hch : c ≤ h) (hh : h < 65536)
    (hlo : ∀ k, k ≤ K → w.cell? ⟨g, k * 3, none⟩ = some (.int .u16 (lo k))) (hhi : ∀ k, k ≤ K → w.cell? ⟨g, k * 3 + 1, none⟩ = some (.int .u16 (hi k))) (hst : ∀ k, k ≤ K → w.cell? ⟨g, k * 3 + 2, none⟩ = some (.int .u16 1))
    (hlh : ∀ k, k ≤ K → lo k ≤ hi k) (hbel : ∀ k, k < K → hi k < c) (hans : ans = decide (lo K ≤ c)) (hin : lo K ≤ c → c ≤ hi K) :
    Calls Tryz.prog 215 #[.pointer (some ⟨t, 0, none⟩), .int .i32 c] w fun e w' => e = .returned (.bool ans) ∧ ∃ k, w.drewN k = w' := by
  have H16 : Hid (∀ _k : Nat, Calls Tryz.prog 239 #[.slice (some ⟨g, 0, none⟩) n n, .int .u16 c] w fun e w' => e = .returned (.bool ans) ∧ ∃ j, w.drewN j = w') :=
    Lib.hid fun _ => is16_any g n K lo hi c ans w hc hK hn h18 hlo hhi hst hlh hbel hans hin
  clear hlo hhi hst hlh hbel hans hin
  have hcell := ht.cell
  clear ht
  have hn1 : ((n : Int) - 1).toNat = n - 1 := by omega
  have hn0 : (0 : Int) ≤ (n : Int) - 1 := by omega
  have hd : decide (0 < n) = true := by simp; omega
  go_enter Tryz.func215, Tryz.ntmps215
  go_wp2_with fail
  refine (H16.out 0).mono ?_
  rintro e w1 ⟨rfl, j, rfl⟩
  go_wp2_with fail
  go_ret
  exact ⟨rfl, _, rfl⟩

end Go.Proofs.YtlljphipglgjiaaGreatDoor

namespace Go.Proofs.YtlljphipglgjiaaGreatDoor
open Go.RowKit

/-- A byte at which a name may begin, or a colon. -/
def firstB (c : UInt8) : Bool := (65 ≤ c.toNat && c.toNat ≤ 90) || (97 ≤ c.toNat && c.toNat ≤ 122) || c.toNat == 95 || c.toNat == 58

def loF (k : Nat) : Nat := (firstR.getD k (0, 0, 0)).1.toNat
def hiF (k : Nat) : Nat := (firstR.getD k (0, 0, 0)).2.1.toNat
def loS (k : Nat) : Nat := (secondR.getD k (0, 0, 0)).1.toNat
def hiS (k : Nat) : Nat := (secondR.getD k (0, 0, 0)).2.1.toNat

/-- A table in memory. -/
def TabAt (w : World) (t g : Nat) (T : Array Value) (n : Nat) : Prop := Blk w g 342 T ∧ Blk w t 346 #[.slice (some ⟨g, 0, none⟩) n n, .slice none 0 0, .int .i64 0]

theorem firstT_cells : ∀ k, k ≤ 3 → firstT[k * 3]? = some (.int .u16 (loF k)) ∧ firstT[k * 3 + 1]? = some (.int .u16 (hiF k)) ∧ firstT[k * 3 + 2]? = some (.int .u16 1) := by
  intro k hk
  match k, hk with
  | 0, _ => exact ⟨by kernel_rfl, by kernel_rfl, by kernel_rfl⟩
  | 1, _ => exact ⟨by kernel_rfl, by kernel_rfl, by kernel_rfl⟩
  | 2, _ => exact ⟨by kernel_rfl, by kernel_rfl, by kernel_rfl⟩
  | 3, _ => exact ⟨by kernel_rfl, by kernel_rfl, by kernel_rfl⟩
theorem secondT_cells : ∀ k, k ≤ 1 → secondT[k * 3]? = some (.int .u16 (loS k)) ∧ secondT[k * 3 + 1]? = some (.int .u16 (hiS k)) ∧ secondT[k * 3 + 2]? = some (.int .u16 1) := by
  intro k hk
  match k, hk with
  | 0, _ => exact ⟨by kernel_rfl, by kernel_rfl, by kernel_rfl⟩
  | 1, _ => exact ⟨by kernel_rfl, by kernel_rfl, by kernel_rfl⟩
theorem firstT_last : firstT[(190 - 1) * 3 + 1]? = some (.int .u16 ((55203 : Nat) : Int)) := by kernel_rfl
theorem secondT_last : secondT[(112 - 1) * 3 + 1]? = some (.int .u16 ((12542 : Nat) : Int)) := by kernel_rfl

theorem isFirst (t g : Nat) (c : UInt8) (w : World) (ht : TabAt w t g firstT 190) (hc : nameB c = true) :
    Calls Tryz.prog 215 #[.pointer (some ⟨t, 0, none⟩), .int .i32 c.toNat] w fun e w' => e = .returned (.bool (firstB c)) ∧ ∃ k, w.drewN k = w' := by
  have hlt := nameB_lt hc
  obtain ⟨hg, htb⟩ := ht
  have key : ∀ K, K ≤ 3 → (∀ k, k < K → hiF k < c.toNat) → firstB c = decide (loF K ≤ c.toNat) → (loF K ≤ c.toNat → c.toNat ≤ hiF K) → Calls Tryz.prog 215 #[.pointer (some ⟨t, 0, none⟩), .int .i32 c.toNat] w fun e w' => e = .returned (.bool (firstB c)) ∧ ∃ k, w.drewN k = w' :=
    fun K hK h1 h2 h3 => is_any t g 190 K loF hiF c.toNat 55203 (firstB c) w hlt (by omega) (by omega) (by omega) htb ((hg.cell _).trans firstT_last) (by omega) (by omega)
      (fun k hk => (hg.cell _).trans (firstT_cells k (by omega)).1) (fun k hk => (hg.cell _).trans (firstT_cells k (by omega)).2.1) (fun k hk => (hg.cell _).trans (firstT_cells k (by omega)).2.2)
      (fun k hk => by
        have : k ≤ 3 := by omega
        match k, this with
        | 0, _ => decide
        | 1, _ => decide
        | 2, _ => decide
        | 3, _ => decide) h1 h2 h3
  have f0 : loF 0 = 58 ∧ hiF 0 = 58 := by decide
  have f1 : loF 1 = 65 ∧ hiF 1 = 90 := by decide
  have f2 : loF 2 = 95 ∧ hiF 2 = 95 := by decide
  have f3 : loF 3 = 97 ∧ hiF 3 = 122 := by decide
  have hb : ∀ m, (firstB c = decide (m ≤ c.toNat)) ↔ ((65 ≤ c.toNat ∧ c.toNat ≤ 90 ∨ 97 ≤ c.toNat ∧ c.toNat ≤ 122 ∨ c.toNat = 95 ∨ c.toNat = 58) ↔ m ≤ c.toNat) := by
    intro m
    rw [Bool.eq_iff_iff]
    unfold firstB
    simp [or_assoc]
  have hn : 65 ≤ c.toNat ∧ c.toNat ≤ 90 ∨ 97 ≤ c.toNat ∧ c.toNat ≤ 122 ∨ 48 ≤ c.toNat ∧ c.toNat ≤ 57 ∨ c.toNat = 95 ∨ c.toNat = 58 ∨ c.toNat = 46 ∨ c.toNat = 45 := by
    unfold nameB at hc
    simpa [or_assoc] using hc
  by_cases q0 : c.toNat ≤ 58
  · exact key 0 (by omega) (fun k hk => by omega) ((hb _).2 (by rw [f0.1]; omega)) (by rw [f0.1, f0.2]; omega)
  by_cases q1 : c.toNat ≤ 90
  · exact key 1 (by omega) (fun k hk => by have : k = 0 := by omega
                                           subst this; rw [f0.2]; omega) ((hb _).2 (by rw [f1.1]; omega)) (by rw [f1.1, f1.2]; omega)
  by_cases q2 : c.toNat ≤ 95
  · exact key 2 (by omega) (fun k hk => by
      have : k = 0 ∨ k = 1 := by omega
      rcases this with rfl | rfl
      · rw [f0.2]; omega
      · rw [f1.2]; omega) ((hb _).2 (by rw [f2.1]; omega)) (by rw [f2.1, f2.2]; omega)
  · exact key 3 (by omega) (fun k hk => by
      have : k = 0 ∨ k = 1 ∨ k = 2 := by omega
      rcases this with rfl | rfl | rfl
      · rw [f0.2]; omega
      · rw [f1.2]; omega
      · rw [f2.2]; omega) ((hb _).2 (by rw [f3.1]; omega)) (by rw [f3.1, f3.2]; omega)

/-- A byte of a name that is no first one is in the second table. -/
theorem isSecond (t g : Nat) (c : UInt8) (w : World) (ht : TabAt w t g secondT 112) (hc : nameB c = true) (hf : firstB c = false) :
    Calls Tryz.prog 215 #[.pointer (some ⟨t, 0, none⟩), .int .i32 c.toNat] w fun e w' => e = .returned (.bool true) ∧ ∃ k, w.drewN k = w' := by
  have hlt := nameB_lt hc
  obtain ⟨hg, htb⟩ := ht
  have key : ∀ K, K ≤ 1 → (∀ k, k < K → hiS k < c.toNat) → (true = decide (loS K ≤ c.toNat)) → (loS K ≤ c.toNat → c.toNat ≤ hiS K) → Calls Tryz.prog 215 #[.pointer (some ⟨t, 0, none⟩), .int .i32 c.toNat] w fun e w' => e = .returned (.bool true) ∧ ∃ k, w.drewN k = w' :=
    fun K hK h1 h2 h3 => is_any t g 112 K loS hiS c.toNat 12542 true w hlt (by omega) (by omega) (by omega) htb ((hg.cell _).trans secondT_last) (by omega) (by omega)
      (fun k hk => (hg.cell _).trans (secondT_cells k (by omega)).1) (fun k hk => (hg.cell _).trans (secondT_cells k (by omega)).2.1) (fun k hk => (hg.cell _).trans (secondT_cells k (by omega)).2.2)
      (fun k hk => by
        have : k ≤ 1 := by omega
        match k, this with
        | 0, _ => decide
        | 1, _ => decide) h1 h2 h3
  have f0 : loS 0 = 45 ∧ hiS 0 = 46 := by decide
  have f1 : loS 1 = 48 ∧ hiS 1 = 57 := by decide
  have hn : 65 ≤ c.toNat ∧ c.toNat ≤ 90 ∨ 97 ≤ c.toNat ∧ c.toNat ≤ 122 ∨ 48 ≤ c.toNat ∧ c.toNat ≤ 57 ∨ c.toNat = 95 ∨ c.toNat = 58 ∨ c.toNat = 46 ∨ c.toNat = 45 := by
    unfold nameB at hc
    simpa [or_assoc] using hc
  have hf' : ¬ (65 ≤ c.toNat ∧ c.toNat ≤ 90 ∨ 97 ≤ c.toNat ∧ c.toNat ≤ 122 ∨ c.toNat = 95 ∨ c.toNat = 58) := by
    intro h
    have : firstB c = true := by unfold firstB; simpa [or_assoc] using h
    rw [hf] at this; cases this
  by_cases q0 : c.toNat ≤ 46
  · exact key 0 (by omega) (fun k hk => by omega) (by rw [f0.1]; simp; omega) (by rw [f0.1, f0.2]; omega)
  · exact key 1 (by omega) (fun k hk => by have : k = 0 := by omega
                                           subst this; rw [f0.2]; omega) (by rw [f1.1]; simp; omega) (by rw [f1.1, f1.2]; omega)

set_option maxHeartbeats 400000 in
/-- DecodeRune of bytes that begin with one of ASCII. -/
theorem decodeRune_ascii (a : Addr) (n c : Nat) (b : UInt8) (w : World) (hn : 0 < n) (hb : b.toNat < 128) (hcell : w.cell? a = some (.int .u8 b.toNat)) :
    Calls Tryz.prog 175 #[.slice (some a) n c] w fun e w' => e = .returned (.tuple #[.int .i32 b.toNat, .int .i64 1]) ∧ ∃ k, w.drewN k = w' := by
  have hd : decide (0 < n) = true := by simpa using hn
  have hd2 : decide ((b.toNat : Int) < 128) = true := by simp; omega
  have hn' : (0 : Int) < (n : Int) := by omega
  go_enter Tryz.func175, Tryz.ntmps175
  go_wp2_with fail
  refine wp_loop_once ?_
  go_wp2_with fail
  go_ret2
  exact ⟨rfl, 0, rfl⟩


theorem tab_first (w : World) : TabAt (tabWorld w firstT 190) (w.heap.size + 1) w.heap.size firstT 190 := by
  refine ⟨(Blk.new w 342 firstT).alloc _, ?_⟩
  have := Blk.new (w.alloc (.cells firstT 342)) 346 #[.slice (some ⟨w.heap.size, 0, none⟩) 190 190, .slice none 0 0, .int .i64 0]
  simpa [tabWorld] using this
theorem tab_second (w : World) : TabAt (tabWorld w secondT 112) (w.heap.size + 1) w.heap.size secondT 112 := by
  refine ⟨(Blk.new w 342 secondT).alloc _, ?_⟩
  have := Blk.new (w.alloc (.cells secondT 342)) 346 #[.slice (some ⟨w.heap.size, 0, none⟩) 112 112, .slice none 0 0, .int .i64 0]
  simpa [tabWorld] using this
theorem below_tab (w : World) (T : Array Value) (n : Nat) : Below w.heap.size w (tabWorld w T n) := ((Below.refl _ _).alloc (Nat.le_refl _) _).alloc (by simp) _
theorem TabAt.below {w w' : World} {t g : Nat} {T : Array Value} {n : Nat} (h : TabAt w t g T n) (hb : Below w.heap.size w w') : TabAt w' t g T n :=
  ⟨(hb.block _ h.1.lt).trans h.1, (hb.block _ h.2.lt).trans h.2⟩
theorem tab_size (w : World) (T : Array Value) (n : Nat) : (tabWorld w T n).heap.size = w.heap.size + 2 := by simp [tabWorld]

set_option maxRecDepth 100000 in
set_option maxHeartbeats 1000000 in
theorem isName_ascii (g n cap : Nat) (l : List UInt8) (w : World) (hl : l.length = n) (hn : 0 < n) (hcap : n ≤ cap) (_hsm : cap ≤ 9223372036854775807) (hcells : ∀ k (h : k < l.length), w.cell? ⟨g, k, none⟩ = some (.int .u8 l[k].toNat)) (hg : g < w.heap.size)
    (hall : ∀ b ∈ l, nameB b = true) (hfst : ∀ h : 0 < l.length, firstB l[0] = true) :
    Calls Tryz.prog 188 #[.slice (some ⟨g, 0, none⟩) n cap] w fun e w' => e = .returned (.bool true) ∧ Below w.heap.size w w' := by
  subst hl
  have h0 := hfst (by omega)
  have hz : ((l.length : Int) == 0) = false := by rw [beq_eq_false_iff_ne]; omega
  have hq0 : ((l[0].toNat : Int) == 65533) = false := by rw [beq_eq_false_iff_ne]; have := l[0].toNat_lt; omega
  have HC := Lib.hid hcells
  have HA := Lib.hid hall
  have H0 := Lib.hid h0
  have hl0 : 0 < l.length := by omega
  have n0 : nameB l[0] = true := hall _ (List.getElem_mem hl0)
  have N0 := Lib.hid n0
  clear hcells hall hfst h0 n0
  obtain ⟨w1, hw1⟩ : ∃ w1, tabWorld w firstT 190 = w1 := ⟨_, rfl⟩
  obtain ⟨w2, hw2⟩ : ∃ w2, tabWorld w1 secondT 112 = w2 := ⟨_, rfl⟩
  have hb1 : Below w.heap.size w w1 := by rw [← hw1]; exact below_tab _ _ _
  have hs1 : w1.heap.size = w.heap.size + 2 := by rw [← hw1]; exact tab_size _ _ _
  have hb2 : Below w1.heap.size w1 w2 := by rw [← hw2]; exact below_tab _ _ _
  have ht1 : TabAt w2 (w.heap.size + 1) w.heap.size firstT 190 := by
    have : TabAt w1 (w.heap.size + 1) w.heap.size firstT 190 := by rw [← hw1]; exact tab_first w
    exact this.below hb2
  have ht2 : TabAt w2 (w1.heap.size + 1) w1.heap.size secondT 112 := by rw [← hw2]; exact tab_second w1
  have hbw : Below w.heap.size w w2 := hb1.trans (hb2.mono (by omega))
  have HT1 := Lib.hid ht1
  have HT2 := Lib.hid ht2
  have HB := Lib.hid hbw
  have hcell0 : w2.cell? ⟨g, 0, none⟩ = some (.int .u8 l[0].toNat) := (hbw.cell (p := ⟨g, 0, none⟩) hg).trans (HC.out 0 hl0)
  have HC0 := Lib.hid hcell0
  have HW1 := Lib.hid hw1
  have HW2 := Lib.hid hw2
  clear hw1 hw2 hb1 hb2 ht1 ht2 hbw hcell0 hs1
  go_enter Tryz.func188, Tryz.ntmps188
  go_wp2_with fail
  refine (first_any _).mono ?_
  rintro e w1' ⟨rfl, rfl⟩
  rw [HW1.out]
  go_wp2_with fail
  refine (second_any _).mono ?_
  rintro e w2' ⟨rfl, rfl⟩
  rw [HW2.out]
  go_wp2_with fail
  refine (decodeRune_ascii ⟨g, 0, none⟩ l.length cap l[0] _ hn (nameB_lt N0.out) HC0.out).mono ?_
  rintro e w3 ⟨rfl, j, rfl⟩
  go_wp2_with fail
  refine (isFirst _ _ l[0] (w2.drewN j) (show TabAt (w2.drewN j) _ _ _ _ from HT1.out) N0.out).mono ?_
  rintro e w3 ⟨rfl, j2, rfl⟩
  rw [H0.out]
  go_wp2_with fail
  go_loopg [0, 5, 6] l.length (fun gk sv _c nv wr => ∃ k : Nat, gk = l.length - k ∧ k < l.length ∧ sv = .slice (some ⟨g, k, none⟩) (l.length - k) (cap - k) ∧ nv = .int .i64 1 ∧ Below w2.heap.size w2 wr)
  case atStart => exact ⟨0, rfl, hl0, rfl, rfl, ((Below.refl _ _)).trans ⟨rfl, rfl, rfl, Nat.le_refl _, fun _ _ => rfl⟩⟩
  case round =>
    obtain ⟨k, hg', hk, rfl, rfl, hbr⟩ := hrel
    have HG := Lib.hid hg'
    have HBR := Lib.hid hbr
    clear hg' hbr
    by_cases hk1 : k + 1 < l.length
    · have nk : nameB l[k + 1] = true := HA.out _ (List.getElem_mem hk1)
      have NK := Lib.hid nk
      have ck : wr.cell? ⟨g, k + 1, none⟩ = some (.int .u8 l[k + 1].toNat) := (HBR.out.cell (p := ⟨g, k + 1, none⟩) (Nat.lt_of_lt_of_le hg HB.out.size)).trans ((HB.out.cell (p := ⟨g, k + 1, none⟩) hg).trans (HC.out (k + 1) hk1))
      have CK := Lib.hid ck
      have hqk : ((l[k + 1].toNat : Int) == 65533) = false := by rw [beq_eq_false_iff_ne]; have := l[k + 1].toNat_lt; omega
      have hd : decide ((1 : Int) < ((l.length - k : Nat) : Int)) = true := by simp; omega
      have hd2 : decide (1 < l.length - k) = true := by simp; omega
      clear nk ck
      go_wp2_with fail
      refine (decodeRune_ascii ⟨g, k + 1, none⟩ (l.length - k - 1) (cap - k - 1) l[k + 1] _ (by omega) (nameB_lt NK.out) CK.out).mono ?_
      rintro e w4 ⟨rfl, j3, rfl⟩
      have hsz : w.heap.size + 2 ≤ w2.heap.size := by have := HT2.out.2.lt; have := HT1.out.2.lt; have := tab_size w firstT 190; rw [HW1.out] at this; omega
      have ft : TabAt (wr.drewN j3) (w.heap.size + 1) w.heap.size firstT 190 := show TabAt wr _ _ _ _ from HT1.out.below HBR.out
      have st : TabAt (wr.drewN j3) (w1.heap.size + 1) w1.heap.size secondT 112 := show TabAt wr _ _ _ _ from HT2.out.below HBR.out
      have FT := Lib.hid ft
      have ST := Lib.hid st
      clear ft st hsz
      cases hfb : firstB l[k + 1] with
      | true =>
        have HFB := Lib.hid hfb
        clear hfb
        go_wp2_with fail
        refine (isFirst _ _ l[k + 1] _ FT.out NK.out).mono ?_
        rintro e w4 ⟨rfl, j4, rfl⟩
        rw [HFB.out]
        go_wp2_with fail
        go_roundg (l.length - (k + 1))
        case rel => exact ⟨k + 1, rfl, by omega, by simp [Nat.sub_sub], rfl, HBR.out.trans ⟨rfl, rfl, rfl, Nat.le_refl _, fun _ _ => rfl⟩⟩
        case measure => have := HG.out; omega
      | false =>
        have HFB := Lib.hid hfb
        clear hfb
        go_wp2_with fail
        refine (isFirst _ _ l[k + 1] _ FT.out NK.out).mono ?_
        rintro e w4 ⟨rfl, j4, rfl⟩
        rw [HFB.out]
        go_wp2_with fail
        refine (isSecond _ _ l[k + 1] (wr.drewN (j3 + j4)) (show TabAt (wr.drewN (j3 + j4)) _ _ _ _ from ST.out) NK.out HFB.out).mono ?_
        rintro e w4 ⟨rfl, j5, rfl⟩
        go_wp2_with fail
        go_roundg (l.length - (k + 1))
        case rel => exact ⟨k + 1, rfl, by omega, by simp [Nat.sub_sub], rfl, HBR.out.trans ⟨rfl, rfl, rfl, Nat.le_refl _, fun _ _ => rfl⟩⟩
        case measure => have := HG.out; omega
    · go_wp2_with fail
      go_ret
      exact ⟨rfl, HB.out.trans (HBR.out.mono HB.out.size)⟩

end Go.Proofs.YtlljphipglgjiaaGreatDoor

namespace Go.Proofs.YtlljphipglgjiaaGreatDoor
open Go.RowKit

/-- What makes memory alone leaves the decoder as it is. -/
theorem LowB.below {M : Nat → Prop} {w w' : World} {L : LS} {s : ByteArray} {i : Nat} {f : Bool} {bs : List UInt8} (h : LowB M w L s i f bs) (hb : Below w.heap.size w w') : LowB M w' L s i f bs := by
  obtain ⟨h1, h2, h3, h4, h5, buf, ⟨lr, nb, ri, pr, line, ls, off, q1, q2, q3⟩, hB, hM⟩ := h
  refine ⟨h1, h2, fun k hk => h3 k (Nat.le_trans hb.size hk), h4, h5, buf, ⟨lr, nb, ri, pr, line, ls, off, (hb.block _ q1.lt).trans q1, (hb.block _ q2.lt).trans q2, q3⟩, hB.keep fun g _ cur hc => ?_, hM⟩
  have hlt : g < w.heap.size := Blk.lt (t := 5) (cs := cur) hc
  exact (hb.block g hlt).trans hc

/-- A list of bytes as a string. -/
def bst (l : List UInt8) : ByteArray := ⟨l.toArray⟩
theorem bst_toList (l : List UInt8) : (bst l).data.toList = l := rfl
theorem bst_size (l : List UInt8) : (bst l).size = l.length := by simp [bst, ByteArray.size]
theorem bst_of (s : ByteArray) : bst s.data.toList = s := by simp [bst]

theorem row_byte {w : World} {g : Nat} {cur : Array Value} {bs : List UInt8} (hg : w.heap[g]? = some (.cells cur 5 (0, 0))) (ht : cur.toList.take bs.length = Lib.byteCells bs) (k : Nat) (hk : k < bs.length) :
    w.cell? ⟨g, k, none⟩ = some (.int .u8 bs[k].toNat) := by
  rw [cell_of_row w g k cur 5 (0, 0) hg]
  have h1 : (cur.toList.take bs.length)[k]? = (Lib.byteCells bs)[k]? := by rw [ht]
  rw [List.getElem?_take_of_lt hk] at h1
  rw [← Array.getElem?_toList, h1]
  simp [Lib.byteCells, hk]

/-- A slice of bytes, as a string. -/
theorem run_bytes_string {w : World} {buf : Value} {bs : List UInt8} (h : BufH w buf bs) : (convert 77 9 buf).run Tryz.prog w = .ok (.string (bst bs)) w := by
  rcases h.cases with ⟨rfl, rfl⟩ | ⟨g, cap, cur, rfl, hg, hl, hm, hcs, ht⟩
  · exact run_convert_bytes_nil w 77 5 Tryz.underlying77 Tryz.underlying5 0 0 9 Tryz.underlying9
  · have := run_convert_bytes_arg (P := Tryz.prog) w 77 5 Tryz.underlying77 Tryz.underlying5 g 0 bs.length cap (bs.map fun b => (b.toNat : Int)) (by simp) (fun i hi => by
      rw [Nat.zero_add, row_byte hg ht i hi]
      simp [List.getD, hi]) 9 Tryz.underlying9
    have e : strOfNums (bs.map fun b => (b.toNat : Int)) = bst bs := by
      have hid : ((fun n : Int => UInt8.ofNat n.toNat) ∘ fun b : UInt8 => (b.toNat : Int)) = id := funext fun b => by simp
      simp [strOfNums, bst, hid]
    rw [this, e]

theorem sub_get (s : ByteArray) (i j k : Nat) (hj : j ≤ s.size) (hk : k < (sub s i j).length) : (sub s i j)[k] = s[i + k]'(by rw [sub_length s i j hj] at hk; omega) := by
  have hl : s.data.toList.length = s.size := by rw [Array.length_toList]; rfl
  have hk' : k < j - i := by rw [sub_length s i j hj] at hk; exact hk
  have e : (sub s i j)[k]? = some (s[i + k]'(by omega)) := by
    unfold sub
    rw [List.getElem?_take_of_lt hk', List.getElem?_drop, List.getElem?_eq_getElem (by omega)]
    rfl
  exact (List.getElem?_eq_some_iff.1 e).2
theorem sub_mem (s : ByteArray) (i j : Nat) (hj : j ≤ s.size) {b : UInt8} (hb : b ∈ sub s i j) : ∃ k, ∃ hk : k < s.size, i ≤ k ∧ k < j ∧ b = s[k] := by
  obtain ⟨k, hk, rfl⟩ := List.mem_iff_getElem.1 hb
  have := sub_length s i j hj
  exact ⟨i + k, by omega, by omega, by omega, sub_get s i j k hj hk⟩

set_option maxRecDepth 100000 in
set_option maxHeartbeats 1000000 in
theorem nameB_ok {M : Nat → Prop} {w : World} {L : LS} {s : ByteArray} {i : Nat} {f : Bool} {bs : List UInt8} (j : Nat) (h : LowB M w L s i f bs) (hij : i < j) (hj : j < s.size)
    (hn : ∀ k (hk : k < s.size), i ≤ k → k < j → nameB s[k] = true) (hf : firstB (s[i]'(by omega)) = true) (he : nameB s[j] = false) (hlt : s[j].toNat < 128) :
    Calls Tryz.prog 157 #[.pointer (some ⟨L.p, 0, none⟩)] w fun e w' => e = .returned (.tuple #[.string (bst (sub s i j)), .bool true]) ∧ LowB M w' L s j false (sub s i j) ∧ Fr M w w' := by
  have H := Lib.hid h
  have HN := Lib.hid hn
  have HE := Lib.hid he
  have HFB := Lib.hid hf
  have hsz := h.parts.2.2.2.1
  clear h hn he hf
  go_enter Tryz.func157, Tryz.ntmps157
  go_wp2_with fail
  refine (ResetB H.out).mono ?_
  rintro e w1 ⟨rfl, h1, hf1⟩
  have H1 := Lib.hid h1
  have F1 := Lib.hid hf1
  clear h1 hf1
  go_wp2_with fail
  refine (readNameB j H1.out hij hj HN.out HE.out hlt (by simp; omega)).mono ?_
  rintro e w2 ⟨rfl, h1, hf1⟩
  have H2 := Lib.hid h1
  have F2 := Lib.hid (F1.out.trans hf1)
  clear h1 hf1 H1 F1
  go_wp2_with fail
  refine (BytesB H2.out).mono ?_
  rintro e w3 ⟨buf, rfl, hlow, hbuf, h3, hf3⟩
  have F3 := Lib.hid (F2.out.trans hf3)
  have H3 := Lib.hid h3
  have hconv := run_bytes_string hbuf
  have hlen : (sub s i j).length = j - i := sub_length s i j (by omega)
  clear hf3 h3 hlow H2 F2
  rw [List.nil_append] at hbuf hconv
  rcases hbuf.cases with ⟨rfl, hnil⟩ | ⟨g, cap, cur, rfl, hg, hl, hm, hcs, ht⟩
  · rw [hnil] at hlen; simp at hlen; omega
  have hgl : g < w3.heap.size := by
    rcases Nat.lt_or_ge g w3.heap.size with h | h
    · exact h
    · rw [Array.getElem?_eq_none h] at hg; cases hg
  have hall : ∀ b ∈ sub s i j, nameB b = true := by
    intro b hb
    obtain ⟨k, hk, h1, h2, rfl⟩ := sub_mem s i j (by omega) hb
    exact HN.out k hk h1 h2
  have hfst : ∀ h : 0 < (sub s i j).length, firstB (sub s i j)[0] = true := by
    intro h
    have := sub_get s i j 0 (by omega) h
    rw [this]
    simpa using HFB.out
  have hname : Calls Tryz.prog 188 #[.slice (some ⟨g, 0, none⟩) (sub s i j).length cap] w3 fun e w' => e = .returned (.bool true) ∧ Below w3.heap.size w3 w' :=
    isName_ascii g _ cap (sub s i j) w3 rfl (by omega) hl (by unfold maxLen at hm; omega) (fun k hk => row_byte hg ht k hk) hgl hall hfst
  have HNM := Lib.hid hname
  have HG := Lib.hid hg
  have HT := Lib.hid ht
  have HC := Lib.hid hcs
  have HL := Lib.hid hlen
  clear hall hfst hname hg ht hcs hconv hlen
  have hm' := hm
  unfold maxLen at hm'
  go_wp2_with fail
  refine HNM.out.mono ?_
  rintro e w4 ⟨rfl, hb⟩
  have hg4 : w4.heap[g]? = some (.cells cur 5 (0, 0)) := (hb.block g hgl).trans HG.out
  have hconv := run_bytes_string (BufH.mk hg4 hl hm HC.out HT.out)
  have HB := Lib.hid hb
  clear hb hg4
  go_wp2_with fail
  go_ret2
  refine ⟨rfl, ?_, F3.out.trans (Fr.below HB.out (Nat.le_refl _) H3.out.parts.2.2.1)⟩
  have := H3.out.below HB.out
  simpa using this

end Go.Proofs.YtlljphipglgjiaaGreatDoor
