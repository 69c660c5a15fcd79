/-
  (*bytes.Buffer).Write (printed by gen_wr.py: buf_WriteString turned), WriteRune of ASCII, String.
-/
import Derived.Test.YtlljphipglgjiaaGreatDoorXmWrite2
import Derived.Laws.CopyRow
namespace Go.Proofs.YtlljphipglgjiaaGreatDoor
open Go.RowKit

/-- The bytes news lie from a on. -/
def SrcB (w : World) (a : Addr) (news : List UInt8) : Prop := ∀ j v, (Lib.byteCells news)[j]? = some v → w.cell? (a.add j) = some v
theorem SrcB.fr {M : Nat → Prop} {w w' : World} {a : Addr} {news : List UInt8} (h : SrcB w a news) (hf : Fr M w w') (ha : ¬ M a.block) : SrcB w' a news := fun j v hj => by
  rw [← h j v hj]
  have hb : (a.add j).block = a.block := by unfold Addr.add; split <;> rfl
  simp only [World.cell?, hb, hf.block _ ha]

set_option maxRecDepth 100000 in
set_option maxHeartbeats 2000000 in
theorem buf_Write (M : Nat → Prop) (b o : Nat) (T : TypeId) (cs : Array Value) (bs : List UInt8) (news : List UInt8) (n : Nat) (a : Addr) (c : Nat) (w : World) (h : BufM M w b o T cs bs) (hb : M b) (hN : New M w) (hsl : news.length = n) (hsrc : SrcB w a news) (ha : ¬ M a.block) (hlim : bs.length + n ≤ 1000000000) :
    Calls Tryz.prog 284 #[.pointer (some ⟨b, o, none⟩), .slice (some a) n c] w fun e w' => e = .returned (.tuple #[.int .i64 n, .nilIface]) ∧ BufM M w' b o T cs (bs ++ news) ∧ Fr M w w' := by
  obtain ⟨buf, lr, hblk, hs, h1, hB, hM⟩ := h
  have hbl : (Lib.byteCells news).length = n := by rw [Lib.byteCells_length, hsl]
  have HS := Lib.hid hsrc
  clear hsrc
  have hf := hblk.frozen
  have c2 := buf_c2 hblk hs
  have HB := Lib.hid hblk
  have H1 := Lib.hid h1
  clear hblk h1
  have hb2 := buf_set2 HB.out 0
  have HB2 := Lib.hid hb2
  have k0 := buf_c0 hb2 hs
  have K0 := Lib.hid k0
  have kf := hb2.frozen
  have KF := Lib.hid kf
  clear hb2 k0 kf
  have hF0 : Fr M w (w.setCell ⟨b, o + 2, none⟩ (.int .i8 0)) := (Fr.refl _ _).setCell hb _
  by_cases hz : n = 0
  · subst hz
    have hz' : Hid ((0 : Nat) = 0) := Lib.hid rfl
    have hcp := fun (W : World) (d : Option Addr) (l k : Nat) => run_copy_none (P := Tryz.prog) W 77 77 3 5 d (some a) l k 0 c Tryz.underlying77 info5size (by simp)
    have hnil : news = [] := List.eq_nil_of_length_eq_zero (by omega)
    have HN := Lib.hid hnil
    clear hnil
    have hcp0 : ∀ (W : World) (d : Option Addr) (l k : Nat), (Builtin.copy_ #[77, 77] 3 #[.slice d l k, .slice (some a) 0 c]).run Tryz.prog W = .ok (.int .i64 0) W := fun W d l k => hcp W d l k
    clear hcp
    rcases hB.cases with ⟨rfl, rfl⟩ | ⟨g, cap, cur, rfl, hg, hl, hm, hcs, ht⟩
    · go_enter Tryz.func284, Tryz.ntmps284
      go_wp2_with fail
      refine (Tryz.Buffer_tryGrow_room_at b o none 0 0 0 _ K0.out (KF.out o) (Nat.le_refl _) (by unfold maxLen; omega) (by omega)).mono ?_
      rintro e w1 ⟨rfl, rfl⟩
      obtain ⟨w2, hw2⟩ : ∃ w2 : World, ((w.setCell ⟨b, o + 2, none⟩ (.int .i8 0)).setCell ⟨b, o, none⟩ (.slice none (0 + 0) 0)) = w2 := ⟨_, rfl⟩
      have hblk : Blk w2 b T ((cs.setIfInBounds o (.slice none 0 0)).setIfInBounds (o + 2) (.int .i8 0)) := by rw [← hw2]; exact buf_set0 HB2.out _
      have hfr : Fr M w w2 := by rw [← hw2]; exact hF0.setCell hb _
      rw [hw2]
      clear hw2
      have c0 := buf_c0 hblk hs
      have HX := Lib.hid hblk
      have HF := Lib.hid hfr
      clear hblk hfr
      go_wp2_with fail
      go_ret2
      refine ⟨by first | rfl | (rw [hz'.out]; rfl), ?_, HF.out⟩
      rw [HN.out]
      exact ⟨_, _, HX.out, hs, H1.out, BufH.nil _, fun g hg => by cases hg⟩
    · obtain ⟨hMg, hgb⟩ := hM g rfl
      have HM := Lib.hid hM
      have HG := Lib.hid hg
      have HC := Lib.hid hcs
      have HT := Lib.hid ht
      clear hM hg hcs ht
      go_enter Tryz.func284, Tryz.ntmps284
      go_wp2_with fail
      refine (Tryz.Buffer_tryGrow_room_at b o _ bs.length cap 0 _ K0.out (KF.out o) hl hm (by omega)).mono ?_
      rintro e w1 ⟨rfl, rfl⟩
      obtain ⟨w2, hw2⟩ : ∃ w2 : World, ((w.setCell ⟨b, o + 2, none⟩ (.int .i8 0)).setCell ⟨b, o, none⟩ (.slice (some ⟨g, 0, none⟩) (bs.length + 0) cap)) = w2 := ⟨_, rfl⟩
      have hblk : Blk w2 b T ((cs.setIfInBounds o (.slice (some ⟨g, 0, none⟩) bs.length cap)).setIfInBounds (o + 2) (.int .i8 0)) := by rw [← hw2]; exact buf_set0 HB2.out _
      have hfr : Fr M w w2 := by rw [← hw2]; exact hF0.setCell hb _
      have hg : w2.heap[g]? = some (.cells cur 5 (0, 0)) := by rw [← hw2]; exact (Below.heap_setCell _ _ _ _ hgb).trans ((Below.heap_setCell _ _ _ _ hgb).trans HG.out)
      rw [hw2]
      clear hw2
      have c0 := buf_c0 hblk hs
      have HX := Lib.hid hblk
      have HF := Lib.hid hfr
      have HG2 := Lib.hid hg
      clear hblk hfr hg
      have hm' := hm
      unfold maxLen at hm'
      go_wp2_with fail
      all_goals go_ret2
      all_goals
        refine ⟨by first | rfl | (rw [hz'.out]; rfl), ?_, HF.out⟩
        rw [HN.out]
        exact ⟨_, _, HX.out, hs, H1.out, by rw [List.append_nil]; exact BufH.mk HG2.out hl hm HC.out HT.out, fun g' hg' => by cases hg'; exact ⟨hMg, hgb⟩⟩
  have hn1 : 1 ≤ n := by omega
  clear hz
  rcases hB.cases with ⟨rfl, rfl⟩ | ⟨g, cap, cur, rfl, hg, hl, hm, hcs, ht⟩
  · clear hB hM
    by_cases h64 : n ≤ 64
    · go_enter Tryz.func284, Tryz.ntmps284
      go_wp2_with fail
      refine (Tryz.Buffer_tryGrow_none_at b o none 0 0 n _ K0.out (Nat.le_refl _) (by unfold maxLen; omega) (by omega)).mono ?_
      rintro e w1 ⟨rfl, rfl⟩
      go_wp2_with fail
      refine (buf_grow_nil_small M b o n T cs 0 _ HB2.out hs H1.out hb (hN.setCell _ _) hn1 h64).mono ?_
      rintro e w2 ⟨rfl, ⟨g, cap, cur, lr2, hblk, -, -, hg, hlc, hm, hcs, ht, hMg, hgb⟩, hfr⟩
      have c0 := buf_c0 hblk hs
      have hf2 := hblk.frozen
      have hcp := run_copy_row (P := Tryz.prog) w2 77 77 3 5 g 0 n (cap - 0) a n c cur 5 (Lib.byteCells news) Tryz.underlying77 info5size hg (by rw [hbl]; exact (Nat.min_self n).symm) (HS.out.fr (hF0.trans hfr) ha) (by rw [hbl]; (try simp at hlc); omega) (Lib.byteCells_one _)
      rw [hbl] at hcp
      have hne : ¬ cap = 0 := by (try simp at hlc); omega
      have hcap2 : 0 + n ≤ cap := by (try simp at hlc); omega
      have HX := Lib.hid hblk
      have HG := Lib.hid hg
      have HC := Lib.hid hcs
      have HT := Lib.hid ht
      have HF := Lib.hid hfr
      clear hblk hg hcs ht hfr
      try simp only [List.length_nil, Nat.zero_add] at c0
      try simp only [Nat.sub_zero] at hcp
      have hm' := hm
      unfold maxLen at hm'
      go_wp2_with fail
      go_ret2
      have hfin := BufG.copied (bs := []) (news := news) (by rw [hsl]; exact HX.out) hs H1.out HG.out (by rw [hsl]; exact hlc) hm HC.out HT.out hMg hgb
      rw [hsl] at hfin
      exact ⟨rfl, by simpa using hfin, (hF0.trans HF.out).setRow hMg _⟩
    · go_enter Tryz.func284, Tryz.ntmps284
      go_wp2_with fail
      refine (Tryz.Buffer_tryGrow_none_at b o none 0 0 n _ K0.out (Nat.le_refl _) (by unfold maxLen; omega) (by omega)).mono ?_
      rintro e w1 ⟨rfl, rfl⟩
      go_wp2_with fail
      refine (buf_grow_nil_big M b o n T cs 0 _ HB2.out hs H1.out hb (hN.setCell _ _) (by omega) (by simp at hlim; omega)).mono ?_
      rintro e w2 ⟨rfl, ⟨g, cap, cur, lr2, hblk, -, -, hg, hlc, hm, hcs, ht, hMg, hgb⟩, hfr⟩
      have c0 := buf_c0 hblk hs
      have hf2 := hblk.frozen
      have hcp := run_copy_row (P := Tryz.prog) w2 77 77 3 5 g 0 n (cap - 0) a n c cur 5 (Lib.byteCells news) Tryz.underlying77 info5size hg (by rw [hbl]; exact (Nat.min_self n).symm) (HS.out.fr (hF0.trans hfr) ha) (by rw [hbl]; (try simp at hlc); omega) (Lib.byteCells_one _)
      rw [hbl] at hcp
      have hne : ¬ cap = 0 := by (try simp at hlc); omega
      have hcap2 : 0 + n ≤ cap := by (try simp at hlc); omega
      have HX := Lib.hid hblk
      have HG := Lib.hid hg
      have HC := Lib.hid hcs
      have HT := Lib.hid ht
      have HF := Lib.hid hfr
      clear hblk hg hcs ht hfr
      try simp only [List.length_nil, Nat.zero_add] at c0
      try simp only [Nat.sub_zero] at hcp
      have hm' := hm
      unfold maxLen at hm'
      go_wp2_with fail
      go_ret2
      have hfin := BufG.copied (bs := []) (news := news) (by rw [hsl]; exact HX.out) hs H1.out HG.out (by rw [hsl]; exact hlc) hm HC.out HT.out hMg hgb
      rw [hsl] at hfin
      exact ⟨rfl, by simpa using hfin, (hF0.trans HF.out).setRow hMg _⟩
  · obtain ⟨hMg, hgb⟩ := hM g rfl
    clear hB hM
    have hg2 : (w.setCell ⟨b, o + 2, none⟩ (.int .i8 0)).heap[g]? = some (.cells cur 5 (0, 0)) := (Below.heap_setCell _ _ _ _ hgb).trans hg
    have HG2 := Lib.hid hg2
    have HC2 := Lib.hid hcs
    have HT2 := Lib.hid ht
    clear hg2 hg hcs ht
    by_cases hroom : bs.length + n ≤ cap
    · go_enter Tryz.func284, Tryz.ntmps284
      go_wp2_with fail
      refine (Tryz.Buffer_tryGrow_room_at b o _ bs.length cap n _ K0.out (KF.out o) hl hm (by omega)).mono ?_
      rintro e w1 ⟨rfl, rfl⟩
      obtain ⟨w2, hw2⟩ : ∃ w2 : World, ((w.setCell ⟨b, o + 2, none⟩ (.int .i8 0)).setCell ⟨b, o, none⟩ (.slice (some ⟨g, 0, none⟩) (bs.length + n) cap)) = w2 := ⟨_, rfl⟩
      have hblk : Blk w2 b T ((cs.setIfInBounds o (.slice (some ⟨g, 0, none⟩) (bs.length + n) cap)).setIfInBounds (o + 2) (.int .i8 0)) := by rw [← hw2]; exact buf_set0 HB2.out _
      have hg : w2.heap[g]? = some (.cells cur 5 (0, 0)) := by rw [← hw2]; exact (Below.heap_setCell _ _ _ _ hgb).trans HG2.out
      have hfr : Fr M w w2 := by rw [← hw2]; exact hF0.setCell hb _
      have hcs := HC2.out
      have ht := HT2.out
      have hlc := hroom
      rw [hw2]
      clear hw2
      have c0 := buf_c0 hblk hs
      have hf2 := hblk.frozen
      have hcp := run_copy_row (P := Tryz.prog) w2 77 77 3 5 g bs.length n (cap - bs.length) a n c cur 5 (Lib.byteCells news) Tryz.underlying77 info5size hg (by rw [hbl]; exact (Nat.min_self n).symm) (HS.out.fr hfr ha) (by rw [hbl]; (try simp at hlc); omega) (Lib.byteCells_one _)
      rw [hbl] at hcp
      have hne : ¬ cap = bs.length := by (try simp at hlc); omega
      have hcap2 : bs.length + n ≤ cap := by (try simp at hlc); omega
      have HX := Lib.hid hblk
      have HG := Lib.hid hg
      have HC := Lib.hid hcs
      have HT := Lib.hid ht
      have HF := Lib.hid hfr
      clear hblk hg hcs ht hfr
      try simp only [List.length_nil, Nat.zero_add] at c0
      try simp only [Nat.sub_zero] at hcp
      have hm' := hm
      unfold maxLen at hm'
      go_wp2_with fail
      go_ret2
      have hfin := BufG.copied (bs := bs) (news := news) (by rw [hsl]; exact HX.out) hs H1.out HG.out (by rw [hsl]; exact hlc) hm HC.out HT.out hMg hgb
      rw [hsl] at hfin
      exact ⟨rfl, by simpa using hfin, HF.out.setRow hMg _⟩
    · have hr : cap - bs.length < n := by omega
      by_cases hl0 : bs = []
      · subst hl0
        simp only [List.length_nil] at hl hr K0 HB2
        go_enter Tryz.func284, Tryz.ntmps284
        go_wp2_with fail
        refine (Tryz.Buffer_tryGrow_none_at b o _ 0 cap n _ K0.out hl hm hr).mono ?_
        rintro e w1 ⟨rfl, rfl⟩
        go_wp2_with fail
        refine (buf_grow_row0 M b o n g cap T cs 0 cur _ HB2.out hs H1.out HG2.out hl hm HC2.out HT2.out hMg hgb hb (hN.setCell _ _) hn1 hr (by simp at hlim; omega)).mono ?_
        clear hMg hgb hm hl hr
        rintro e w2 ⟨rfl, ⟨g, cap, cur, lr2, hblk, -, -, hg, hlc, hm, hcs, ht, hMg, hgb⟩, hfr⟩
        have c0 := buf_c0 hblk hs
        have hf2 := hblk.frozen
        have hcp := run_copy_row (P := Tryz.prog) w2 77 77 3 5 g 0 n (cap - 0) a n c cur 5 (Lib.byteCells news) Tryz.underlying77 info5size hg (by rw [hbl]; exact (Nat.min_self n).symm) (HS.out.fr (hF0.trans hfr) ha) (by rw [hbl]; (try simp at hlc); omega) (Lib.byteCells_one _)
        rw [hbl] at hcp
        have hne : ¬ cap = 0 := by (try simp at hlc); omega
        have hcap2 : 0 + n ≤ cap := by (try simp at hlc); omega
        have HX := Lib.hid hblk
        have HG := Lib.hid hg
        have HC := Lib.hid hcs
        have HT := Lib.hid ht
        have HF := Lib.hid hfr
        clear hblk hg hcs ht hfr
        try simp only [List.length_nil, Nat.zero_add] at c0
        try simp only [Nat.sub_zero] at hcp
        have hm' := hm
        unfold maxLen at hm'
        go_wp2_with fail
        go_ret2
        have hfin := BufG.copied (bs := []) (news := news) (by rw [hsl]; exact HX.out) hs H1.out HG.out (by rw [hsl]; exact hlc) hm HC.out HT.out hMg hgb
        rw [hsl] at hfin
        exact ⟨rfl, by simpa using hfin, (hF0.trans HF.out).setRow hMg _⟩
      · have hl1 : 1 ≤ bs.length := by
          rcases Nat.eq_zero_or_pos bs.length with h | h
          · exact absurd (List.eq_nil_of_length_eq_zero h) hl0
          · exact h
        clear hl0
        go_enter Tryz.func284, Tryz.ntmps284
        go_wp2_with fail
        refine (Tryz.Buffer_tryGrow_none_at b o _ bs.length cap n _ K0.out hl hm hr).mono ?_
        rintro e w1 ⟨rfl, rfl⟩
        go_wp2_with fail
        refine (buf_grow_row M b o n g cap T cs 0 cur bs _ HB2.out hs H1.out HG2.out hl hm HC2.out HT2.out hMg hgb hb (hN.setCell _ _) hn1 hr hlim hl1).mono ?_
        clear hMg hgb hm hl hr
        rintro e w2 ⟨rfl, ⟨g, cap, cur, lr2, hblk, -, -, hg, hlc, hm, hcs, ht, hMg, hgb⟩, hfr⟩
        have c0 := buf_c0 hblk hs
        have hf2 := hblk.frozen
        have hcp := run_copy_row (P := Tryz.prog) w2 77 77 3 5 g bs.length n (cap - bs.length) a n c cur 5 (Lib.byteCells news) Tryz.underlying77 info5size hg (by rw [hbl]; exact (Nat.min_self n).symm) (HS.out.fr (hF0.trans hfr) ha) (by rw [hbl]; (try simp at hlc); omega) (Lib.byteCells_one _)
        rw [hbl] at hcp
        have hne : ¬ cap = bs.length := by (try simp at hlc); omega
        have hcap2 : bs.length + n ≤ cap := by (try simp at hlc); omega
        have HX := Lib.hid hblk
        have HG := Lib.hid hg
        have HC := Lib.hid hcs
        have HT := Lib.hid ht
        have HF := Lib.hid hfr
        clear hblk hg hcs ht hfr
        try simp only [List.length_nil, Nat.zero_add] at c0
        try simp only [Nat.sub_zero] at hcp
        have hm' := hm
        unfold maxLen at hm'
        go_wp2_with fail
        go_ret2
        have hfin := BufG.copied (bs := bs) (news := news) (by rw [hsl]; exact HX.out) hs H1.out HG.out (by rw [hsl]; exact hlc) hm HC.out HT.out hMg hgb
        rw [hsl] at hfin
        exact ⟨rfl, by simpa using hfin, (hF0.trans HF.out).setRow hMg _⟩




end Go.Proofs.YtlljphipglgjiaaGreatDoor
