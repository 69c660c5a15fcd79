/-
  (*bytes.Buffer).Write (printed by gen_wr.py: buf_WriteString turned), WriteRune of ASCII, String.
  DERIVED: THE SHELF's CONTRACTS AT THIS DUMP, IN PLAIN WORDS (tools/lay-plain.mjs out of 'TryzShelfB.lean', which tools/lay-shelf.mjs wrote): THE SAME DECLARATIONS UNDER THE SAME NAMES: 'import', 'namespace', 'open', 'def', 'theorem' AND NOTHING ELSE: no command of the shelf's: FOR A HAND-IN. Each laying: the table of numbers ('.._ren') and one theorem, a field a fact of the dump's own or the kernel's comparison; each contract: ONE APPLICATION.
  The encoder's writer: a bytes.Buffer that stands alone, behind an interface.
-/
import Derived.Test.YtlljphipglgjiaaGreatDoorXmWrite2
import Derived.Laws.CopyRow
import Derived.Shelf.LaysM
import Derived.Shelf.Bytes.String
import Derived.Shelf.Unicode.Decode
import Derived.Shelf.Unicode.DecodeAny
import Derived.Test.YtlljphipglgjiaaGreatDoorProg
namespace Go.Proofs.YtlljphipglgjiaaGreatDoor
open Go.RowKit

/-- The bytes news lie from a on. -/
def SrcB (w : World) (a : Addr) (news : List UInt8) : Prop := ∀ j v, (Lib.byteCells news)[j]? = some v → w.cell? (a.add j) = some v
theorem SrcB.fr {M : Nat → Prop} {w w' : World} {a : Addr} {news : List UInt8} (h : SrcB w a news) (hf : Fr M w w') (ha : ¬ M a.block) : SrcB w' a news := fun j v hj => by
  rw [← h j v hj]
  have hb : (a.add j).block = a.block := by unfold Addr.add; split <;> rfl
  simp only [World.cell?, hb, hf.block _ ha]

set_option maxRecDepth 100000 in
set_option maxHeartbeats 2000000 in
theorem buf_Write (M : Nat → Prop) (b o : Nat) (T : TypeId) (cs : Array Value) (bs : List UInt8) (news : List UInt8) (n : Nat) (a : Addr) (c : Nat) (w : World) (h : BufM M w b o T cs bs) (hb : M b) (hN : New M w) (hsl : news.length = n) (hsrc : SrcB w a news) (ha : ¬ M a.block) (hlim : bs.length + n ≤ 1000000000) :
    Calls Tryz.prog 284 #[.pointer (some ⟨b, o, none⟩), .slice (some a) n c] w fun e w' => e = .returned (.tuple #[.int .i64 n, .nilIface]) ∧ BufM M w' b o T cs (bs ++ news) ∧ Fr M w w' := by
  obtain ⟨buf, lr, hblk, hs, h1, hB, hM⟩ := h
  have hbl : (Lib.byteCells news).length = n := by rw [Lib.byteCells_length, hsl]
  have HS := Lib.hid hsrc
  clear hsrc
  have hf := hblk.frozen
  have c2 := buf_c2 hblk hs
  have HB := Lib.hid hblk
  have H1 := Lib.hid h1
  clear hblk h1
  have hb2 := buf_set2 HB.out 0
  have HB2 := Lib.hid hb2
  have k0 := buf_c0 hb2 hs
  have K0 := Lib.hid k0
  have kf := hb2.frozen
  have KF := Lib.hid kf
  clear hb2 k0 kf
  have hF0 : Fr M w (w.setCell ⟨b, o + 2, none⟩ (.int .i8 0)) := (Fr.refl _ _).setCell hb _
  by_cases hz : n = 0
  · subst hz
    have hz' : Hid ((0 : Nat) = 0) := Lib.hid rfl
    have hcp := fun (W : World) (d : Option Addr) (l k : Nat) => run_copy_none (P := Tryz.prog) W 77 77 3 5 d (some a) l k 0 c Tryz.underlying77 info5size (by simp)
    have hnil : news = [] := List.eq_nil_of_length_eq_zero (by omega)
    have HN := Lib.hid hnil
    clear hnil
    have hcp0 : ∀ (W : World) (d : Option Addr) (l k : Nat), (Builtin.copy_ #[77, 77] 3 #[.slice d l k, .slice (some a) 0 c]).run Tryz.prog W = .ok (.int .i64 0) W := fun W d l k => hcp W d l k
    clear hcp
    rcases hB.cases with ⟨rfl, rfl⟩ | ⟨g, cap, cur, rfl, hg, hl, hm, hcs, ht⟩
    · go_enter Tryz.func284, Tryz.ntmps284
      go_wp2_with fail
      refine (Tryz.Buffer_tryGrow_room_at b o none 0 0 0 _ K0.out (KF.out o) (Nat.le_refl _) (by unfold maxLen; omega) (by omega)).mono ?_
      rintro e w1 ⟨rfl, rfl⟩
      obtain ⟨w2, hw2⟩ : ∃ w2 : World, ((w.setCell ⟨b, o + 2, none⟩ (.int .i8 0)).setCell ⟨b, o, none⟩ (.slice none (0 + 0) 0)) = w2 := ⟨_, rfl⟩
      have hblk : Blk w2 b T ((cs.setIfInBounds o (.slice none 0 0)).setIfInBounds (o + 2) (.int .i8 0)) := by rw [← hw2]; exact buf_set0 HB2.out _
      have hfr : Fr M w w2 := by rw [← hw2]; exact hF0.setCell hb _
      rw [hw2]
      clear hw2
      have c0 := buf_c0 hblk hs
      have HX := Lib.hid hblk
      have HF := Lib.hid hfr
      clear hblk hfr
      go_wp2_with fail
      go_ret2
      refine ⟨by first | rfl | (rw [hz'.out]; rfl), ?_, HF.out⟩
      rw [HN.out]
      exact ⟨_, _, HX.out, hs, H1.out, BufH.nil _, fun g hg => by cases hg⟩
    · obtain ⟨hMg, hgb⟩ := hM g rfl
      have HM := Lib.hid hM
      have HG := Lib.hid hg
      have HC := Lib.hid hcs
      have HT := Lib.hid ht
      clear hM hg hcs ht
      go_enter Tryz.func284, Tryz.ntmps284
      go_wp2_with fail
      refine (Tryz.Buffer_tryGrow_room_at b o _ bs.length cap 0 _ K0.out (KF.out o) hl hm (by omega)).mono ?_
      rintro e w1 ⟨rfl, rfl⟩
      obtain ⟨w2, hw2⟩ : ∃ w2 : World, ((w.setCell ⟨b, o + 2, none⟩ (.int .i8 0)).setCell ⟨b, o, none⟩ (.slice (some ⟨g, 0, none⟩) (bs.length + 0) cap)) = w2 := ⟨_, rfl⟩
      have hblk : Blk w2 b T ((cs.setIfInBounds o (.slice (some ⟨g, 0, none⟩) bs.length cap)).setIfInBounds (o + 2) (.int .i8 0)) := by rw [← hw2]; exact buf_set0 HB2.out _
      have hfr : Fr M w w2 := by rw [← hw2]; exact hF0.setCell hb _
      have hg : w2.heap[g]? = some (.cells cur 5 (0, 0)) := by rw [← hw2]; exact (Below.heap_setCell _ _ _ _ hgb).trans ((Below.heap_setCell _ _ _ _ hgb).trans HG.out)
      rw [hw2]
      clear hw2
      have c0 := buf_c0 hblk hs
      have HX := Lib.hid hblk
      have HF := Lib.hid hfr
      have HG2 := Lib.hid hg
      clear hblk hfr hg
      have hm' := hm
      unfold maxLen at hm'
      go_wp2_with fail
      all_goals go_ret2
      all_goals
        refine ⟨by first | rfl | (rw [hz'.out]; rfl), ?_, HF.out⟩
        rw [HN.out]
        exact ⟨_, _, HX.out, hs, H1.out, by rw [List.append_nil]; exact BufH.mk HG2.out hl hm HC.out HT.out, fun g' hg' => by cases hg'; exact ⟨hMg, hgb⟩⟩
  have hn1 : 1 ≤ n := by omega
  clear hz
  rcases hB.cases with ⟨rfl, rfl⟩ | ⟨g, cap, cur, rfl, hg, hl, hm, hcs, ht⟩
  · clear hB hM
    by_cases h64 : n ≤ 64
    · go_enter Tryz.func284, Tryz.ntmps284
      go_wp2_with fail
      refine (Tryz.Buffer_tryGrow_none_at b o none 0 0 n _ K0.out (Nat.le_refl _) (by unfold maxLen; omega) (by omega)).mono ?_
      rintro e w1 ⟨rfl, rfl⟩
      go_wp2_with fail
      refine (buf_grow_nil_small M b o n T cs 0 _ HB2.out hs H1.out hb (hN.setCell _ _) hn1 h64).mono ?_
      rintro e w2 ⟨rfl, ⟨g, cap, cur, lr2, hblk, -, -, hg, hlc, hm, hcs, ht, hMg, hgb⟩, hfr⟩
      have c0 := buf_c0 hblk hs
      have hf2 := hblk.frozen
      have hcp := run_copy_row (P := Tryz.prog) w2 77 77 3 5 g 0 n (cap - 0) a n c cur 5 (Lib.byteCells news) Tryz.underlying77 info5size hg (by rw [hbl]; exact (Nat.min_self n).symm) (HS.out.fr (hF0.trans hfr) ha) (by rw [hbl]; (try simp at hlc); omega) (Lib.byteCells_one _)
      rw [hbl] at hcp
      have hne : ¬ cap = 0 := by (try simp at hlc); omega
      have hcap2 : 0 + n ≤ cap := by (try simp at hlc); omega
      have HX := Lib.hid hblk
      have HG := Lib.hid hg
      have HC := Lib.hid hcs
      have HT := Lib.hid ht
      have HF := Lib.hid hfr
      clear hblk hg hcs ht hfr
      try simp only [List.length_nil, Nat.zero_add] at c0
      try simp only [Nat.sub_zero] at hcp
      have hm' := hm
      unfold maxLen at hm'
      go_wp2_with fail
      go_ret2
      have hfin := BufG.copied (bs := []) (news := news) (by rw [hsl]; exact HX.out) hs H1.out HG.out (by rw [hsl]; exact hlc) hm HC.out HT.out hMg hgb
      rw [hsl] at hfin
      exact ⟨rfl, by simpa using hfin, (hF0.trans HF.out).setRow hMg _⟩
    · go_enter Tryz.func284, Tryz.ntmps284
      go_wp2_with fail
      refine (Tryz.Buffer_tryGrow_none_at b o none 0 0 n _ K0.out (Nat.le_refl _) (by unfold maxLen; omega) (by omega)).mono ?_
      rintro e w1 ⟨rfl, rfl⟩
      go_wp2_with fail
      refine (buf_grow_nil_big M b o n T cs 0 _ HB2.out hs H1.out hb (hN.setCell _ _) (by omega) (by simp at hlim; omega)).mono ?_
      rintro e w2 ⟨rfl, ⟨g, cap, cur, lr2, hblk, -, -, hg, hlc, hm, hcs, ht, hMg, hgb⟩, hfr⟩
      have c0 := buf_c0 hblk hs
      have hf2 := hblk.frozen
      have hcp := run_copy_row (P := Tryz.prog) w2 77 77 3 5 g 0 n (cap - 0) a n c cur 5 (Lib.byteCells news) Tryz.underlying77 info5size hg (by rw [hbl]; exact (Nat.min_self n).symm) (HS.out.fr (hF0.trans hfr) ha) (by rw [hbl]; (try simp at hlc); omega) (Lib.byteCells_one _)
      rw [hbl] at hcp
      have hne : ¬ cap = 0 := by (try simp at hlc); omega
      have hcap2 : 0 + n ≤ cap := by (try simp at hlc); omega
      have HX := Lib.hid hblk
      have HG := Lib.hid hg
      have HC := Lib.hid hcs
      have HT := Lib.hid ht
      have HF := Lib.hid hfr
      clear hblk hg hcs ht hfr
      try simp only [List.length_nil, Nat.zero_add] at c0
      try simp only [Nat.sub_zero] at hcp
      have hm' := hm
      unfold maxLen at hm'
      go_wp2_with fail
      go_ret2
      have hfin := BufG.copied (bs := []) (news := news) (by rw [hsl]; exact HX.out) hs H1.out HG.out (by rw [hsl]; exact hlc) hm HC.out HT.out hMg hgb
      rw [hsl] at hfin
      exact ⟨rfl, by simpa using hfin, (hF0.trans HF.out).setRow hMg _⟩
  · obtain ⟨hMg, hgb⟩ := hM g rfl
    clear hB hM
    have hg2 : (w.setCell ⟨b, o + 2, none⟩ (.int .i8 0)).heap[g]? = some (.cells cur 5 (0, 0)) := (Below.heap_setCell _ _ _ _ hgb).trans hg
    have HG2 := Lib.hid hg2
    have HC2 := Lib.hid hcs
    have HT2 := Lib.hid ht
    clear hg2 hg hcs ht
    by_cases hroom : bs.length + n ≤ cap
    · go_enter Tryz.func284, Tryz.ntmps284
      go_wp2_with fail
      refine (Tryz.Buffer_tryGrow_room_at b o _ bs.length cap n _ K0.out (KF.out o) hl hm (by omega)).mono ?_
      rintro e w1 ⟨rfl, rfl⟩
      obtain ⟨w2, hw2⟩ : ∃ w2 : World, ((w.setCell ⟨b, o + 2, none⟩ (.int .i8 0)).setCell ⟨b, o, none⟩ (.slice (some ⟨g, 0, none⟩) (bs.length + n) cap)) = w2 := ⟨_, rfl⟩
      have hblk : Blk w2 b T ((cs.setIfInBounds o (.slice (some ⟨g, 0, none⟩) (bs.length + n) cap)).setIfInBounds (o + 2) (.int .i8 0)) := by rw [← hw2]; exact buf_set0 HB2.out _
      have hg : w2.heap[g]? = some (.cells cur 5 (0, 0)) := by rw [← hw2]; exact (Below.heap_setCell _ _ _ _ hgb).trans HG2.out
      have hfr : Fr M w w2 := by rw [← hw2]; exact hF0.setCell hb _
      have hcs := HC2.out
      have ht := HT2.out
      have hlc := hroom
      rw [hw2]
      clear hw2
      have c0 := buf_c0 hblk hs
      have hf2 := hblk.frozen
      have hcp := run_copy_row (P := Tryz.prog) w2 77 77 3 5 g bs.length n (cap - bs.length) a n c cur 5 (Lib.byteCells news) Tryz.underlying77 info5size hg (by rw [hbl]; exact (Nat.min_self n).symm) (HS.out.fr hfr ha) (by rw [hbl]; (try simp at hlc); omega) (Lib.byteCells_one _)
      rw [hbl] at hcp
      have hne : ¬ cap = bs.length := by (try simp at hlc); omega
      have hcap2 : bs.length + n ≤ cap := by (try simp at hlc); omega
      have HX := Lib.hid hblk
      have HG := Lib.hid hg
      have HC := Lib.hid hcs
      have HT := Lib.hid ht
      have HF := Lib.hid hfr
      clear hblk hg hcs ht hfr
      try simp only [List.length_nil, Nat.zero_add] at c0
      try simp only [Nat.sub_zero] at hcp
      have hm' := hm
      unfold maxLen at hm'
      go_wp2_with fail
      go_ret2
      have hfin := BufG.copied (bs := bs) (news := news) (by rw [hsl]; exact HX.out) hs H1.out HG.out (by rw [hsl]; exact hlc) hm HC.out HT.out hMg hgb
      rw [hsl] at hfin
      exact ⟨rfl, by simpa using hfin, HF.out.setRow hMg _⟩
    · have hr : cap - bs.length < n := by omega
      by_cases hl0 : bs = []
      · subst hl0
        simp only [List.length_nil] at hl hr K0 HB2
        go_enter Tryz.func284, Tryz.ntmps284
        go_wp2_with fail
        refine (Tryz.Buffer_tryGrow_none_at b o _ 0 cap n _ K0.out hl hm hr).mono ?_
        rintro e w1 ⟨rfl, rfl⟩
        go_wp2_with fail
        refine (buf_grow_row0 M b o n g cap T cs 0 cur _ HB2.out hs H1.out HG2.out hl hm HC2.out HT2.out hMg hgb hb (hN.setCell _ _) hn1 hr (by simp at hlim; omega)).mono ?_
        clear hMg hgb hm hl hr
        rintro e w2 ⟨rfl, ⟨g, cap, cur, lr2, hblk, -, -, hg, hlc, hm, hcs, ht, hMg, hgb⟩, hfr⟩
        have c0 := buf_c0 hblk hs
        have hf2 := hblk.frozen
        have hcp := run_copy_row (P := Tryz.prog) w2 77 77 3 5 g 0 n (cap - 0) a n c cur 5 (Lib.byteCells news) Tryz.underlying77 info5size hg (by rw [hbl]; exact (Nat.min_self n).symm) (HS.out.fr (hF0.trans hfr) ha) (by rw [hbl]; (try simp at hlc); omega) (Lib.byteCells_one _)
        rw [hbl] at hcp
        have hne : ¬ cap = 0 := by (try simp at hlc); omega
        have hcap2 : 0 + n ≤ cap := by (try simp at hlc); omega
        have HX := Lib.hid hblk
        have HG := Lib.hid hg
        have HC := Lib.hid hcs
        have HT := Lib.hid ht
        have HF := Lib.hid hfr
        clear hblk hg hcs ht hfr
        try simp only [List.length_nil, Nat.zero_add] at c0
        try simp only [Nat.sub_zero] at hcp
        have hm' := hm
        unfold maxLen at hm'
        go_wp2_with fail
        go_ret2
        have hfin := BufG.copied (bs := []) (news := news) (by rw [hsl]; exact HX.out) hs H1.out HG.out (by rw [hsl]; exact hlc) hm HC.out HT.out hMg hgb
        rw [hsl] at hfin
        exact ⟨rfl, by simpa using hfin, (hF0.trans HF.out).setRow hMg _⟩
      · have hl1 : 1 ≤ bs.length := by
          rcases Nat.eq_zero_or_pos bs.length with h | h
          · exact absurd (List.eq_nil_of_length_eq_zero h) hl0
          · exact h
        clear hl0
        go_enter Tryz.func284, Tryz.ntmps284
        go_wp2_with fail
        refine (Tryz.Buffer_tryGrow_none_at b o _ bs.length cap n _ K0.out hl hm hr).mono ?_
        rintro e w1 ⟨rfl, rfl⟩
        go_wp2_with fail
        refine (buf_grow_row M b o n g cap T cs 0 cur bs _ HB2.out hs H1.out HG2.out hl hm HC2.out HT2.out hMg hgb hb (hN.setCell _ _) hn1 hr hlim hl1).mono ?_
        clear hMg hgb hm hl hr
        rintro e w2 ⟨rfl, ⟨g, cap, cur, lr2, hblk, -, -, hg, hlc, hm, hcs, ht, hMg, hgb⟩, hfr⟩
        have c0 := buf_c0 hblk hs
        have hf2 := hblk.frozen
        have hcp := run_copy_row (P := Tryz.prog) w2 77 77 3 5 g bs.length n (cap - bs.length) a n c cur 5 (Lib.byteCells news) Tryz.underlying77 info5size hg (by rw [hbl]; exact (Nat.min_self n).symm) (HS.out.fr (hF0.trans hfr) ha) (by rw [hbl]; (try simp at hlc); omega) (Lib.byteCells_one _)
        rw [hbl] at hcp
        have hne : ¬ cap = bs.length := by (try simp at hlc); omega
        have hcap2 : bs.length + n ≤ cap := by (try simp at hlc); omega
        have HX := Lib.hid hblk
        have HG := Lib.hid hg
        have HC := Lib.hid hcs
        have HT := Lib.hid ht
        have HF := Lib.hid hfr
        clear hblk hg hcs ht hfr
        try simp only [List.length_nil, Nat.zero_add] at c0
        try simp only [Nat.sub_zero] at hcp
        have hm' := hm
        unfold maxLen at hm'
        go_wp2_with fail
        go_ret2
        have hfin := BufG.copied (bs := bs) (news := news) (by rw [hsl]; exact HX.out) hs H1.out HG.out (by rw [hsl]; exact hlc) hm HC.out HT.out hMg hgb
        rw [hsl] at hfin
        exact ⟨rfl, by simpa using hfin, (hF0.trans HF.out).setRow hMg _⟩




end Go.Proofs.YtlljphipglgjiaaGreatDoor

namespace Go.Proofs
open Go.Shelf
def Tryz.laysM182_ren : Go.Shelf.Ren := ⟨fun | 182 => 283 | n => n, fun | 130 => 84 | 9 => 9 | 4 => 4 | 0 => 0 | 93 => 146 | 37 => 77 | 3 => 3 | 91 => 144 | 5 => 5 | n => n, fun | n => n⟩
theorem Tryz.laysM182 : Go.Proofs.LaysM.n182 Tryz.prog Tryz.laysM182_ren := {
  mixed := by kernel_rfl
  f182 := Tryz.func283.trans (congrArg some (by kernel_rfl))
  t0 := Tryz.underlying0
  a0 := Tryz.isAgg0
  z0 := Tryz.sizeOf0
  v0 := Tryz.zeroValue0
  t3 := Tryz.underlying3
  a3 := Tryz.isAgg3
  z3 := Tryz.sizeOf3
  v3 := Tryz.zeroValue3
  t4 := Tryz.underlying4
  a4 := Tryz.isAgg4
  z4 := Tryz.sizeOf4
  v4 := Tryz.zeroValue4
  t9 := Tryz.underlying9
  a9 := Tryz.isAgg9
  z9 := Tryz.sizeOf9
  v9 := Tryz.zeroValue9
  t37 := Tryz.underlying77
  a37 := Tryz.isAgg77
  z37 := Tryz.sizeOf77
  v37 := Tryz.zeroValue77
  t93 := Tryz.underlying146
  a93 := Tryz.isAgg146
  z93 := Tryz.sizeOf146
  v93 := Tryz.zeroValue146
  t130 := Tryz.underlying84
  a130 := Tryz.isAgg84
  z130 := Tryz.sizeOf84
  v130 := Tryz.zeroValue84
  t5 := Tryz.underlying5
  a5 := Tryz.isAgg5
  z5 := Tryz.sizeOf5
  v5 := Tryz.zeroValue5
  t91 := Tryz.underlying144
  a91 := Tryz.isAgg144
  z91 := Tryz.sizeOf144
  v91 := Tryz.zeroValue144
  i0 := by kernel_rfl
  i3 := by kernel_rfl
  i4 := by kernel_rfl
  i5 := by kernel_rfl
  i9 := by kernel_rfl
  i37 := by kernel_rfl
  i91 := by kernel_rfl
  i93 := by kernel_rfl
  i130 := by kernel_rfl }
open Go.RowKit in
/-- (*bytes.Buffer).String: "String returns the contents of the unread portion of the buffer as a string.": THE BYTES THAT WERE WRITTEN. The world is as it was but for the count of draws (the statement has two reads: its order is drawn). (LAID: no walk: one application.) -/
theorem Tryz.Buffer_String (B b : Nat) (l : List UInt8) (w : World) (h : Lib.IsBuffer 146 5 B b (Lib.byteCells l) w) :
    Calls Tryz.prog 283 #[.pointer (some ⟨b, 0, none⟩)] w fun e w' => e = .returned (.string ⟨l.toArray⟩) ∧ ∃ n, w' = w.drewN n := Any.Buffer_String Tryz.laysM182 B b l w h
def Tryz.lays197_ren : Go.Shelf.Ren := ⟨fun | 197 => 168 | 260 => 198 | n => n, fun | 9 => 9 | 21 => 21 | 3 => 3 | 4 => 4 | 5 => 5 | 105 => 103 | 119 => 315 | 0 => 0 | 46 => 140 | 139 => 318 | 138 => 317 | n => n, fun | 3 => 4 | 4 => 5 | n => n⟩
theorem Tryz.lays197 : Go.Proofs.Lays.n197 Tryz.prog Tryz.lays197_ren := {
  mixed := by kernel_rfl
  f197 := Tryz.func168.trans (congrArg some (by kernel_rfl))
  f260 := Tryz.func198.trans (congrArg some (by kernel_rfl))
  t0 := Tryz.underlying0
  a0 := Tryz.isAgg0
  z0 := Tryz.sizeOf0
  v0 := Tryz.zeroValue0
  t3 := Tryz.underlying3
  a3 := Tryz.isAgg3
  z3 := Tryz.sizeOf3
  v3 := Tryz.zeroValue3
  t4 := Tryz.underlying4
  a4 := Tryz.isAgg4
  z4 := Tryz.sizeOf4
  v4 := Tryz.zeroValue4
  t5 := Tryz.underlying5
  a5 := Tryz.isAgg5
  z5 := Tryz.sizeOf5
  v5 := Tryz.zeroValue5
  t9 := Tryz.underlying9
  a9 := Tryz.isAgg9
  z9 := Tryz.sizeOf9
  v9 := Tryz.zeroValue9
  t21 := Tryz.underlying21
  a21 := Tryz.isAgg21
  z21 := Tryz.sizeOf21
  v21 := Tryz.zeroValue21
  t46 := Tryz.underlying140
  a46 := Tryz.isAgg140
  z46 := Tryz.sizeOf140
  v46 := Tryz.zeroValue140
  t105 := Tryz.underlying103
  a105 := Tryz.isAgg103
  z105 := Tryz.sizeOf103
  v105 := Tryz.zeroValue103
  t119 := Tryz.underlying315
  a119 := Tryz.isAgg315
  z119 := Tryz.sizeOf315
  t138 := Tryz.underlying317
  a138 := Tryz.isAgg317
  z138 := Tryz.sizeOf317
  v138 := Tryz.zeroValue317
  t139 := Tryz.underlying318
  a139 := Tryz.isAgg318
  z139 := Tryz.sizeOf318
  v139 := Tryz.zeroValue318
  g3 := by kernel_rfl
  g4 := by kernel_rfl }
open Go.RowKit Go.Lib in
/-- unicode/utf8.DecodeRuneInString: "DecodeRuneInString is like DecodeRune but its input is a string.": ("DecodeRune unpacks the first UTF-8 encoding in p and returns the rune and its width in bytes."): WHERE s BEGINS WITH AN ASCII BYTE x: (x, 1). (LAID: no walk: one application.) -/
theorem Tryz.utf8_DecodeRuneInString_ascii (s : ByteArray) (x : UInt8) (w : World) (h0 : s.data.toList[0]? = some x) (hx : x.toNat < 128) :
    Calls Tryz.prog 168 #[.string s] w fun e w' => e = .returned (.tuple #[.int .i32 x.toNat, .int .i64 1]) ∧ w' = w := Any.utf8_DecodeRuneInString_ascii Tryz.lays197 s x w h0 hx
open Go.RowKit Go.Lib in
/-- **unicode/utf8.DecodeRuneInString AT EVERY STRING.** (LAID: no walk: one application.) -/
theorem Tryz.utf8_DecodeRuneInString (s : ByteArray) (w : World) (hT : Lib.Utf8Tabs 4 5 w) :
    Calls Tryz.prog 168 #[.string s] w fun e w' => e = .returned (.tuple #[.int .i32 (Lib.decodeGo s).1, .int .i64 (Lib.decodeGo s).2]) ∧ Below w.heap.size w w' := Any.utf8_DecodeRuneInString Tryz.lays197 s w hT
end Go.Proofs

namespace Go.Proofs.YtlljphipglgjiaaGreatDoor
open Go.RowKit

/-- The two tables of unicode/utf8 lie where they lie, and do not turn. -/
def Tabs (M : Nat → Prop) (w : World) : Prop := Lib.Utf8Tabs 4 5 w ∧ ¬ M 4 ∧ ¬ M 5

theorem cell_fr {M : Nat → Prop} {w w' : World} (f : Fr M w w') {a : Addr} (ha : ¬ M a.block) : w'.cell? a = w.cell? a := by
  simp only [World.cell?, f.block _ ha]
theorem Tabs.fr {M : Nat → Prop} {w w' : World} (h : Tabs M w) (f : Fr M w w') : Tabs M w' :=
  ⟨⟨fun c hc => (cell_fr f h.2.1).trans (h.1.1 c hc), fun i hi => ⟨(cell_fr f h.2.2).trans (h.1.2 i hi).1, (cell_fr f h.2.2).trans (h.1.2 i hi).2⟩⟩, h.2⟩

def encCs : Array Value := #[.slice none 0 0, .int .i64 0, .int .i8 0]
/-- The encoder's buffer is the block b; it holds bs. -/
def EncB (M : Nat → Prop) (w : World) (b : Nat) (bs : List UInt8) : Prop := M b ∧ New M w ∧ Tabs M w ∧ bs.length ≤ 100000000 ∧ BufM M w b 0 146 encCs bs

theorem BufH.keep' {w w' : World} {bs : List UInt8} {buf : Value} (h : BufH w buf bs) (hk : ∀ g, buf.ownBlock = some g → ∀ cur, w.heap[g]? = some (.cells cur 5 (0, 0)) → w'.heap[g]? = some (.cells cur 5 (0, 0))) : BufH w' buf bs := by
  rcases h.cases with ⟨rfl, rfl⟩ | ⟨g, cap, cur, rfl, hg, hl, hm, hcs, ht⟩
  · exact BufH.nil _
  · exact BufH.mk (hk g rfl cur hg) hl hm hcs ht

/-- A step that turns only blocks to come leaves the buffer. -/
theorem EncB.fr {M : Nat → Prop} {w w' : World} {b : Nat} {bs : List UInt8} (h : EncB M w b bs) (f : Fr (fun k => w.heap.size ≤ k) w w') : EncB M w' b bs := by
  obtain ⟨hb, hN, hT, hl, buf, lr, hblk, hs, h1, hB, hM⟩ := h
  have f' : Fr M w w' := f.mono fun x hx => hN x hx
  refine ⟨hb, hN.fr f, hT.fr f', hl, buf, lr, hblk.fr f (by have := hblk.lt; omega), hs, h1, hB.keep' fun g hg cur hcur => f.heap hcur ?_, hM⟩
  have : Blk w g 5 cur := hcur
  have := this.lt
  omega
theorem Fr.ofBelow {w w' : World} (h : Below w.heap.size w w') : Fr (fun k => w.heap.size ≤ k) w w' := Fr.below h (Nat.le_refl _) fun _ hk => hk
theorem EncB.new {M : Nat → Prop} {w w' : World} {b : Nat} {bs : List UInt8} (h : EncB M w b bs) (f : Below w.heap.size w w') : EncB M w' b bs ∧ Fr M w w' :=
  ⟨h.fr (Fr.ofBelow f), (Fr.ofBelow f).mono fun x hx => h.2.1 x hx⟩
/-- With the block to come taken out of those that may turn. -/
theorem EncB.but {M : Nat → Prop} {w : World} {b : Nat} {bs : List UInt8} (h : EncB M w b bs) (o : Obj) : EncB (fun k => M k ∧ k ≠ w.heap.size) (w.alloc o) b bs := by
  obtain ⟨hb, hN, hT, hl, buf, lr, hblk, hs, h1, hB, hM⟩ := h
  have f : Fr (fun k => w.heap.size ≤ k) w (w.alloc o) := (Fr.refl _ _).alloc (fun k hk => hk) o
  have hT' := hT.fr ((Fr.refl M w).alloc hN o)
  refine ⟨⟨hb, by have := hblk.lt; omega⟩, fun k hk => ?_, ⟨hT'.1, fun h => hT'.2.1 h.1, fun h => hT'.2.2 h.1⟩, hl, buf, lr, hblk.fr f (by have := hblk.lt; omega), hs, h1, hB.keep' fun g hg cur hcur => f.heap hcur ?_, fun g hg => ?_⟩
  · simp at hk
    exact ⟨hN k (by omega), by omega⟩
  · have : Blk w g 5 cur := hcur
    have := this.lt
    omega
  · refine ⟨⟨(hM g hg).1, ?_⟩, (hM g hg).2⟩
    rcases hB.cases with ⟨rfl, rfl⟩ | ⟨g', cap, cur, rfl, hg', hl, hm, hcs, ht⟩
    · cases hg
    · cases hg
      have h5 : Blk w g' 5 cur := hg'
      exact Nat.ne_of_lt h5.lt
theorem EncB.wide {M M' : Nat → Prop} {w : World} {b : Nat} {bs : List UInt8} (h : EncB M' w b bs) (hi : ∀ k, M' k → M k) (hT : Tabs M w) : EncB M w b bs := by
  obtain ⟨hb, hN, -, hl, buf, lr, hblk, hs, h1, hB, hM⟩ := h
  exact ⟨hi _ hb, fun k hk => hi _ (hN k hk), hT, hl, buf, lr, hblk, hs, h1, hB, fun g hg => ⟨hi _ (hM g hg).1, (hM g hg).2⟩⟩

theorem EncB.put {M : Nat → Prop} {w w' : World} {b : Nat} {bs bs' : List UInt8} (h : EncB M w b bs) (h2 : BufM M w' b 0 146 encCs bs') (f : Fr M w w') (hl : bs'.length ≤ 100000000) : EncB M w' b bs' :=
  ⟨h.1, h.2.1.fr f, h.2.2.1.fr f, hl, h2⟩

def wr (b : Nat) : Value := .iface 84 (.pointer (some ⟨b, 0, none⟩))

theorem enc_WriteString (M : Nat → Prop) (b : Nat) (bs : List UInt8) (s : ByteArray) (w : World) (h : EncB M w b bs) (hlim : bs.length + s.size ≤ 100000000) :
    Calls Tryz.prog 190 #[.pointer (some ⟨b, 0, none⟩), .string s] w fun e w' => e = .returned (.tuple #[.int .i64 s.size, .nilIface]) ∧ EncB M w' b (bs ++ s.data.toList) ∧ Fr M w w' := by
  have hsl : s.data.toList.length = s.size := by rw [Array.length_toList]; rfl
  refine (buf_WriteString M b 0 146 encCs bs s w h.2.2.2.2 h.1 h.2.1 (by omega)).mono ?_
  rintro e w' ⟨rfl, h1, hf⟩
  exact ⟨rfl, h.put h1 hf (by rw [List.length_append, hsl]; exact hlim), hf⟩
theorem enc_Write (M : Nat → Prop) (b : Nat) (bs news : List UInt8) (n : Nat) (a : Addr) (c : Nat) (w : World) (h : EncB M w b bs) (hsl : news.length = n) (hsrc : SrcB w a news) (ha : ¬ M a.block) (hlim : bs.length + n ≤ 100000000) :
    Calls Tryz.prog 284 #[.pointer (some ⟨b, 0, none⟩), .slice (some a) n c] w fun e w' => e = .returned (.tuple #[.int .i64 n, .nilIface]) ∧ EncB M w' b (bs ++ news) ∧ Fr M w w' := by
  refine (buf_Write M b 0 146 encCs bs news n a c w h.2.2.2.2 h.1 h.2.1 hsl hsrc ha (by omega)).mono ?_
  rintro e w' ⟨rfl, h1, hf⟩
  exact ⟨rfl, h.put h1 hf (by rw [List.length_append, hsl]; exact hlim), hf⟩

set_option maxRecDepth 100000 in
set_option maxHeartbeats 400000 in
theorem enc_WriteRune (M : Nat → Prop) (b : Nat) (bs : List UInt8) (c : UInt8) (w : World) (h : EncB M w b bs) (hc : c.toNat < 128) (hlim : bs.length + 1 ≤ 100000000) :
    Calls Tryz.prog 285 #[.pointer (some ⟨b, 0, none⟩), .int .i32 c.toNat] w fun e w' => e = .returned (.tuple #[.int .i64 1, .nilIface]) ∧ EncB M w' b (bs ++ [c]) ∧ Fr M w w' := by
  have hw1 : IntKind.u32.wrap (c.toNat : Int) = c.toNat := by rw [IntKind.wrap_u32]; omega
  have hw2 : IntKind.u8.wrap (c.toNat : Int) = c.toNat := by rw [IntKind.wrap_u8]; omega
  have HH := Lib.hid h
  clear h
  go_enter Tryz.func285, Tryz.ntmps285
  go_wp2_with fail
  refine (buf_WriteByte M b 0 146 encCs bs c w HH.out.2.2.2.2 HH.out.1 HH.out.2.1 (by omega)).mono ?_
  rintro e w' ⟨rfl, h1, hf⟩
  have H1 := Lib.hid h1
  have HF := Lib.hid hf
  clear h1 hf
  go_wp2_with fail
  go_ret2
  exact ⟨rfl, HH.out.put H1.out HF.out (by simpa using hlim), HF.out⟩

end Go.Proofs.YtlljphipglgjiaaGreatDoor
