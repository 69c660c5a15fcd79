/-
  (*bytes.Buffer).WriteByte: the buffer holds one byte more.
-/
import Derived.Test.YtlljphipglgjiaaGreatDoorXmGrow
namespace Go.Proofs.YtlljphipglgjiaaGreatDoor
open Go.RowKit

theorem byteCells_snoc (bs : List UInt8) (c : UInt8) : Lib.byteCells (bs ++ [c]) = Lib.byteCells bs ++ [Value.int .u8 c.toNat] := by simp [Lib.byteCells]

/-- The byte behind the first l cells stored. -/
theorem take_set_snoc {cur : Array Value} {bs : List UInt8} {cap : Nat} (c : UInt8) (hcs : cur.size = cap) (hl : bs.length + 1 ≤ cap) (ht : cur.toList.take bs.length = Lib.byteCells bs) :
    (cur.setIfInBounds bs.length (.int .u8 c.toNat)).toList.take (bs ++ [c]).length = Lib.byteCells (bs ++ [c]) := by
  rw [byteCells_snoc, ← ht, Array.toList_setIfInBounds, List.length_append, List.length_singleton]
  have hlen : bs.length < cur.toList.length := by
    have : cur.toList.length = cur.size := Array.length_toList
    omega
  rw [List.take_succ_eq_append_getElem (by rw [List.length_set]; exact hlen), List.getElem_set_self, List.take_set_of_le (Nat.le_refl _)]

/-- Behind growing by one, the byte stored: the buffer holds it. -/
theorem BufG.put {M : Nat → Prop} {w : World} {b o g cap : Nat} {T : TypeId} {cs cur : Array Value} {bs : List UInt8} {lr : Int} (c : UInt8)
    (hblk : Blk w b T ((cs.setIfInBounds o (.slice (some ⟨g, 0, none⟩) (bs.length + 1) cap)).setIfInBounds (o + 2) (.int .i8 lr))) (hs : o + 2 < cs.size) (h1 : cs[o + 1]? = some (.int .i64 0))
    (hg : w.heap[g]? = some (.cells cur 5 (0, 0))) (hl : bs.length + 1 ≤ cap) (hm : cap ≤ maxLen) (hcs : cur.size = cap) (ht : cur.toList.take bs.length = Lib.byteCells bs) (hMg : M g) (hgb : g ≠ b) :
    BufM M (w.setCell ⟨g, bs.length, none⟩ (.int .u8 c.toNat)) b o T cs (bs ++ [c]) := by
  refine ⟨.slice (some ⟨g, 0, none⟩) (bs.length + 1) cap, lr, hblk.far (fun e => hgb e.symm) _, hs, h1, ?_, fun g' hg' => by cases hg'; exact ⟨hMg, hgb⟩⟩
  have hg' : Blk w g 5 cur := hg
  have := BufH.mk (bs := bs ++ [c]) (hg'.set bs.length (.int .u8 c.toNat)) (by simpa using hl) hm (by simpa using hcs) (take_set_snoc c hcs hl ht)
  simpa using this

theorem row_cell {w : World} {g cap : Nat} {cur : Array Value} (hg : w.heap[g]? = some (.cells cur 5 (0, 0))) (hcs : cur.size = cap) (i : Nat) (h : i < cap) : ∃ u, w.cell? ⟨g, i, none⟩ = some u := by
  have := cell_of_row w g i cur 5 (0, 0) hg
  rw [Array.getElem?_eq_getElem (by omega)] at this
  exact ⟨_, this⟩
theorem row_free {w : World} {g : Nat} {cur : Array Value} (hg : w.heap[g]? = some (.cells cur 5 (0, 0))) (i : Nat) : w.frozen? ⟨g, i, none⟩ = false := by simp [World.frozen?, hg]

set_option maxRecDepth 100000 in
set_option maxHeartbeats 1000000 in
theorem buf_WriteByte (M : Nat → Prop) (b o : Nat) (T : TypeId) (cs : Array Value) (bs : List UInt8) (c : UInt8) (w : World) (h : BufM M w b o T cs bs) (hb : M b) (hN : New M w) (hlim : bs.length + 1 ≤ 1000000000) :
    Calls Tryz.prog 159 #[.pointer (some ⟨b, o, none⟩), .int .u8 c.toNat] w fun e w' => e = .returned .nilIface ∧ BufM M w' b o T cs (bs ++ [c]) ∧ Fr M w w' := by
  obtain ⟨buf, lr, hblk, hs, h1, hB, hM⟩ := h
  have hf := hblk.frozen
  have c2 := buf_c2 hblk hs
  have HB := Lib.hid hblk
  have H1 := Lib.hid h1
  clear hblk h1
  have hb2 := buf_set2 HB.out 0
  have HB2 := Lib.hid hb2
  have k0 := buf_c0 hb2 hs
  have K0 := Lib.hid k0
  have kf := hb2.frozen
  have KF := Lib.hid kf
  clear hb2 k0 kf
  have hF0 : Fr M w (w.setCell ⟨b, o + 2, none⟩ (.int .i8 0)) := (Fr.refl _ _).setCell hb _
  rcases hB.cases with ⟨rfl, rfl⟩ | ⟨g, cap, cur, rfl, hg, hl, hm, hcs, ht⟩
  · clear hB hM
    go_enter Tryz.func159, Tryz.ntmps159
    go_wp2_with fail
    refine (Tryz.Buffer_tryGrow_none_at b o none 0 0 1 _ K0.out (Nat.le_refl _) (by unfold maxLen; omega) (by omega)).mono ?_
    rintro e w1 ⟨rfl, rfl⟩
    go_wp2_with fail
    refine (buf_grow_nil_small M b o 1 T cs 0 _ HB2.out hs H1.out hb (hN.setCell _ _) (by omega) (by omega)).mono ?_
    rintro e w2 ⟨rfl, ⟨g, cap, cur, lr2, hblk, -, -, hg, hlc, hm, hcs, ht, hMg, hgb⟩, hfr⟩
    have c0 := buf_c0 hblk hs
    have hf2 := hblk.frozen
    obtain ⟨u, hgc⟩ := row_cell hg hcs 0 (by (try simp at hlc); omega)
    have hgf := row_free hg 0
    have HX := Lib.hid hblk
    have HG := Lib.hid hg
    have HC := Lib.hid hcs
    have HT := Lib.hid ht
    have HF := Lib.hid hfr
    clear hblk hg hcs ht hfr
    have hlc' := hlc
    try simp only [List.length_nil, Nat.zero_add] at c0 hlc'
    have hm' := hm
    unfold maxLen at hm'
    go_wp2_with fail
    go_ret
    exact ⟨rfl, BufG.put (bs := []) c HX.out hs H1.out HG.out hlc hm HC.out HT.out hMg hgb, (hF0.trans HF.out).setCell hMg _⟩
  · obtain ⟨hMg, hgb⟩ := hM g rfl
    clear hB hM
    have hg2 : (w.setCell ⟨b, o + 2, none⟩ (.int .i8 0)).heap[g]? = some (.cells cur 5 (0, 0)) := (Below.heap_setCell _ _ _ _ hgb).trans hg
    have HG2 := Lib.hid hg2
    have HC2 := Lib.hid hcs
    have HT2 := Lib.hid ht
    clear hg2 hg hcs ht
    by_cases hroom : bs.length + 1 ≤ cap
    · go_enter Tryz.func159, Tryz.ntmps159
      go_wp2_with fail
      refine (Tryz.Buffer_tryGrow_room_at b o _ bs.length cap 1 _ K0.out (KF.out o) hl hm (by omega)).mono ?_
      rintro e w1 ⟨rfl, rfl⟩
      obtain ⟨w2, hw2⟩ : ∃ w2 : World, ((w.setCell ⟨b, o + 2, none⟩ (.int .i8 0)).setCell ⟨b, o, none⟩ (.slice (some ⟨g, 0, none⟩) (bs.length + 1) cap)) = w2 := ⟨_, rfl⟩
      have hblk : Blk w2 b T ((cs.setIfInBounds o (.slice (some ⟨g, 0, none⟩) (bs.length + 1) cap)).setIfInBounds (o + 2) (.int .i8 0)) := by rw [← hw2]; exact buf_set0 HB2.out _
      have hg : w2.heap[g]? = some (.cells cur 5 (0, 0)) := by rw [← hw2]; exact (Below.heap_setCell _ _ _ _ hgb).trans HG2.out
      have hfr : Fr M w w2 := by rw [← hw2]; exact hF0.setCell hb _
      have hcs := HC2.out
      have ht := HT2.out
      have hlc := hroom
      rw [hw2]
      clear hw2
      have c0 := buf_c0 hblk hs
      have hf2 := hblk.frozen
      obtain ⟨u, hgc⟩ := row_cell hg hcs bs.length (by (try simp at hlc); omega)
      have hgf := row_free hg bs.length
      have HX := Lib.hid hblk
      have HG := Lib.hid hg
      have HC := Lib.hid hcs
      have HT := Lib.hid ht
      have HF := Lib.hid hfr
      clear hblk hg hcs ht hfr
      have hlc' := hlc
      try simp only [List.length_nil, Nat.zero_add] at c0 hlc'
      have hm' := hm
      unfold maxLen at hm'
      go_wp2_with fail
      go_ret
      exact ⟨rfl, BufG.put (bs := bs) c HX.out hs H1.out HG.out hlc hm HC.out HT.out hMg hgb, HF.out.setCell hMg _⟩
    · have hr : cap - bs.length < 1 := by omega
      by_cases hl0 : bs = []
      · subst hl0
        simp only [List.length_nil] at hl hr K0 HB2
        go_enter Tryz.func159, Tryz.ntmps159
        go_wp2_with fail
        refine (Tryz.Buffer_tryGrow_none_at b o _ 0 cap 1 _ K0.out hl hm hr).mono ?_
        rintro e w1 ⟨rfl, rfl⟩
        go_wp2_with fail
        refine (buf_grow_row0 M b o 1 g cap T cs 0 cur _ HB2.out hs H1.out HG2.out hl hm HC2.out HT2.out hMg hgb hb (hN.setCell _ _) (by omega) hr (by omega)).mono ?_
        clear hMg hgb hm hl hr
        rintro e w2 ⟨rfl, ⟨g, cap, cur, lr2, hblk, -, -, hg, hlc, hm, hcs, ht, hMg, hgb⟩, hfr⟩
        have c0 := buf_c0 hblk hs
        have hf2 := hblk.frozen
        obtain ⟨u, hgc⟩ := row_cell hg hcs 0 (by (try simp at hlc); omega)
        have hgf := row_free hg 0
        have HX := Lib.hid hblk
        have HG := Lib.hid hg
        have HC := Lib.hid hcs
        have HT := Lib.hid ht
        have HF := Lib.hid hfr
        clear hblk hg hcs ht hfr
        have hlc' := hlc
        try simp only [List.length_nil, Nat.zero_add] at c0 hlc'
        have hm' := hm
        unfold maxLen at hm'
        go_wp2_with fail
        go_ret
        exact ⟨rfl, BufG.put (bs := []) c HX.out hs H1.out HG.out hlc hm HC.out HT.out hMg hgb, (hF0.trans HF.out).setCell hMg _⟩
      · have hl1 : 1 ≤ bs.length := by
          rcases Nat.eq_zero_or_pos bs.length with h | h
          · exact absurd (List.eq_nil_of_length_eq_zero h) hl0
          · exact h
        clear hl0
        go_enter Tryz.func159, Tryz.ntmps159
        go_wp2_with fail
        refine (Tryz.Buffer_tryGrow_none_at b o _ bs.length cap 1 _ K0.out hl hm hr).mono ?_
        rintro e w1 ⟨rfl, rfl⟩
        go_wp2_with fail
        refine (buf_grow_row M b o 1 g cap T cs 0 cur bs _ HB2.out hs H1.out HG2.out hl hm HC2.out HT2.out hMg hgb hb (hN.setCell _ _) (by omega) hr hlim hl1).mono ?_
        clear hMg hgb hm hl hr
        rintro e w2 ⟨rfl, ⟨g, cap, cur, lr2, hblk, -, -, hg, hlc, hm, hcs, ht, hMg, hgb⟩, hfr⟩
        have c0 := buf_c0 hblk hs
        have hf2 := hblk.frozen
        obtain ⟨u, hgc⟩ := row_cell hg hcs bs.length (by (try simp at hlc); omega)
        have hgf := row_free hg bs.length
        have HX := Lib.hid hblk
        have HG := Lib.hid hg
        have HC := Lib.hid hcs
        have HT := Lib.hid ht
        have HF := Lib.hid hfr
        clear hblk hg hcs ht hfr
        have hlc' := hlc
        try simp only [List.length_nil, Nat.zero_add] at c0 hlc'
        have hm' := hm
        unfold maxLen at hm'
        go_wp2_with fail
        go_ret
        exact ⟨rfl, BufG.put (bs := bs) c HX.out hs H1.out HG.out hlc hm HC.out HT.out hMg hgb, (hF0.trans HF.out).setCell hMg _⟩

end Go.Proofs.YtlljphipglgjiaaGreatDoor
