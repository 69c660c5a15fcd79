/-
  The buffer once more: what writing a byte leaves of the row that was there; that a buffer that is no nil stays so.
-/
import Derived.Test.YtlljphipglgjiaaGreatDoorXmWrite2
namespace Go.Proofs.YtlljphipglgjiaaGreatDoor
open Go.RowKit

set_option maxRecDepth 100000 in
set_option maxHeartbeats 1000000 in
theorem buf_grow_keep (M : Nat → Prop) (b o n g cap : Nat) (T : TypeId) (cs : Array Value) (lr : Int) (cur : Array Value) (bs : List UInt8) (w : World)
    (hblk : Blk w b T ((cs.setIfInBounds o (.slice (some ⟨g, 0, none⟩) bs.length cap)).setIfInBounds (o + 2) (.int .i8 lr)))
    (hs : o + 2 < cs.size) (h1 : cs[o + 1]? = some (.int .i64 0)) (hg : w.heap[g]? = some (.cells cur 5 (0, 0))) (hlc : bs.length ≤ cap) (hcm : cap ≤ maxLen) (hcs : cur.size = cap) (ht : cur.toList.take bs.length = Lib.byteCells bs)
    (hMg : M g) (hgb : g ≠ b) (hb : M b) (hN : New M w) (hn : 1 ≤ n) (hroom : cap - bs.length < n) (hlim : bs.length + n ≤ 1000000000) (hl : 1 ≤ bs.length) :
    Calls Tryz.prog 195 #[.pointer (some ⟨b, o, none⟩), .int .i64 n] w fun e w' => e = .returned (.int .i64 bs.length) ∧ BufG M w' b o T cs bs n ∧ Fr M w w' ∧ w'.heap[g]? = some (.cells cur 5 (0, 0)) := by
  have c0 := buf_c0 hblk hs
  have c1 := buf_c1 hblk h1
  have hf := hblk.frozen
  have hbm : BufM M w b o T cs bs := ⟨_, _, hblk, hs, h1, BufH.mk hg hlc hcm hcs ht, fun g' hg' => by cases hg'; exact ⟨hMg, hgb⟩⟩
  have HBM := Lib.hid hbm
  have HB := Lib.hid hblk
  have H1 := Lib.hid h1
  have HG := Lib.hid hg
  have HC := Lib.hid hcs
  have HT := Lib.hid ht
  have hlt := hblk.lt
  have hu : ∀ v ∈ cur.toList.take bs.length, v.oneCell' = true := by
    rw [ht]; intro v hv; simp only [Lib.byteCells, List.mem_map] at hv; obtain ⟨x, _, rfl⟩ := hv; rfl
  have HU := Lib.hid hu
  have hnil : ∀ W, (binOp .eql 77 (.slice (some ⟨g, 0, none⟩) bs.length cap) (.slice none 0 0)).run Tryz.prog W = .ok (.bool false) W := fun W => Lib.run_eql_slice_some_nil W _ _ _ Tryz.underlying77
  have hl1 : bs.length ≤ 1000000000 := by omega
  have hcm' := hcm
  unfold maxLen at hcm'
  clear hblk h1 hbm hu hg hcs ht
  have hwn : IntKind.i64.wrap (n : Int) = n := by rw [IntKind.wrap_i64]; omega
  have hrem : cap - bs.length < n := hroom
  have hl0 : ((bs.length : Int) == 0) = false := by rw [beq_eq_false_iff_ne]; omega
  go_enter Tryz.func195, Tryz.ntmps195
  go_wp2_with fail
  refine (buf_Len M b o T cs bs _ HBM.out hl1).mono ?_
  rintro e w1 ⟨rfl, k, rfl⟩
  go_wp2_with fail
  refine (Tryz.Buffer_tryGrow_none_at b o _ _ cap n _ (by simpa using c0) hlc hcm hroom).mono ?_
  rintro e w1 ⟨rfl, rfl⟩
  go_wp2_with fail
  go_region_with (
    go_at_call 216
    refine (Tryz.bytes_growSlice_row g bs.length cap n cur _ ?_ HC.out hlc hn (by omega) (by omega) HU.out).mono ?_
    exact HG.out
    rintro e w2 ⟨cap2, cells, rfl, hN2, hcsz, htk, hcap2, hcm2, hbel⟩
    have hb2 : Blk w2 b T ((cs.setIfInBounds o (.slice (some ⟨g, 0, none⟩) bs.length cap)).setIfInBounds (o + 2) (.int .i8 lr)) := (hbel.block b hlt).trans HB.out
    have d0 := buf_c0 hb2 hs
    have d1 := buf_c1 hb2 H1.out
    have e0 := hb2.frozen
    have HB2 := Lib.hid hb2
    have HN2 := Lib.hid hN2
    have HZ2 := Lib.hid hcsz
    have HT2 := Lib.hid htk
    have HBel := Lib.hid hbel
    clear hb2 hN2 hcsz htk hbel)
  all_goals (
    go_wp2
    go_ret
    refine ⟨rfl, ⟨w.heap.size, cap2, cells, lr, buf_set0 (buf_set1 (buf_set0 HB2.out _) H1.out) _, hs, H1.out, ?_, hcap2, hcm2, HZ2.out, HT2.out.trans HT.out, hN _ (Nat.le_refl _), by omega⟩,
      (((Fr.refl M w).drewN _).trans (Fr.below HBel.out (Nat.le_refl _) (hN.drewN _)) |>.setCell hb _ |>.setCell hb _ |>.setCell hb _), ?_⟩
    · rw [Below.heap_setCell _ _ _ _ (by show w.heap.size ≠ b; omega), Below.heap_setCell _ _ _ _ (by show w.heap.size ≠ b; omega), Below.heap_setCell _ _ _ _ (by show w.heap.size ≠ b; omega)]
      exact HN2.out
    · rw [Below.heap_setCell _ _ _ _ hgb, Below.heap_setCell _ _ _ _ hgb, Below.heap_setCell _ _ _ _ hgb]
      have hgl : g < w.heap.size := Blk.lt (t := 5) (cs := cur) HG.out
      exact (HBel.out.block g hgl).trans HG.out)


set_option maxRecDepth 100000 in
set_option maxHeartbeats 1000000 in
theorem buf_WriteByte_keep (M : Nat → Prop) (b o g cap : Nat) (T : TypeId) (cs cur : Array Value) (bs : List UInt8) (c : UInt8) (lr : Int) (w : World)
    (hblk : Blk w b T ((cs.setIfInBounds o (.slice (some ⟨g, 0, none⟩) bs.length cap)).setIfInBounds (o + 2) (.int .i8 lr))) (hs : o + 2 < cs.size) (h1 : cs[o + 1]? = some (.int .i64 0))
    (hg : w.heap[g]? = some (.cells cur 5 (0, 0))) (hl : bs.length ≤ cap) (hm : cap ≤ maxLen) (hcs : cur.size = cap) (ht : cur.toList.take bs.length = Lib.byteCells bs) (hMg : M g) (hgb : g ≠ b)
    (hb : M b) (hN : New M w) (hlim : bs.length + 1 ≤ 1000000000) (hl1 : 1 ≤ bs.length) :
    Calls Tryz.prog 159 #[.pointer (some ⟨b, o, none⟩), .int .u8 c.toNat] w fun e w' => e = .returned .nilIface ∧ BufM M w' b o T cs (bs ++ [c]) ∧ Fr M w w' ∧
      ∃ cur', w'.heap[g]? = some (.cells cur' 5 (0, 0)) ∧ cur'.size = cap ∧ cur'.toList.take bs.length = Lib.byteCells bs := by
  have hf := hblk.frozen
  have c2 := buf_c2 hblk hs
  have HB := Lib.hid hblk
  have H1 := Lib.hid h1
  clear hblk h1
  have hb2 := buf_set2 HB.out 0
  have HB2 := Lib.hid hb2
  have k0 := buf_c0 hb2 hs
  have K0 := Lib.hid k0
  have kf := hb2.frozen
  have KF := Lib.hid kf
  clear hb2 k0 kf
  have hF0 : Fr M w (w.setCell ⟨b, o + 2, none⟩ (.int .i8 0)) := (Fr.refl _ _).setCell hb _
  have hg2 : (w.setCell ⟨b, o + 2, none⟩ (.int .i8 0)).heap[g]? = some (.cells cur 5 (0, 0)) := (Below.heap_setCell _ _ _ _ hgb).trans hg
  have HG2 := Lib.hid hg2
  have HC2 := Lib.hid hcs
  have HT2 := Lib.hid ht
  clear hg2 hg hcs ht
  by_cases hroom : bs.length + 1 ≤ cap
  · go_enter Tryz.func159, Tryz.ntmps159
    go_wp2_with fail
    refine (Tryz.Buffer_tryGrow_room_at b o _ bs.length cap 1 _ K0.out (KF.out o) hl hm (by omega)).mono ?_
    rintro e w1 ⟨rfl, rfl⟩
    obtain ⟨w2, hw2⟩ : ∃ w2 : World, ((w.setCell ⟨b, o + 2, none⟩ (.int .i8 0)).setCell ⟨b, o, none⟩ (.slice (some ⟨g, 0, none⟩) (bs.length + 1) cap)) = w2 := ⟨_, rfl⟩
    have hblk : Blk w2 b T ((cs.setIfInBounds o (.slice (some ⟨g, 0, none⟩) (bs.length + 1) cap)).setIfInBounds (o + 2) (.int .i8 0)) := by rw [← hw2]; exact buf_set0 HB2.out _
    have hg : w2.heap[g]? = some (.cells cur 5 (0, 0)) := by rw [← hw2]; exact (Below.heap_setCell _ _ _ _ hgb).trans HG2.out
    have hfr : Fr M w w2 := by rw [← hw2]; exact hF0.setCell hb _
    have hcs := HC2.out
    have ht := HT2.out
    have hlc := hroom
    rw [hw2]
    clear hw2
    have c0 := buf_c0 hblk hs
    have hf2 := hblk.frozen
    obtain ⟨u, hgc⟩ := row_cell hg hcs bs.length (by omega)
    have hgf := row_free hg bs.length
    have HX := Lib.hid hblk
    have HG := Lib.hid hg
    have HC := Lib.hid hcs
    have HT := Lib.hid ht
    have HF := Lib.hid hfr
    clear hblk hg hcs ht hfr
    have hm' := hm
    unfold maxLen at hm'
    go_wp2_with fail
    go_ret
    refine ⟨rfl, BufG.put (bs := bs) c HX.out hs H1.out HG.out hlc hm HC.out HT.out hMg hgb, HF.out.setCell hMg _, cur.setIfInBounds bs.length (.int .u8 c.toNat), ?_, by rw [Array.size_setIfInBounds]; exact HC.out, ?_⟩
    · have hx : Blk w2 g 5 cur := HG.out
      exact hx.set bs.length _
    · rw [Array.toList_setIfInBounds, List.take_set_of_le (Nat.le_refl _)]
      exact HT.out
  · have hr : cap - bs.length < 1 := by omega
    go_enter Tryz.func159, Tryz.ntmps159
    go_wp2_with fail
    refine (Tryz.Buffer_tryGrow_none_at b o _ bs.length cap 1 _ K0.out hl hm hr).mono ?_
    rintro e w1 ⟨rfl, rfl⟩
    go_wp2_with fail
    refine (buf_grow_keep M b o 1 g cap T cs 0 cur bs _ HB2.out hs H1.out HG2.out hl hm HC2.out HT2.out hMg hgb hb (hN.setCell _ _) (by omega) hr hlim hl1).mono ?_
    rintro e w2 ⟨rfl, ⟨g2, cap2, cur2, lr2, hblk, -, -, hg, hlc, hm2, hcs, ht, hMg2, hgb2⟩, hfr, hold⟩
    have hne : g2 ≠ g := by
      rintro rfl
      rw [hold] at hg
      have e : cur = cur2 := by injection hg with hg; injection hg with hg
      have := HC2.out
      rw [e] at this
      omega
    have c0 := buf_c0 hblk hs
    have hf2 := hblk.frozen
    obtain ⟨u, hgc⟩ := row_cell hg hcs bs.length (by omega)
    have hgf := row_free hg bs.length
    have HX := Lib.hid hblk
    have HG := Lib.hid hg
    have HC := Lib.hid hcs
    have HT := Lib.hid ht
    have HF := Lib.hid hfr
    have HO := Lib.hid hold
    clear hblk hg hcs ht hfr hold
    have hm' := hm2
    unfold maxLen at hm'
    go_wp2_with fail
    go_ret
    exact ⟨rfl, BufG.put (bs := bs) c HX.out hs H1.out HG.out hlc hm2 HC.out HT.out hMg2 hgb2, (hF0.trans HF.out).setCell hMg2 _, cur, by rw [Below.heap_setCell _ _ _ _ (Ne.symm hne)]; exact HO.out, HC2.out, HT2.out⟩

end Go.Proofs.YtlljphipglgjiaaGreatDoor
