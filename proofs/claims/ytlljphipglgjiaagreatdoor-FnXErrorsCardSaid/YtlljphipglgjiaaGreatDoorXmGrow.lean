/-
  (*bytes.Buffer).grow: the buffer grows by n bytes.
-/
import Derived.Test.YtlljphipglgjiaaGreatDoorXmLow
import Derived.Deep.RegionWith
namespace Go.Proofs.YtlljphipglgjiaaGreatDoor
open Go.RowKit

/-- Behind growing: the slice has n bytes more than bs, whatever they are. -/
def BufG (M : Nat → Prop) (w : World) (b o : Nat) (T : TypeId) (cs : Array Value) (bs : List UInt8) (n : Nat) : Prop :=
  ∃ (g cap : Nat) (cur : Array Value) (lr : Int), Blk w b T ((cs.setIfInBounds o (.slice (some ⟨g, 0, none⟩) (bs.length + n) cap)).setIfInBounds (o + 2) (.int .i8 lr)) ∧ o + 2 < cs.size ∧ cs[o + 1]? = some (.int .i64 0) ∧
    w.heap[g]? = some (.cells cur 5 (0, 0)) ∧ bs.length + n ≤ cap ∧ cap ≤ maxLen ∧ cur.size = cap ∧ cur.toList.take bs.length = Lib.byteCells bs ∧ M g ∧ g ≠ b

theorem u8_info : (Tryz.prog.info? 5).map (fun i => (i.zero, i.size, i.bytes)) = some (some (.int .u8 0), 1, 1) := by kernel_rfl

set_option maxRecDepth 100000 in
set_option maxHeartbeats 400000 in
theorem buf_grow_nil_small (M : Nat → Prop) (b o n : Nat) (T : TypeId) (cs : Array Value) (lr : Int) (w : World) (hblk : Blk w b T ((cs.setIfInBounds o (.slice none 0 0)).setIfInBounds (o + 2) (.int .i8 lr)))
    (hs : o + 2 < cs.size) (h1 : cs[o + 1]? = some (.int .i64 0)) (hb : M b) (hN : New M w) (hn : 1 ≤ n) (h64 : n ≤ 64) :
    Calls Tryz.prog 195 #[.pointer (some ⟨b, o, none⟩), .int .i64 n] w fun e w' => e = .returned (.int .i64 0) ∧ BufG M w' b o T cs [] n ∧ Fr M w w' := by
  have c0 := buf_c0 hblk hs
  have c1 := buf_c1 hblk h1
  have hf := hblk.frozen
  have hbm : BufM (fun k => k ≠ b) w b o T cs [] := ⟨_, _, hblk, hs, h1, BufH.nil _, fun g hg => by cases hg⟩
  have HBM := Lib.hid hbm
  have HB := Lib.hid hblk
  have H1 := Lib.hid h1
  have hlt := hblk.lt
  clear hblk h1 hbm
  obtain ⟨i0, hi, hz0, hz1, hz2⟩ := info_parts u8_info
  obtain ⟨C, hC⟩ : ∃ C, C = madeCells (Value.int .u8 0).cells ((64 : Int).toNat * i0.size) := ⟨_, rfl⟩
  have hCs : C.size = 64 := by rw [hC, size_madeCells, hz1]; rfl
  have hmk : ∀ W : World, (Instr.makeSlice 77 (.int .i64 (n : Int)) (.int .i64 64)).run Tryz.prog W = .ok (.slice (some ⟨W.heap.size, 0, none⟩) n 64) (W.alloc (.cells C 5)) := fun W => by
    have h := run_makeSlice (P := Tryz.prog) W 77 5 i0 (.int .u8 0) Tryz.underlying77 hi hz0 .i64 .i64 (n : Int) 64 (by omega) (by omega) (by rw [hz1]; decide) (by rw [hz2]; decide) (by decide)
    rw [← hC] at h
    simpa using h
  have HCs := Lib.hid hCs
  have a0 : ∀ k, ((w.drewN k).alloc (.cells C 5)).cell? ⟨b, o, none⟩ = some (.slice none 0 0) := fun k => buf_c0 ((HB.out.drewN k).alloc _) hs
  have a1 : ∀ k i, ((w.drewN k).alloc (.cells C 5)).frozen? ⟨b, i, none⟩ = false := fun k => ((HB.out.drewN k).alloc _).frozen
  clear hC hz0 hz1 hz2 hi hCs
  have hnil : ∀ W, (binOp .eql 77 (.slice none 0 0) (.slice none 0 0)).run Tryz.prog W = .ok (.bool true) W := fun W => Lib.run_eql_slice_nil_nil W _ _ Tryz.underlying77
  go_enter Tryz.func195, Tryz.ntmps195
  go_wp2_with fail
  refine (buf_Len _ b o T cs [] _ HBM.out (by simp)).mono ?_
  rintro e w1 ⟨rfl, k, rfl⟩
  go_wp2_with fail
  refine (Tryz.Buffer_tryGrow_none_at b o none 0 0 n _ (by simpa using c0) (Nat.le_refl _) (by unfold maxLen; omega) (by omega)).mono ?_
  rintro e w1 ⟨rfl, rfl⟩
  go_wp2_with fail
  go_ret
  refine ⟨rfl, ⟨w.heap.size, 64, C, lr, ?_, hs, H1.out, ?_, by simpa using h64, by unfold maxLen; omega, HCs.out, rfl, hN _ (Nat.le_refl _), by omega⟩, ((((Fr.refl _ _).drewN _).alloc hN _).setCell hb _)⟩
  · simpa using buf_set0 ((HB.out.drewN k).alloc _) (.slice (some ⟨w.heap.size, 0, none⟩) n 64)
  · rw [Below.heap_setCell _ _ _ _ (by simp; omega)]
    exact heap_alloc_new _ _


set_option maxRecDepth 100000 in
set_option maxHeartbeats 1000000 in
theorem buf_grow_row (M : Nat → Prop) (b o n g cap : Nat) (T : TypeId) (cs : Array Value) (lr : Int) (cur : Array Value) (bs : List UInt8) (w : World)
    (hblk : Blk w b T ((cs.setIfInBounds o (.slice (some ⟨g, 0, none⟩) bs.length cap)).setIfInBounds (o + 2) (.int .i8 lr)))
    (hs : o + 2 < cs.size) (h1 : cs[o + 1]? = some (.int .i64 0)) (hg : w.heap[g]? = some (.cells cur 5 (0, 0))) (hlc : bs.length ≤ cap) (hcm : cap ≤ maxLen) (hcs : cur.size = cap) (ht : cur.toList.take bs.length = Lib.byteCells bs)
    (hMg : M g) (hgb : g ≠ b) (hb : M b) (hN : New M w) (hn : 1 ≤ n) (hroom : cap - bs.length < n) (hlim : bs.length + n ≤ 1000000000) (hl : 1 ≤ bs.length) :
    Calls Tryz.prog 195 #[.pointer (some ⟨b, o, none⟩), .int .i64 n] w fun e w' => e = .returned (.int .i64 bs.length) ∧ BufG M w' b o T cs bs n ∧ Fr M w w' := by
  have c0 := buf_c0 hblk hs
  have c1 := buf_c1 hblk h1
  have hf := hblk.frozen
  have hbm : BufM M w b o T cs bs := ⟨_, _, hblk, hs, h1, BufH.mk hg hlc hcm hcs ht, fun g' hg' => by cases hg'; exact ⟨hMg, hgb⟩⟩
  have HBM := Lib.hid hbm
  have HB := Lib.hid hblk
  have H1 := Lib.hid h1
  have HG := Lib.hid hg
  have HC := Lib.hid hcs
  have HT := Lib.hid ht
  have hlt := hblk.lt
  have hu : ∀ v ∈ cur.toList.take bs.length, v.oneCell' = true := by
    rw [ht]; intro v hv; simp only [Lib.byteCells, List.mem_map] at hv; obtain ⟨x, _, rfl⟩ := hv; rfl
  have HU := Lib.hid hu
  have hnil : ∀ W, (binOp .eql 77 (.slice (some ⟨g, 0, none⟩) bs.length cap) (.slice none 0 0)).run Tryz.prog W = .ok (.bool false) W := fun W => Lib.run_eql_slice_some_nil W _ _ _ Tryz.underlying77
  have hl1 : bs.length ≤ 1000000000 := by omega
  have hcm' := hcm
  unfold maxLen at hcm'
  clear hblk h1 hbm hu hg hcs ht
  have hwn : IntKind.i64.wrap (n : Int) = n := by rw [IntKind.wrap_i64]; omega
  have hrem : cap - bs.length < n := hroom
  have hl0 : ((bs.length : Int) == 0) = false := by rw [beq_eq_false_iff_ne]; omega
  go_enter Tryz.func195, Tryz.ntmps195
  go_wp2_with fail
  refine (buf_Len M b o T cs bs _ HBM.out hl1).mono ?_
  rintro e w1 ⟨rfl, k, rfl⟩
  go_wp2_with fail
  refine (Tryz.Buffer_tryGrow_none_at b o _ _ cap n _ (by simpa using c0) hlc hcm hroom).mono ?_
  rintro e w1 ⟨rfl, rfl⟩
  go_wp2_with fail
  go_region_with (
    go_at_call 216
    refine (Tryz.bytes_growSlice_row g bs.length cap n cur _ ?_ HC.out hlc hn (by omega) (by omega) HU.out).mono ?_
    exact HG.out
    rintro e w2 ⟨cap2, cells, rfl, hN2, hcsz, htk, hcap2, hcm2, hbel⟩
    have hb2 : Blk w2 b T ((cs.setIfInBounds o (.slice (some ⟨g, 0, none⟩) bs.length cap)).setIfInBounds (o + 2) (.int .i8 lr)) := (hbel.block b hlt).trans HB.out
    have d0 := buf_c0 hb2 hs
    have d1 := buf_c1 hb2 H1.out
    have e0 := hb2.frozen
    have HB2 := Lib.hid hb2
    have HN2 := Lib.hid hN2
    have HZ2 := Lib.hid hcsz
    have HT2 := Lib.hid htk
    have HBel := Lib.hid hbel
    clear hb2 hN2 hcsz htk hbel)
  all_goals (
    go_wp2
    go_ret
    refine ⟨rfl, ⟨w.heap.size, cap2, cells, lr, buf_set0 (buf_set1 (buf_set0 HB2.out _) H1.out) _, hs, H1.out, ?_, hcap2, hcm2, HZ2.out, HT2.out.trans HT.out, hN _ (Nat.le_refl _), by omega⟩,
      (((Fr.refl M w).drewN _).trans (Fr.below HBel.out (Nat.le_refl _) (hN.drewN _)) |>.setCell hb _ |>.setCell hb _ |>.setCell hb _)⟩
    rw [Below.heap_setCell _ _ _ _ (by show w.heap.size ≠ b; omega), Below.heap_setCell _ _ _ _ (by show w.heap.size ≠ b; omega), Below.heap_setCell _ _ _ _ (by show w.heap.size ≠ b; omega)]
    exact HN2.out)


set_option maxRecDepth 100000 in
set_option maxHeartbeats 1000000 in
theorem buf_grow_row0 (M : Nat → Prop) (b o n g cap : Nat) (T : TypeId) (cs : Array Value) (lr : Int) (cur : Array Value) (w : World)
    (hblk : Blk w b T ((cs.setIfInBounds o (.slice (some ⟨g, 0, none⟩) 0 cap)).setIfInBounds (o + 2) (.int .i8 lr)))
    (hs : o + 2 < cs.size) (h1 : cs[o + 1]? = some (.int .i64 0)) (hg : w.heap[g]? = some (.cells cur 5 (0, 0))) (hlc : 0 ≤ cap) (hcm : cap ≤ maxLen) (hcs : cur.size = cap) (ht : cur.toList.take 0 = Lib.byteCells [])
    (hMg : M g) (hgb : g ≠ b) (hb : M b) (hN : New M w) (hn : 1 ≤ n) (hroom : cap - 0 < n) (hlim : n ≤ 1000000000) :
    Calls Tryz.prog 195 #[.pointer (some ⟨b, o, none⟩), .int .i64 n] w fun e w' => e = .returned (.int .i64 0) ∧ BufG M w' b o T cs [] n ∧ Fr M w w' := by
  have c0 := buf_c0 hblk hs
  have c1 := buf_c1 hblk h1
  have hf := hblk.frozen
  have hbm : BufM M w b o T cs [] := ⟨_, _, hblk, hs, h1, BufH.mk hg hlc hcm hcs ht, fun g' hg' => by cases hg'; exact ⟨hMg, hgb⟩⟩
  have HBM := Lib.hid hbm
  have HB := Lib.hid hblk
  have H1 := Lib.hid h1
  have HG := Lib.hid hg
  have HC := Lib.hid hcs
  have HT := Lib.hid ht
  have hlt := hblk.lt
  have hu : ∀ v ∈ cur.toList.take 0, v.oneCell' = true := by
    rw [ht]; intro v hv; simp only [Lib.byteCells, List.mem_map] at hv; obtain ⟨x, _, rfl⟩ := hv; rfl
  have HU := Lib.hid hu
  have hnil : ∀ W, (binOp .eql 77 (.slice (some ⟨g, 0, none⟩) 0 cap) (.slice none 0 0)).run Tryz.prog W = .ok (.bool false) W := fun W => Lib.run_eql_slice_some_nil W _ _ _ Tryz.underlying77
  have hl1 : ([] : List UInt8).length ≤ 1000000000 := by simp
  have hcm' := hcm
  unfold maxLen at hcm'
  clear hblk h1 hbm hu hg hcs ht
  have hwn : IntKind.i64.wrap (n : Int) = n := by rw [IntKind.wrap_i64]; omega
  have hrem : cap - 0 < n := hroom
  have hl0 : ((0 : Int) == 0) = true := rfl
  go_enter Tryz.func195, Tryz.ntmps195
  go_wp2_with fail
  refine (buf_Len M b o T cs [] _ HBM.out hl1).mono ?_
  rintro e w1 ⟨rfl, k, rfl⟩
  go_wp2_with fail
  refine (Tryz.Buffer_tryGrow_none_at b o _ _ cap n _ (by simpa using c0) hlc hcm hroom).mono ?_
  rintro e w1 ⟨rfl, rfl⟩
  go_wp2_with fail
  go_region_with (
    go_at_call 216
    refine (Tryz.bytes_growSlice_row g 0 cap n cur _ ?_ HC.out hlc hn (by omega) (by omega) HU.out).mono ?_
    exact HG.out
    rintro e w2 ⟨cap2, cells, rfl, hN2, hcsz, htk, hcap2, hcm2, hbel⟩
    have hb2 : Blk w2 b T ((cs.setIfInBounds o (.slice (some ⟨g, 0, none⟩) 0 cap)).setIfInBounds (o + 2) (.int .i8 lr)) := (hbel.block b hlt).trans HB.out
    have d0 := buf_c0 hb2 hs
    have d1 := buf_c1 hb2 H1.out
    have e0 := hb2.frozen
    have HB2 := Lib.hid hb2
    have HN2 := Lib.hid hN2
    have HZ2 := Lib.hid hcsz
    have HT2 := Lib.hid htk
    have HBel := Lib.hid hbel
    clear hb2 hN2 hcsz htk hbel)
  all_goals (
    go_wp2
    go_ret
    refine ⟨rfl, ⟨w.heap.size, cap2, cells, lr, by simpa using buf_set0 (buf_set1 (buf_set0 HB2.out (.slice (some ⟨w.heap.size, 0, none⟩) 0 cap2)) H1.out) (.slice (some ⟨w.heap.size, 0, none⟩) n cap2), hs, H1.out, ?_, hcap2, hcm2, HZ2.out, HT2.out.trans HT.out, hN _ (Nat.le_refl _), by omega⟩,
      (((Fr.refl M w).drewN _).trans (Fr.below HBel.out (Nat.le_refl _) (hN.drewN _)) |>.setCell hb _ |>.setCell hb _ |>.setCell hb _)⟩
    rw [Below.heap_setCell _ _ _ _ (by show w.heap.size ≠ b; omega), Below.heap_setCell _ _ _ _ (by show w.heap.size ≠ b; omega), Below.heap_setCell _ _ _ _ (by show w.heap.size ≠ b; omega)]
    exact HN2.out)


end Go.Proofs.YtlljphipglgjiaaGreatDoor
