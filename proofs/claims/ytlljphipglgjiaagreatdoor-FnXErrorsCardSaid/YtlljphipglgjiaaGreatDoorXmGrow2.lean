/-
  (*bytes.Buffer).grow of a buffer without a row, by more than 64 bytes.
-/
import Derived.Test.YtlljphipglgjiaaGreatDoorXmGrow
namespace Go.Proofs.YtlljphipglgjiaaGreatDoor
open Go.RowKit

set_option maxRecDepth 100000 in
set_option maxHeartbeats 1000000 in
theorem buf_grow_nil_big (M : Nat → Prop) (b o n : Nat) (T : TypeId) (cs : Array Value) (lr : Int) (w : World) (hblk : Blk w b T ((cs.setIfInBounds o (.slice none 0 0)).setIfInBounds (o + 2) (.int .i8 lr)))
    (hs : o + 2 < cs.size) (h1 : cs[o + 1]? = some (.int .i64 0)) (hb : M b) (hN : New M w) (h64 : 64 < n) (hlim : n ≤ 1000000000) :
    Calls Tryz.prog 195 #[.pointer (some ⟨b, o, none⟩), .int .i64 n] w fun e w' => e = .returned (.int .i64 0) ∧ BufG M w' b o T cs [] n ∧ Fr M w w' := by
  have c0 := buf_c0 hblk hs
  have c1 := buf_c1 hblk h1
  have hf := hblk.frozen
  have hbm : BufM (fun k => k ≠ b) w b o T cs [] := ⟨_, _, hblk, hs, h1, BufH.nil _, fun g hg => by cases hg⟩
  have HBM := Lib.hid hbm
  have HB := Lib.hid hblk
  have H1 := Lib.hid h1
  have hlt := hblk.lt
  clear hblk h1 hbm
  have hnil : ∀ W, (binOp .eql 77 (.slice none 0 0) (.slice none 0 0)).run Tryz.prog W = .ok (.bool true) W := fun W => Lib.run_eql_slice_nil_nil W _ _ Tryz.underlying77
  have hwn : IntKind.i64.wrap (n : Int) = n := by rw [IntKind.wrap_i64]; omega
  go_enter Tryz.func195, Tryz.ntmps195
  go_wp2_with fail
  refine (buf_Len _ b o T cs [] _ HBM.out (by simp)).mono ?_
  rintro e w1 ⟨rfl, k, rfl⟩
  go_wp2_with fail
  refine (Tryz.Buffer_tryGrow_none_at b o none 0 0 n _ (by simpa using c0) (Nat.le_refl _) (by unfold maxLen; omega) (by omega)).mono ?_
  rintro e w1 ⟨rfl, rfl⟩
  go_wp2_with fail
  go_region_with (
    go_at_call 216
    refine (Tryz.bytes_growSlice_nil n _ (by omega) (by omega)).mono ?_
    rintro e w2 ⟨cap2, cells, rfl, hN2, hcsz, hcap2, hcm2, hbel⟩
    have hb2 : Blk w2 b T ((cs.setIfInBounds o (.slice none 0 0)).setIfInBounds (o + 2) (.int .i8 lr)) := (hbel.block b hlt).trans HB.out
    have d0 := buf_c0 hb2 hs
    have d1 := buf_c1 hb2 H1.out
    have e0 := hb2.frozen
    have HB2 := Lib.hid hb2
    have HN2 := Lib.hid hN2
    have HZ2 := Lib.hid hcsz
    have HBel := Lib.hid hbel
    clear hb2 hN2 hcsz hbel)
  all_goals (
    go_wp2
    go_ret
    refine ⟨rfl, ⟨w.heap.size, cap2, cells, lr, by simpa using buf_set0 (buf_set1 (buf_set0 HB2.out (.slice (some ⟨w.heap.size, 0, none⟩) 0 cap2)) H1.out) (.slice (some ⟨w.heap.size, 0, none⟩) n cap2), hs, H1.out, ?_, by simpa using hcap2, hcm2, HZ2.out, rfl, hN _ (Nat.le_refl _), by omega⟩,
      (((Fr.refl M w).drewN _).trans (Fr.below HBel.out (Nat.le_refl _) (hN.drewN _)) |>.setCell hb _ |>.setCell hb _ |>.setCell hb _)⟩
    rw [Below.heap_setCell _ _ _ _ (by show w.heap.size ≠ b; omega), Below.heap_setCell _ _ _ _ (by show w.heap.size ≠ b; omega), Below.heap_setCell _ _ _ _ (by show w.heap.size ≠ b; omega)]
    exact HN2.out)

end Go.Proofs.YtlljphipglgjiaaGreatDoor
