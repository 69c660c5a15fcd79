/-
  bytes.Buffer, lying at offset o of a block b that holds more: what its methods do to the bytes that it holds.
-/
import Derived.Test.YtlljphipglgjiaaGreatDoorXmBase
import Derived.Lib.UnsafeStr
import Derived.Lib.BufferMore
namespace Go.Proofs.YtlljphipglgjiaaGreatDoor
open Go.RowKit

/-- The slice buf holds the bytes bs (in a row of its own, or it is nil). -/
def BufH (w : World) (buf : Value) (bs : List UInt8) : Prop := w.ownsRow 0 5 1 buf bs.length (Lib.byteCells bs)

theorem BufH.cases {w : World} {buf : Value} {bs : List UInt8} (h : BufH w buf bs) :
    (buf = .slice none 0 0 ∧ bs = []) ∨
    ∃ g cap cur, buf = .slice (some ⟨g, 0, none⟩) bs.length cap ∧ w.heap[g]? = some (.cells cur 5 (0, 0)) ∧ bs.length ≤ cap ∧ cap ≤ maxLen ∧ cur.size = cap ∧ cur.toList.take bs.length = Lib.byteCells bs := by
  obtain ⟨h1, ⟨rfl, h2⟩ | ⟨g, cap, cur, rfl, _, hg, hl, hm, hs, ht⟩⟩ := h
  · exact .inl ⟨rfl, List.eq_nil_of_length_eq_zero h2⟩
  · exact .inr ⟨g, cap, cur, rfl, hg, hl, hm, by omega, by simpa using ht⟩

theorem BufH.mk {w : World} {g cap : Nat} {cur : Array Value} {bs : List UInt8} (hg : w.heap[g]? = some (.cells cur 5 (0, 0))) (hl : bs.length ≤ cap) (hm : cap ≤ maxLen) (hs : cur.size = cap)
    (ht : cur.toList.take bs.length = Lib.byteCells bs) : BufH w (.slice (some ⟨g, 0, none⟩) bs.length cap) bs :=
  ⟨by rw [Lib.byteCells_length, Nat.mul_one], .inr ⟨g, cap, cur, rfl, Nat.zero_le _, hg, hl, hm, by omega, by simpa using ht⟩⟩

theorem BufH.nil (w : World) : BufH w (.slice none 0 0) [] := ⟨rfl, .inl ⟨rfl, rfl⟩⟩

/-- A buffer at b + o: cs are the block's cells but for the slice and the last operation. -/
def BufM (M : Nat → Prop) (w : World) (b o : Nat) (T : TypeId) (cs : Array Value) (bs : List UInt8) : Prop :=
  ∃ (buf : Value) (lr : Int), Blk w b T ((cs.setIfInBounds o buf).setIfInBounds (o + 2) (.int .i8 lr)) ∧ o + 2 < cs.size ∧ cs[o + 1]? = some (.int .i64 0) ∧ BufH w buf bs ∧ ∀ g, buf.ownBlock = some g → M g ∧ g ≠ b

section
variable {M : Nat → Prop} {w w' : World} {b o : Nat} {T : TypeId} {cs : Array Value} {bs : List UInt8} {buf : Value} {lr : Int}

theorem buf_c0 (h : Blk w b T ((cs.setIfInBounds o buf).setIfInBounds (o + 2) (.int .i8 lr))) (hs : o + 2 < cs.size) : w.cell? ⟨b, o, none⟩ = some buf := by
  rw [h.cell, Array.getElem?_setIfInBounds_ne (by omega), Array.getElem?_setIfInBounds_self_of_lt (by omega)]
theorem buf_c1 (h : Blk w b T ((cs.setIfInBounds o buf).setIfInBounds (o + 2) (.int .i8 lr))) (h1 : cs[o + 1]? = some (.int .i64 0)) : w.cell? ⟨b, o + 1, none⟩ = some (.int .i64 0) := by
  rw [h.cell, Array.getElem?_setIfInBounds_ne (by omega), Array.getElem?_setIfInBounds_ne (by omega), h1]
theorem buf_c2 (h : Blk w b T ((cs.setIfInBounds o buf).setIfInBounds (o + 2) (.int .i8 lr))) (hs : o + 2 < cs.size) : w.cell? ⟨b, o + 2, none⟩ = some (.int .i8 lr) := by
  rw [h.cell, Array.getElem?_setIfInBounds_self_of_lt (by simpa using hs)]
theorem buf_set0 (h : Blk w b T ((cs.setIfInBounds o buf).setIfInBounds (o + 2) (.int .i8 lr))) (v : Value) : Blk (w.setCell ⟨b, o, none⟩ v) b T ((cs.setIfInBounds o v).setIfInBounds (o + 2) (.int .i8 lr)) :=
  (h.set o v).eq (by
    apply Array.ext_getElem?
    intro k
    simp only [Array.getElem?_setIfInBounds, Array.size_setIfInBounds]
    split <;> split <;> simp_all <;> omega)
theorem buf_set1 (h : Blk w b T ((cs.setIfInBounds o buf).setIfInBounds (o + 2) (.int .i8 lr))) (h1 : cs[o + 1]? = some (.int .i64 0)) : Blk (w.setCell ⟨b, o + 1, none⟩ (.int .i64 0)) b T ((cs.setIfInBounds o buf).setIfInBounds (o + 2) (.int .i8 lr)) :=
  (h.set (o + 1) _).eq (by
    apply Array.ext_getElem?
    intro k
    simp only [Array.getElem?_setIfInBounds, Array.size_setIfInBounds]
    by_cases hk : o + 1 = k
    · subst hk
      have : o + 1 < cs.size := by
        rcases Nat.lt_or_ge (o + 1) cs.size with h | h
        · exact h
        · rw [Array.getElem?_eq_none h] at h1; cases h1
      rw [Array.getElem?_eq_getElem this] at h1
      simp [this, Option.some.inj h1]
    · simp [hk])
theorem buf_set2 (h : Blk w b T ((cs.setIfInBounds o buf).setIfInBounds (o + 2) (.int .i8 lr))) (q : Int) : Blk (w.setCell ⟨b, o + 2, none⟩ (.int .i8 q)) b T ((cs.setIfInBounds o buf).setIfInBounds (o + 2) (.int .i8 q)) :=
  (h.set (o + 2) _).eq (by
    apply Array.ext_getElem?
    intro k
    simp only [Array.getElem?_setIfInBounds, Array.size_setIfInBounds]
    split <;> simp_all)
end

set_option maxHeartbeats 400000 in
theorem buf_Reset (M : Nat → Prop) (b o : Nat) (T : TypeId) (cs : Array Value) (bs : List UInt8) (w : World) (h : BufM M w b o T cs bs) (hb : M b) :
    Calls Tryz.prog 158 #[.pointer (some ⟨b, o, none⟩)] w fun e w' => e = .returned (.tuple #[]) ∧ BufM M w' b o T cs [] ∧ Fr M w w' := by
  obtain ⟨buf, lr, hblk, hs, h1, hB, hM⟩ := h
  have c0 := buf_c0 hblk hs
  have c1 := buf_c1 hblk h1
  have c2 := buf_c2 hblk hs
  have hf := hblk.frozen
  have HB := Lib.hid hblk
  have H1 := Lib.hid h1
  clear hblk h1
  rcases hB.cases with ⟨rfl, rfl⟩ | ⟨g, cap, cur, rfl, hg, hl, hm, hcs, ht⟩
  · go_enter Tryz.func158, Tryz.ntmps158
    go_wp2_with fail
    go_end0
    exact ⟨rfl, ⟨_, _, buf_set2 (buf_set1 (buf_set0 HB.out _) H1.out) _, hs, H1.out, BufH.nil _, fun g hg => by cases hg⟩, (((Fr.refl _ _).setCell hb _).setCell hb _).setCell hb _⟩
  · unfold maxLen at hm
    have hgb := (hM g rfl).2
    have HM := Lib.hid hM
    have HG := Lib.hid hg
    have HC := Lib.hid hcs
    clear hM ht hg hcs
    go_enter Tryz.func158, Tryz.ntmps158
    go_wp2_with fail
    go_end0
    refine ⟨rfl, ⟨_, _, buf_set2 (buf_set1 (buf_set0 HB.out _) H1.out) _, hs, H1.out, BufH.mk (g := g) (cap := cap) (cur := cur) (bs := []) ?_ (Nat.zero_le _) (by unfold maxLen; omega) HC.out rfl, fun g' hg' => HM.out g' hg'⟩, (((Fr.refl _ _).setCell hb _).setCell hb _).setCell hb _⟩
    rw [Below.heap_setCell _ _ _ _ hgb, Below.heap_setCell _ _ _ _ hgb, Below.heap_setCell _ _ _ _ hgb]
    exact HG.out

set_option maxHeartbeats 400000 in
theorem buf_Len (M : Nat → Prop) (b o : Nat) (T : TypeId) (cs : Array Value) (bs : List UInt8) (w : World) (h : BufM M w b o T cs bs) (hl : bs.length ≤ 1000000000) :
    Calls Tryz.prog 164 #[.pointer (some ⟨b, o, none⟩)] w fun e w' => e = .returned (.int .i64 bs.length) ∧ ∃ n, w.drewN n = w' := by
  obtain ⟨buf, lr, hblk, hs, h1, hB, hM⟩ := h
  have c0 := buf_c0 hblk hs
  have c1 := buf_c1 hblk h1
  clear hblk h1 hM hs
  rcases hB.cases with ⟨rfl, rfl⟩ | ⟨g, cap, cur, rfl, hg, hlc, hm, hcs, ht⟩
  all_goals
    clear hB
    try clear ht hg hcs
    go_enter Tryz.func164, Tryz.ntmps164
    go_wp2_with fail
    go_quiet (fail)
    go_wp2_with fail
    go_ret
    exact ⟨rfl, _, rfl⟩

/-- What Bytes hands back: the slice of the buffer, or nil. -/
theorem buf_Bytes (M : Nat → Prop) (b o : Nat) (T : TypeId) (cs : Array Value) (bs : List UInt8) (w : World) (h : BufM M w b o T cs bs) (hl : bs.length ≤ 1000000000) :
    Calls Tryz.prog 160 #[.pointer (some ⟨b, o, none⟩)] w fun e w' => ∃ buf lr, e = .returned buf ∧ Blk w b T ((cs.setIfInBounds o buf).setIfInBounds (o + 2) (.int .i8 lr)) ∧ BufH w buf bs ∧ ∃ n, w.drewN n = w' := by
  obtain ⟨buf, lr, hblk, hs, h1, hB, hM⟩ := h
  have c0 := buf_c0 hblk hs
  have c1 := buf_c1 hblk h1
  have HB := Lib.hid hblk
  have HBB := Lib.hid hB
  clear hblk h1 hM hs
  rcases hB.cases with ⟨rfl, rfl⟩ | ⟨g, cap, cur, rfl, hg, hlc, hm, hcs, ht⟩
  all_goals
    clear hB
    try clear ht hg hcs
    try unfold maxLen at hm
    go_enter Tryz.func160, Tryz.ntmps160
    go_wp2_with fail
    go_quiet (fail)
    go_wp2_with fail
    go_ret
    exact ⟨_, lr, rfl, HB.out, HBB.out, _, rfl⟩

end Go.Proofs.YtlljphipglgjiaaGreatDoor
