/-
  Words for memory that all walks of this seat use: a block that is known whole, and a frame (only the listed blocks may have turned).
-/
import Derived.Test.YtlljphipglgjiaaGreatDoorProg
import Derived.WalkKit
import Derived.WalkSpells
import Derived.WalkLawsBesides
import Derived.Deep.QuietTactic
import Derived.BigQuiet
import Derived.Lib.Hide
namespace Go.Proofs.YtlljphipglgjiaaGreatDoor
open Go.RowKit

/-- Block g is just the cells cs of element type t, none frozen. -/
def Blk (w : World) (g : Nat) (t : TypeId) (cs : Array Value) : Prop := w.heap[g]? = some (.cells cs t (0, 0))

section
variable {w w' : World} {g : Nat} {t : TypeId} {cs : Array Value}
theorem Blk.lt (h : Blk w g t cs) : g < w.heap.size := by
  rcases Nat.lt_or_ge g w.heap.size with hlt | hge
  · exact hlt
  · unfold Blk at h; rw [Array.getElem?_eq_none hge] at h; cases h
theorem Blk.cell (h : Blk w g t cs) (i : Nat) : w.cell? ⟨g, i, none⟩ = cs[i]? := cell_of_row w g i cs t (0, 0) h
theorem Blk.frozen (h : Blk w g t cs) (i : Nat) : w.frozen? ⟨g, i, none⟩ = false := by
  unfold Blk at h
  simp [World.frozen?, h]
theorem Blk.new (w : World) (t : TypeId) (cs : Array Value) : Blk (w.alloc (.cells cs t)) w.heap.size t cs := heap_alloc_new w _
theorem Blk.drew (h : Blk w g t cs) : Blk w.drew g t cs := h
theorem Blk.drewN (h : Blk w g t cs) (n : Nat) : Blk (w.drewN n) g t cs := h
theorem Blk.alloc (h : Blk w g t cs) (o : Obj) : Blk (w.alloc o) g t cs := (Below.heap_alloc w o g h.lt).trans h
theorem Blk.set (h : Blk w g t cs) (i : Nat) (u : Value) : Blk (w.setCell ⟨g, i, none⟩ u) g t (cs.setIfInBounds i u) := by
  unfold Blk at h ⊢
  simp [World.setCell, Array.getElem?_modify, h]
theorem Blk.far (h : Blk w g t cs) {p : Addr} (hp : g ≠ p.block) (u : Value) : Blk (w.setCell p u) g t cs := (Below.heap_setCell w p u g hp).trans h
theorem Blk.ne {g' : Nat} {t' : TypeId} {cs' : Array Value} (h : Blk w g t cs) (h' : Blk w g' t' cs') (hne : t ≠ t') : g ≠ g' := by
  rintro rfl
  unfold Blk at h h'
  rw [h] at h'
  injection h' with h'
  injection h' with _ ht
  exact hne ht
theorem Blk.eq (h : Blk w g t cs) {cs' : Array Value} (e : cs = cs') : Blk w g t cs' := e ▸ h
end

/-- Only the blocks of which M holds may have turned; the streams are as they were. -/
structure Fr (M : Nat → Prop) (w w' : World) : Prop where
  os : w'.os = w.os
  tape : w'.tape = w.tape
  output : w'.output = w.output
  size : w.heap.size ≤ w'.heap.size
  block : ∀ k, ¬ M k → w'.heap[k]? = w.heap[k]?

/-- M holds of every block that is yet to come. -/
def New (M : Nat → Prop) (w : World) : Prop := ∀ k, w.heap.size ≤ k → M k

section
variable {M M' : Nat → Prop} {a w w' : World} {g : Nat} {t : TypeId} {cs : Array Value}
theorem Fr.refl (M : Nat → Prop) (w : World) : Fr M w w := ⟨rfl, rfl, rfl, Nat.le_refl _, fun _ _ => rfl⟩
theorem Fr.trans (h : Fr M a w) (k : Fr M w w') : Fr M a w' :=
  ⟨k.os.trans h.os, k.tape.trans h.tape, k.output.trans h.output, Nat.le_trans h.size k.size, fun i hn => (k.block i hn).trans (h.block i hn)⟩
theorem Fr.mono (h : Fr M w w') (hS : ∀ x, M x → M' x) : Fr M' w w' := ⟨h.os, h.tape, h.output, h.size, fun i hn => h.block i fun hx => hn (hS i hx)⟩
theorem New.fr (h : New M w) (f : Fr M' w w') : New M w' := fun k hk => h k (Nat.le_trans f.size hk)
theorem New.drewN (h : New M w) (n : Nat) : New M (w.drewN n) := h
theorem New.drew (h : New M w) : New M w.drew := h
theorem New.alloc (h : New M w) (o : Obj) : New M (w.alloc o) := fun k hk => h k (by simp at hk; omega)
theorem New.setCell (h : New M w) (p : Addr) (u : Value) : New M (w.setCell p u) := fun k hk => h k (by simpa [World.setCell] using hk)
theorem Fr.drew (h : Fr M a w) : Fr M a w.drew := ⟨h.os, h.tape, h.output, h.size, h.block⟩
theorem Fr.drewN (h : Fr M a w) (n : Nat) : Fr M a (w.drewN n) := ⟨h.os, h.tape, h.output, h.size, h.block⟩
theorem Fr.alloc (h : Fr M a w) (hM : New M a) (o : Obj) : Fr M a (w.alloc o) :=
  ⟨h.os, h.tape, h.output, by have := h.size; simp; omega, fun i hn => (Below.heap_alloc w o i (by
    rcases Nat.lt_or_ge i a.heap.size with hlt | hge
    · exact Nat.lt_of_lt_of_le hlt h.size
    · exact absurd (hM i hge) hn)).trans (h.block i hn)⟩
theorem Fr.setCell (h : Fr M a w) {p : Addr} (hp : M p.block) (u : Value) : Fr M a (w.setCell p u) :=
  ⟨h.os, h.tape, h.output, by simpa [World.setCell] using h.size, fun i hn => (Below.heap_setCell w p u i (by
    rintro rfl
    exact hn hp)).trans (h.block i hn)⟩
theorem Fr.below {B : Nat} (h : Below B w w') (hB : w.heap.size ≤ B) (hM : New M w) : Fr M w w' :=
  ⟨h.os, h.tape, h.output, h.size, fun i hn => h.block i (by
    rcases Nat.lt_or_ge i w.heap.size with hlt | hge
    · omega
    · exact absurd (hM i hge) hn)⟩
theorem Fr.toBelow (h : Fr M w w') {B : Nat} (hS : ∀ x, M x → B ≤ x) : Below B w w' :=
  ⟨h.os, h.tape, h.output, h.size, fun i hi => h.block i fun hx => by have := hS i hx; omega⟩
theorem Fr.grown {row : Option Nat} (h : Fr M a w) (hM : New M a) (hg : w.grownBy w' row) (hr : ∀ k, row = some k → M k) : Fr M a w' :=
  ⟨hg.os.trans h.os, hg.tape.trans h.tape, hg.output.trans h.output, Nat.le_trans h.size hg.size, fun i hn =>
    (hg.block i (by
      rcases Nat.lt_or_ge i a.heap.size with hlt | hge
      · exact Nat.lt_of_lt_of_le hlt h.size
      · exact absurd (hM i hge) hn) (fun e => hn (hr i e.symm))).trans (h.block i hn)⟩
theorem Blk.fr (h : Blk w g t cs) (f : Fr M w w') (hg : ¬ M g) : Blk w' g t cs := (f.block g hg).trans h
theorem Fr.heap {o : Obj} (f : Fr M w w') (h : w.heap[g]? = some o) (hg : ¬ M g) : w'.heap[g]? = some o := (f.block g hg).trans h
end

theorem ret_int {k : IntKind} {a b : Int} (h : a = b) : Ending.returned (.int k a) = .returned (.int k b) := by rw [h]

end Go.Proofs.YtlljphipglgjiaaGreatDoor
