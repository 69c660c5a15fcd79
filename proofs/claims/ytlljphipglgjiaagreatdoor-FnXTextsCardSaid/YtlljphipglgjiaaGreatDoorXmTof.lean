/-
  spec.XTextOf of an element with no kid, and with one text.
-/
import Derived.Test.YtlljphipglgjiaaGreatDoorXmEl0
import Derived.Deep.CutBlock
import Derived.Deep.RegionHeld3
namespace Go.Proofs.YtlljphipglgjiaaGreatDoor
open Go.RowKit Go.Lib

theorem textOf_none (nm tx : ByteArray) (ap : Option Addr) (an ac : Nat) (kp : Option Addr) (kc : Nat) (w : World) :
    Calls Tryz.prog 19 #[.agg #[.string nm, .slice ap an ac, .string tx, .slice kp 0 kc]] w fun e w' => e = .returned (.tuple #[.string ⟨#[]⟩, .bool true]) ∧ Below w.heap.size w w' := by
  go_enter Tryz.func19, Tryz.ntmps19
  go_wp2_with fail
  exact bodyPost_ret (v := .tuple #[.string ⟨#[]⟩, .bool true]) (by simp [results, Tryz.results19, go_sem]) rfl ⟨rfl, (Below.refl _ w).alloc (Nat.le_refl _) _⟩

theorem textOf_one (nm tx t : ByteArray) (ap : Option Addr) (an ac g kc : Nat) (w : World) (h0 : w.cell? ⟨g, 0, none⟩ = some (.string ⟨#[]⟩)) (h2 : w.cell? ⟨g, 2, none⟩ = some (.string t)) (hg : g < w.heap.size) :
    Calls Tryz.prog 19 #[.agg #[.string nm, .slice ap an ac, .string tx, .slice (some ⟨g, 0, none⟩) 1 kc]] w fun e w' => e = .returned (.tuple #[.string t, .bool true]) ∧ Below w.heap.size w w' := by
  obtain ⟨W, hW⟩ : ∃ W, w.alloc (.cells #[.string nm, .slice ap an ac, .string tx, .slice (some ⟨g, 0, none⟩) 1 kc] 25) = W := ⟨_, rfl⟩
  have hb : Below w.heap.size w W := by rw [← hW]; exact (Below.refl _ _).alloc (Nat.le_refl _) _
  have k := Blk.new w 25 #[.string nm, .slice ap an ac, .string tx, .slice (some ⟨g, 0, none⟩) 1 kc]
  rw [hW] at k
  have k3 := k.cell 3
  have g0 : W.cell? ⟨g, 0, none⟩ = some (.string ⟨#[]⟩) := by rw [World.cell?, hb.block _ hg]; exact h0
  have g2 : W.cell? ⟨g, 2, none⟩ = some (.string t) := by rw [World.cell?, hb.block _ hg]; exact h2
  have HB := Lib.hid hb
  clear hb h0 h2 k
  go_enter Tryz.func19, Tryz.ntmps19
  go_wp2_with fail
  go_quiet (fail)
  go_wp2_with fail
  exact bodyPost_ret (v := .tuple #[.string t, .bool true]) (by simp [results, Tryz.results19, go_sem]) rfl ⟨rfl, ((Fr.below (M := fun x => w.heap.size ≤ x) HB.out (Nat.le_refl _) (fun _ h => h)).drewN _).toBelow (fun _ h => h)⟩

end Go.Proofs.YtlljphipglgjiaaGreatDoor
