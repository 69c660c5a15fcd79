/-
  impl.XEncode, of a node whose value a contract tells.
-/
import Derived.Test.YtlljphipglgjiaaGreatDoorXmMk2
import Derived.Deep.RegionHeld3
namespace Go.Proofs.YtlljphipglgjiaaGreatDoor
open Go.RowKit Go.Lib
set_option linter.unusedSimpArgs false

theorem EncB.same {M M' : Nat → Prop} {w : World} {b : Nat} {bs : List UInt8} (h : EncB M w b bs) (hM : ∀ k, M k ↔ M' k) : EncB M' w b bs := by
  obtain rfl : M = M' := funext fun k => propext (hM k)
  exact h
theorem EncB.withoutRow {M : Nat → Prop} {w : World} {b : Nat} {bs : List UInt8} {v : Value} {l : List AttrS} (h : EncB M w b bs) {cs : Array Value} (hat : AttrsH w v l) (hb : Blk w b 146 cs) : EncB (fun k => M k ∧ v.ownBlock ≠ some k) w b bs := by
  rcases hat.cases with ⟨rfl, _⟩ | ⟨g, cap, cur, rfl, hg, _⟩
  · exact h.same fun k => ⟨fun h => ⟨h, by simp [Value.ownBlock]⟩, fun h => h.1⟩
  · refine (h.without hg (by decide) ?_).same fun k => ⟨fun h => ⟨h.1, fun e => h.2 (by simpa [Value.ownBlock] using e.symm)⟩, fun h => ⟨h.1, fun e => h.2 (by simp [Value.ownBlock, e])⟩⟩
    rintro rfl
    unfold Blk at hb
    rw [hg] at hb
    injection hb with hb
    injection hb with _ hb _
    exact absurd hb (by decide)
theorem EncB.blk {M : Nat → Prop} {w : World} {b : Nat} {bs : List UInt8} (h : EncB M w b bs) : ∃ cs, Blk w b 146 cs := by
  obtain ⟨hb, hN, hT, hl, buf, lr, hblk, _⟩ := h
  exact ⟨_, hblk⟩
theorem encB_new (M : Nat → Prop) (w : World) (b : Nat) (hT : Tabs M w) (hN : New M w) (hb : M b) (hblk : Blk w b 146 encCs) : EncB M w b [] :=
  ⟨hb, hN, hT, by simp, .slice none 0 0, 0, hblk.eq rfl, by decide, rfl, BufH.nil _, fun g hg => by simp [Value.ownBlock] at hg⟩

end Go.Proofs.YtlljphipglgjiaaGreatDoor
