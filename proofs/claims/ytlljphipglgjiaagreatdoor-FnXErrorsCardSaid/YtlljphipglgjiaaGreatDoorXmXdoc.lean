/-
  xDoc: it reads a document of at most 5,000 bytes.
-/
import Derived.Test.YtlljphipglgjiaaGreatDoorXmLoc
import Derived.StillTailTactics
namespace Go.Proofs.YtlljphipglgjiaaGreatDoor
open Go.RowKit Go.Lib

set_option maxRecDepth 100000 in
set_option maxHeartbeats 4000000 in
theorem xdoc2_any (hx : ∀ s : ByteArray, s.size ≤ 1000000 → ∀ w : World, Errs (fun x => w.heap.size ≤ x) w → Calls Tryz.prog 25 #[.string s] w (XPost w (xreadL s.data.toList)))
    (s : ByteArray) (w : World) (hE : Errs (fun x => w.heap.size ≤ x) w) : Calls Tryz.prog 11 #[.string s] w (XPost w (if 5000 < s.size then none else xreadL s.data.toList)) := by
  obtain ⟨r, hr⟩ : ∃ r, (if 5000 < s.size then none else xreadL s.data.toList) = r := ⟨_, rfl⟩
  rw [hr]
  obtain ⟨post, hpost⟩ : ∃ post, XPost w r = post := ⟨_, rfl⟩
  have hfin : ∀ (el : XEl) (av kv : Value) (ok : Bool) (w' : World), ElM 49 25 w' (fun g => w.heap.size ≤ g ∧ g < w'.heap.size) av kv el → Fr (fun g => w.heap.size ≤ g) w w' → XSays r el ok → post (.returned (.tuple #[.agg #[.string (bst el.name), av, .string (bst el.text), kv], .bool ok])) w' := by
    intro el av kv ok w' h1 h2 h3
    rw [← hpost]
    exact ⟨el, av, kv, ok, rfl, h1, h2, h3⟩
  rw [hpost]
  have HFIN := Lib.hid hfin
  by_cases h1 : 5000 < s.size
  · have hd : decide ((5000 : Int) < (s.size : Int)) = true := by rw [decide_eq_true_eq]; omega
    have hr2 : r = none := by rw [← hr, if_pos h1]
    have HR2 := Lib.hid hr2
    clear hr hr2 hpost hfin hx hE h1
    go_enter Tryz.func11, Tryz.ntmps11
    go_wp2_with fail
    refine bodyPost_ret (v := .tuple #[.agg #[.string ⟨#[]⟩, .slice none 0 0, .string ⟨#[]⟩, .slice none 0 0], .bool false]) (by simp [results, Tryz.results11, go_sem]) rfl (HFIN.out (.mk [] [] [] []) (.slice none 0 0) (.slice none 0 0) false _ (ElM.zero _ _) ?_ (by rw [HR2.out]; rfl))
    exact Fr.below ((Below.refl w.heap.size w).alloc (Nat.le_refl _) _) (Nat.le_refl _) (fun _ h => h)
  · have hd : decide ((5000 : Int) < (s.size : Int)) = false := by rw [decide_eq_false_iff_not]; omega
    have hr2 : xreadL s.data.toList = r := by rw [← hr, if_neg h1]
    have hE2 : Errs (fun x => (w.alloc (.cells elZero 25)).heap.size ≤ x) (w.alloc (.cells elZero 25)) := by
      have hb : Below w.heap.size w (w.alloc (.cells elZero 25)) := (Below.refl _ _).alloc (Nat.le_refl _) _
      have := hE.fr (Fr.below hb (Nat.le_refl _) (fun _ h => h) : Fr (fun x => w.heap.size ≤ x) w _)
      exact ⟨this.1, this.2.1, fun h => this.2.2.1 (Nat.le_trans hb.size h), fun h => this.2.2.2 (Nat.le_trans hb.size h)⟩
    have hc := hx s (by omega) _ hE2
    rw [hr2] at hc
    have HC := Lib.hid hc
    have hk0 := Blk.new w 25 elZero
    have HK0 := Lib.hid hk0
    clear hr hr2 hpost hfin hx hE h1 hE2 hc hk0
    go_enter Tryz.func11, Tryz.ntmps11
    go_wp2_with fail
    refine HC.out.mono ?_
    rintro e w2 ⟨el, av, kv, ok, rfl, g1, g2, g3⟩
    obtain ⟨⟨ap, an, ac, rfl⟩, ⟨kp, kn, kc, rfl⟩⟩ := g1.slices
    have hk2 : Blk w2 w.heap.size 25 #[.string ⟨#[]⟩, .slice none 0 0, .string ⟨#[]⟩, .slice none 0 0] := (HK0.out.fr g2 (by simp) : Blk w2 w.heap.size 25 elZero).eq rfl
    have hsz : w.heap.size + 1 ≤ w2.heap.size := by have := g2.size; simpa using this
    have y0 := hk2.cell 0
    have y1 := hk2.cell 1
    have y2 := hk2.cell 2
    have y3 := hk2.cell 3
    have yf := hk2.frozen
    have G1 := Lib.hid g1
    have G2 := Lib.hid g2
    have G3 := Lib.hid g3
    have HK2 := Lib.hid hk2
    obtain ⟨nm, hnm⟩ : ∃ x, bst el.name = x := ⟨_, rfl⟩
    obtain ⟨tx, htx⟩ : ∃ x, bst el.text = x := ⟨_, rfl⟩
    have HFIN2 := HFIN.out el (.slice ap an ac) (.slice kp kn kc) ok
    rw [hnm, htx] at HFIN2 ⊢
    have HFIN3 := Lib.hid HFIN2
    clear g1 g2 g3 hk2 hnm htx HFIN2
    go_wp2_with fail
    have z0 := (HK2.out.set 0 (.string nm)).cell 0
    have z1 := ((HK2.out.set 0 (.string nm)).set 1 (.slice ap an ac)).cell 1
    have z2 := (((HK2.out.set 0 (.string nm)).set 1 (.slice ap an ac)).set 2 (.string tx)).cell 2
    have z3 := ((((HK2.out.set 0 (.string nm)).set 1 (.slice ap an ac)).set 2 (.string tx)).set 3 (.slice kp kn kc)).cell 3
    refine bodyPost_ret (v := .tuple #[.agg #[.string nm, .slice ap an ac, .string tx, .slice kp kn kc], .bool ok]) (by simp [results, Tryz.results11, go_sem, z0, z1, z2, z3]) rfl (HFIN3.out _ ?_ ?_ G3.out)
    · have hs5 : Fr (fun x => x = w.heap.size) w2 ((((w2.setCell ⟨w.heap.size, 0, none⟩ (.string nm)).setCell ⟨w.heap.size, 1, none⟩ (.slice ap an ac)).setCell ⟨w.heap.size, 2, none⟩ (.string tx)).setCell ⟨w.heap.size, 3, none⟩ (.slice kp kn kc)) := ((((Fr.refl (fun x => x = w.heap.size) w2).setCell (p := ⟨w.heap.size, 0, none⟩) rfl _).setCell (p := ⟨w.heap.size, 1, none⟩) rfl _).setCell (p := ⟨w.heap.size, 2, none⟩) rfl _).setCell (p := ⟨w.heap.size, 3, none⟩) rfl _
      refine (G1.out.fr hs5 fun x hx e => ?_).mono fun x hx => ⟨?_, Nat.lt_of_lt_of_le hx.2 hs5.size⟩
      · have := hx.1; simp at this; omega
      · have := hx.1; simp at this; omega
    · have hb : Below w.heap.size w (w.alloc (.cells elZero 25)) := (Below.refl _ _).alloc (Nat.le_refl _) _
      exact (((((Fr.below hb (Nat.le_refl _) (fun _ h => h) : Fr (fun x => w.heap.size ≤ x) w _).trans (G2.out.mono fun x hx => Nat.le_trans hb.size hx)).setCell (p := ⟨w.heap.size, 0, none⟩) (Nat.le_refl _) _).setCell (p := ⟨w.heap.size, 1, none⟩) (Nat.le_refl _) _).setCell (p := ⟨w.heap.size, 2, none⟩) (Nat.le_refl _) _).setCell (p := ⟨w.heap.size, 3, none⟩) (Nat.le_refl _) _

end Go.Proofs.YtlljphipglgjiaaGreatDoor
