/-
  FnXTexts: the law's own walk, over a contract of spec.XRead.
-/
import Derived.Test.YtlljphipglgjiaaGreatDoorXmFnT0
namespace Go.Proofs.YtlljphipglgjiaaGreatDoor
open Go.RowKit Go.Lib

theorem Tryz.info44 : (Tryz.prog.info? 44).map (fun i => (i.zero, i.size, i.bytes)) = some (some (.agg #[.string ⟨#[]⟩, .string ⟨#[]⟩, .slice none 0 0, .bool false, .int .i64 0, .string ⟨#[]⟩, .int .i64 0, .int .i64 0, .int .u64 0, .bool false, .string ⟨#[]⟩, .slice none 0 0]), 12, 160) := by kernel_rfl
theorem Tryz.info49' : (Tryz.prog.info? 49).map (fun i => (i.zero, i.size, i.bytes)) = some (some (.agg #[.string ⟨#[]⟩, .string ⟨#[]⟩, .string ⟨#[]⟩]), 3, 48) := by kernel_rfl
theorem Tryz.info25' : (Tryz.prog.info? 25).map (fun i => (i.zero, i.size, i.bytes)) = some (some (.agg #[.string ⟨#[]⟩, .slice none 0 0, .string ⟨#[]⟩, .slice none 0 0]), 4, 80) := by kernel_rfl

set_option maxRecDepth 100000 in
set_option maxHeartbeats 4000000 in
theorem fnXTexts_any (hx : ∀ s : ByteArray, s.size ≤ 1000000 → ∀ w : World, Errs (fun x => w.heap.size ≤ x) w → Calls Tryz.prog 25 #[.string s] w (XPost w (xreadL s.data.toList)))
    (s : ByteArray) (w : World) (hT : Lib.Utf8Tabs 4 5 w) (hE : Errs (fun x => w.heap.size ≤ x) w) :
    Calls Tryz.prog 8 #[.string s] w fun e w' => e = .returned (.bool true) ∧ Below w.heap.size w w' := by
  have HX := Lib.hid hx
  clear hx
  by_cases h1 : 2147483647 < s.size
  · have d1 : decide ((2147483647 : Int) < (s.size : Int)) = true := by rw [decide_eq_true_eq]; omega
    go_enter Tryz.func8, Tryz.ntmps8
    go_wp2_with fail
    go_ret
    exact ⟨rfl, Below.refl _ _⟩
  have d1 : decide ((2147483647 : Int) < (s.size : Int)) = false := by rw [decide_eq_false_iff_not]; omega
  by_cases h2 : 2000 < s.size
  · have d2 : decide ((2000 : Int) < (s.size : Int)) = true := by rw [decide_eq_true_eq]; omega
    have HQ := Lib.hid (awake_any w hT)
    clear hT hE
    go_enter Tryz.func8, Tryz.ntmps8
    go_wp2_with fail
    refine HQ.out.mono ?_
    rintro e w2 ⟨rfl, hB⟩
    have HB := Lib.hid hB
    clear hB
    go_wp2_with fail
    go_ret
    exact ⟨rfl, HB.out⟩
  have d2 : decide ((2000 : Int) < (s.size : Int)) = false := by rw [decide_eq_false_iff_not]; omega
  obtain ⟨i44, hi44, hz44a, hz44b, hz44c⟩ := info_parts Tryz.info44
  obtain ⟨i49, hi49, hz49a, hz49b, hz49c⟩ := info_parts Tryz.info49'
  obtain ⟨i25, hi25, hz25a, hz25b, hz25c⟩ := info_parts Tryz.info25'
  obtain ⟨W1, hW1⟩ : ∃ W, w.alloc (.cells #[.string ⟨#[]⟩, .string ⟨#[98]⟩, .string s] 49) = W := ⟨_, rfl⟩
  have hb1 : Below w.heap.size w W1 := by rw [← hW1]; exact (Below.refl _ _).alloc (Nat.le_refl _) _
  have f1 : Fr (fun x => w.heap.size ≤ x) w W1 := Fr.below hb1 (Nat.le_refl _) (fun _ h => h)
  have hT1 : Lib.Utf8Tabs 4 5 W1 := by
    have l4 := World.block_lt_of_cell? w _ (hT.1 0 (by omega))
    have l5 := World.block_lt_of_cell? w _ (hT.2 0 (by omega)).1
    exact (Tabs.fr (M := fun x => w.heap.size ≤ x) ⟨hT, Nat.not_le.2 l4, Nat.not_le.2 l5⟩ f1).1
  have hat : AttrsT 49 W1 (.slice (some ⟨w.heap.size, 0, none⟩) 1 1) [⟨⟨#[]⟩, ⟨#[98]⟩, s⟩] := by
    refine ⟨rfl, .inr ⟨w.heap.size, 1, #[.string ⟨#[]⟩, .string ⟨#[98]⟩, .string s], rfl, Nat.zero_le _, ?_, Nat.le_refl _, by unfold maxLen; omega, rfl, rfl⟩⟩
    rw [← hW1]
    exact heap_alloc_new w _
  have hV : ValueSays W1 ⟨#[]⟩ ⟨#[97]⟩ (nodeCs ⟨#[]⟩ ⟨#[97]⟩ (some ⟨w.heap.size, 0, none⟩) 1 1 false 1 s 0 0 0 false ⟨#[]⟩ none 0 0) (esc s.data.toList ++ endTag ⟨#[]⟩ ⟨#[97]⟩) := by
    intro M b bs sa vp vn vc W hB hEn hl
    rw [← List.append_assoc]
    exact value_string M b bs sa ⟨#[]⟩ ⟨#[97]⟩ vp vn vc false ⟨#[]⟩ ⟨#[97]⟩ (some ⟨w.heap.size, 0, none⟩) 1 1 false s 0 0 0 false ⟨#[]⟩ none 0 0 W hEn (by decide) (by show bs.length + 20 * 0 + 20 * 1 + 20 * s.size + 100 ≤ 50000000; omega)
  have HC := Lib.hid (encode_of ⟨#[]⟩ ⟨#[97]⟩ (some ⟨w.heap.size, 0, none⟩) 1 1 false 1 s 0 0 0 false ⟨#[]⟩ none 0 0 [⟨⟨#[]⟩, ⟨#[98]⟩, s⟩] W1 _ hT1 hat (by decide) (by simp; decide) (by show 20 * 0 + 20 * 1 + (20 * 0 + 20 * 1 + 20 * s.size + 101 + 0) + 200 ≤ 1000000; omega) hV)
  rw [doc_text] at HC
  have HF1 := Lib.hid f1
  have HE := Lib.hid hE
  clear hV hat hT1 hT hE hb1 f1
  go_enter Tryz.func8, Tryz.ntmps8
  go_wp2_with fail
  refine HC.out.mono ?_
  rintro e w2 ⟨rfl, hB2⟩
  have hsz := HF1.out.size
  have f2 : Fr (fun x => w.heap.size ≤ x) w w2 := HF1.out.trans (Fr.below hB2 (Nat.le_refl _) (fun k hk => Nat.le_trans hsz hk))
  have HF2 := Lib.hid f2
  have hE2 := HE.out.fr f2
  have HX2 := Lib.hid (HX.out (bst (textDoc s.data.toList)) (by have := doc_size s; omega) w2 ⟨hE2.1, hE2.2.1, fun h => hE2.2.2.1 (Nat.le_trans f2.size h), fun h => hE2.2.2.2 (Nat.le_trans f2.size h)⟩)
  rw [bst_toList, xread_text] at HX2
  clear hB2 hE2 f2 HC HF1
  go_wp2_with fail
  refine HX2.out.mono ?_
  rintro e w3 ⟨el, av, kv, ok, rfl, hel, hf3, hsays⟩
  obtain ⟨rfl, rfl⟩ : ok = true ∧ el = textEl s.data.toList := hsays
  obtain ⟨g, c, rfl, a2, hgl⟩ := one_attr (a := ⟨bst [], bst [98], bst (clean s.data.toList)⟩) hel.inv.1
  obtain ⟨_, ⟨kp, kn, kc, rfl⟩⟩ := hel.slices
  obtain ⟨C, hC⟩ : ∃ C, bst (clean s.data.toList) = C := ⟨_, rfl⟩
  obtain ⟨nm, hnm⟩ : ∃ x, bst (textEl s.data.toList).name = x := ⟨_, rfl⟩
  obtain ⟨tx, htx⟩ : ∃ x, bst (textEl s.data.toList).text = x := ⟨_, rfl⟩
  obtain ⟨W4, hW4⟩ : ∃ W, w3.alloc (.cells #[.string nm, .slice (some ⟨g, 0, none⟩) 1 c, .string tx, .slice kp kn kc] 25) = W := ⟨_, rfl⟩
  have k4 := Blk.new w3 25 #[.string nm, .slice (some ⟨g, 0, none⟩) 1 c, .string tx, .slice kp kn kc]
  rw [hW4] at k4
  have hb4 : Below w3.heap.size w3 W4 := by rw [← hW4]; exact (Below.refl _ _).alloc (Nat.le_refl _) _
  have f4 : Fr (fun x => w3.heap.size ≤ x) w3 W4 := Fr.below hb4 (Nat.le_refl _) (fun _ h => h)
  have hT4 : Calls Tryz.prog 19 #[.agg #[.string nm, .slice (some ⟨g, 0, none⟩) 1 c, .string tx, .slice kp kn kc]] W4 fun e w' => e = .returned (.tuple #[.string C, .bool true]) ∧ Below W4.heap.size W4 w' := by
    have := textOf_tree s.data.toList W4 _ _ _ (hel.fr f4 (fun x hx => by have := hx.2; omega))
    rw [hC, hnm, htx] at this
    exact this
  have f24 : Fr (fun x => w.heap.size ≤ x) w W4 := (HF2.out.trans (hf3.mono fun x hx => Nat.le_trans HF2.out.size hx)).trans (f4.mono fun x hx => Nat.le_trans (Nat.le_trans HF2.out.size hf3.size) hx)
  have HF4 := Lib.hid f24
  have HT4 := Lib.hid hT4
  have HK4 := Lib.hid k4
  have a3 : W4.cell? ⟨g, 2, none⟩ = some (.string C) := by
    rw [← hC, ← a2, World.cell?, World.cell?, hb4.block _ hgl]
  have HA4 := Lib.hid a3
  have z0 := k4.cell 0
  have z1 := k4.cell 1
  have z2 := k4.cell 2
  have z3 := k4.cell 3
  have hgl4 : g < W4.heap.size := World.block_lt_of_cell? W4 _ a3
  have HGL := Lib.hid hgl4
  have HCC := Lib.hid hC
  clear hel hf3 hT4 k4 hb4 f4 f24 a2 a3 HX2 HF2 hgl hC hgl4
  rw [hnm, htx]
  clear hnm htx
  go_wp2_with fail
  refine HT4.out.mono ?_
  rintro e w5 ⟨rfl, hb5⟩
  have HB5 := Lib.hid hb5
  have HC5 := Lib.hid (cleaned_any s w5 (by omega))
  clear hb5 HT4
  go_wp2_with fail
  refine HC5.out.mono ?_
  rintro e w6 ⟨rfl, hb6⟩
  have HB6 := Lib.hid hb6
  have g6 : w6.cell? ⟨g, 2, none⟩ = some (.string C) := cell_below hb6 (cell_below HB5.out HA4.out)
  have HA6 := Lib.hid g6
  have e6 : Blk w6 w3.heap.size 25 #[.string nm, .slice (some ⟨g, 0, none⟩) 1 c, .string tx, .slice kp kn kc] := (hb6.block _ (Nat.lt_of_lt_of_le HK4.out.lt HB5.out.size)).trans ((HB5.out.block _ HK4.out.lt).trans HK4.out)
  have z0 := e6.cell 0
  have z1 := e6.cell 1
  have z2 := e6.cell 2
  have z3 := e6.cell 3
  have fin : Below w.heap.size w w6 := ((HF4.out.trans (Fr.below HB5.out (Nat.le_refl _) (fun k hk => Nat.le_trans HF4.out.size hk))).trans (Fr.below hb6 (Nat.le_refl _) (fun k hk => Nat.le_trans (Nat.le_trans HF4.out.size HB5.out.size) hk))).toBelow (fun _ h => h)
  have HFIN := Lib.hid fin
  rw [HCC.out]
  clear hb6 HB6 e6 fin HC5
  go_wp2_with fail
  go_ret
  exact ⟨rfl, HFIN.out⟩
end Go.Proofs.YtlljphipglgjiaaGreatDoor
