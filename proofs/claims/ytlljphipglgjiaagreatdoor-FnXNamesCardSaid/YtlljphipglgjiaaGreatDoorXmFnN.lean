/-
  FnXNames: the law's own walk, over contracts of spec.XRead and of xAwake.
-/
import Derived.Test.YtlljphipglgjiaaGreatDoorXmTxA
import Derived.StillTailTactics
namespace Go.Proofs.YtlljphipglgjiaaGreatDoor
open Go.RowKit Go.Lib

set_option maxRecDepth 100000 in
set_option maxHeartbeats 4000000 in
theorem xdoc_any (hx : ∀ s : ByteArray, s.size ≤ 1000000 → ∀ w : World, Errs (fun x => w.heap.size ≤ x) w → Calls Tryz.prog 25 #[.string s] w (XPost w (xreadL s.data.toList)))
    (s : ByteArray) (w : World) (hE : Errs (fun x => w.heap.size ≤ x) w) : Calls Tryz.prog 11 #[.string s] w (XPost w (if 5000 < s.size then none else xreadL s.data.toList)) := by
  obtain ⟨r, hr⟩ : ∃ r, (if 5000 < s.size then none else xreadL s.data.toList) = r := ⟨_, rfl⟩
  rw [hr]
  obtain ⟨post, hpost⟩ : ∃ post, XPost w r = post := ⟨_, rfl⟩
  have hfin : ∀ (el : XEl) (av kv : Value) (ok : Bool) (w' : World), ElM 49 25 w' (fun g => w.heap.size ≤ g ∧ g < w'.heap.size) av kv el → Fr (fun g => w.heap.size ≤ g) w w' → XSays r el ok → post (.returned (.tuple #[.agg #[.string (bst el.name), av, .string (bst el.text), kv], .bool ok])) w' := by
    intro el av kv ok w' h1 h2 h3
    rw [← hpost]
    exact ⟨el, av, kv, ok, rfl, h1, h2, h3⟩
  rw [hpost]
  have HFIN := Lib.hid hfin
  by_cases h1 : 5000 < s.size
  · have hd : decide ((5000 : Int) < (s.size : Int)) = true := by rw [decide_eq_true_eq]; omega
    have hr2 : r = none := by rw [← hr, if_pos h1]
    have HR2 := Lib.hid hr2
    clear hr hr2 hpost hfin hx hE h1
    go_enter Tryz.func11, Tryz.ntmps11
    go_wp2_with fail
    refine bodyPost_ret (v := .tuple #[.agg #[.string ⟨#[]⟩, .slice none 0 0, .string ⟨#[]⟩, .slice none 0 0], .bool false]) (by simp [results, Tryz.results11, go_sem]) rfl (HFIN.out (.mk [] [] [] []) (.slice none 0 0) (.slice none 0 0) false _ (ElM.zero _ _) ?_ (by rw [HR2.out]; rfl))
    exact Fr.below ((Below.refl w.heap.size w).alloc (Nat.le_refl _) _) (Nat.le_refl _) (fun _ h => h)
  · have hd : decide ((5000 : Int) < (s.size : Int)) = false := by rw [decide_eq_false_iff_not]; omega
    have hr2 : xreadL s.data.toList = r := by rw [← hr, if_neg h1]
    have hE2 : Errs (fun x => (w.alloc (.cells elZero 25)).heap.size ≤ x) (w.alloc (.cells elZero 25)) := by
      have hb : Below w.heap.size w (w.alloc (.cells elZero 25)) := (Below.refl _ _).alloc (Nat.le_refl _) _
      have := hE.fr (Fr.below hb (Nat.le_refl _) (fun _ h => h) : Fr (fun x => w.heap.size ≤ x) w _)
      exact ⟨this.1, this.2.1, fun h => this.2.2.1 (Nat.le_trans hb.size h), fun h => this.2.2.2 (Nat.le_trans hb.size h)⟩
    have hc := hx s (by omega) _ hE2
    rw [hr2] at hc
    have HC := Lib.hid hc
    have hk0 := Blk.new w 25 elZero
    have HK0 := Lib.hid hk0
    clear hr hr2 hpost hfin hx hE h1 hE2 hc hk0
    go_enter Tryz.func11, Tryz.ntmps11
    go_wp2_with fail
    refine HC.out.mono ?_
    rintro e w2 ⟨el, av, kv, ok, rfl, g1, g2, g3⟩
    obtain ⟨⟨ap, an, ac, rfl⟩, ⟨kp, kn, kc, rfl⟩⟩ := g1.slices
    have hk2 : Blk w2 w.heap.size 25 #[.string ⟨#[]⟩, .slice none 0 0, .string ⟨#[]⟩, .slice none 0 0] := (HK0.out.fr g2 (by simp) : Blk w2 w.heap.size 25 elZero).eq rfl
    have hsz : w.heap.size + 1 ≤ w2.heap.size := by have := g2.size; simpa using this
    have y0 := hk2.cell 0
    have y1 := hk2.cell 1
    have y2 := hk2.cell 2
    have y3 := hk2.cell 3
    have yf := hk2.frozen
    have G1 := Lib.hid g1
    have G2 := Lib.hid g2
    have G3 := Lib.hid g3
    have HK2 := Lib.hid hk2
    obtain ⟨nm, hnm⟩ : ∃ x, bst el.name = x := ⟨_, rfl⟩
    obtain ⟨tx, htx⟩ : ∃ x, bst el.text = x := ⟨_, rfl⟩
    have HFIN2 := HFIN.out el (.slice ap an ac) (.slice kp kn kc) ok
    rw [hnm, htx] at HFIN2 ⊢
    have HFIN3 := Lib.hid HFIN2
    clear g1 g2 g3 hk2 hnm htx HFIN2
    go_wp2_with fail
    have z0 := (HK2.out.set 0 (.string nm)).cell 0
    have z1 := ((HK2.out.set 0 (.string nm)).set 1 (.slice ap an ac)).cell 1
    have z2 := (((HK2.out.set 0 (.string nm)).set 1 (.slice ap an ac)).set 2 (.string tx)).cell 2
    have z3 := ((((HK2.out.set 0 (.string nm)).set 1 (.slice ap an ac)).set 2 (.string tx)).set 3 (.slice kp kn kc)).cell 3
    refine bodyPost_ret (v := .tuple #[.agg #[.string nm, .slice ap an ac, .string tx, .slice kp kn kc], .bool ok]) (by simp [results, Tryz.results11, go_sem, z0, z1, z2, z3]) rfl (HFIN3.out _ ?_ ?_ G3.out)
    · have hs5 : Fr (fun x => x = w.heap.size) w2 ((((w2.setCell ⟨w.heap.size, 0, none⟩ (.string nm)).setCell ⟨w.heap.size, 1, none⟩ (.slice ap an ac)).setCell ⟨w.heap.size, 2, none⟩ (.string tx)).setCell ⟨w.heap.size, 3, none⟩ (.slice kp kn kc)) := ((((Fr.refl (fun x => x = w.heap.size) w2).setCell (p := ⟨w.heap.size, 0, none⟩) rfl _).setCell (p := ⟨w.heap.size, 1, none⟩) rfl _).setCell (p := ⟨w.heap.size, 2, none⟩) rfl _).setCell (p := ⟨w.heap.size, 3, none⟩) rfl _
      refine (G1.out.fr hs5 fun x hx e => ?_).mono fun x hx => ⟨?_, Nat.lt_of_lt_of_le hx.2 hs5.size⟩
      · have := hx.1; simp at this; omega
      · have := hx.1; simp at this; omega
    · have hb : Below w.heap.size w (w.alloc (.cells elZero 25)) := (Below.refl _ _).alloc (Nat.le_refl _) _
      exact (((((Fr.below hb (Nat.le_refl _) (fun _ h => h) : Fr (fun x => w.heap.size ≤ x) w _).trans (G2.out.mono fun x hx => Nat.le_trans hb.size hx)).setCell (p := ⟨w.heap.size, 0, none⟩) (Nat.le_refl _) _).setCell (p := ⟨w.heap.size, 1, none⟩) (Nat.le_refl _) _).setCell (p := ⟨w.heap.size, 2, none⟩) (Nat.le_refl _) _).setCell (p := ⟨w.heap.size, 3, none⟩) (Nat.le_refl _) _

set_option maxRecDepth 100000 in
set_option maxHeartbeats 8000000 in
theorem fnXNames_any (hx : ∀ s : ByteArray, s.size ≤ 1000000 → ∀ w : World, Errs (fun x => w.heap.size ≤ x) w → Calls Tryz.prog 25 #[.string s] w (XPost w (xreadL s.data.toList)))
    (ha : ∀ w : World, Utf8Tabs 4 5 w → Calls Tryz.prog 12 #[] w fun e w' => e = .returned (.bool true) ∧ Below w.heap.size w w')
    (s : ByteArray) (w : World) (hT : Utf8Tabs 4 5 w) (hE : Errs (fun x => w.heap.size ≤ x) w) :
    Calls Tryz.prog 3 #[.string s] w fun e w' => e = .returned (.bool true) ∧ Below w.heap.size w w' := by
  have h5 : 5 < w.heap.size := World.block_lt_of_cell? w _ (hT.2 0 (by omega)).1
  by_cases h1 : 2147483647 < s.size
  · have d1 : decide ((2147483647 : Int) < (s.size : Int)) = true := by rw [decide_eq_true_eq]; omega
    go_enter Tryz.func3, Tryz.ntmps3
    go_wp2_with fail
    go_ret
    exact ⟨rfl, Below.refl _ _⟩
  have d1 : decide ((2147483647 : Int) < (s.size : Int)) = false := by rw [decide_eq_false_iff_not]; omega
  have HD := Lib.hid (xdoc_any hx s w hE)
  have HA := Lib.hid ha
  have HT := Lib.hid hT
  clear hx ha hT hE
  go_enter Tryz.func3, Tryz.ntmps3
  go_wp2_with fail
  refine HD.out.mono ?_
  rintro e w2 ⟨el, av, kv, ok, rfl, hel, hf2, hsays⟩
  obtain ⟨⟨ap, an, ac, rfl⟩, ⟨kp, kn, kc, rfl⟩⟩ := hel.slices
  have hb2 : Below w.heap.size w w2 := hf2.toBelow fun _ h => h
  have htab : ∀ W, Below w.heap.size w W → Utf8Tabs 4 5 W := fun W hb => utf8_fr (M := fun x => w.heap.size ≤ x) HT.out (Fr.below hb (Nat.le_refl _) (fun _ h => h)) ⟨by omega, by omega⟩
  have HTAB := Lib.hid htab
  have HB2 := Lib.hid hb2
  have HEL := Lib.hid hel
  have hbV : Below w2.heap.size w2 (w2.alloc (.cells #[.string (bst el.name), .slice ap an ac, .string (bst el.text), .slice kp kn kc] 25)) := (Below.refl _ _).alloc (Nat.le_refl _) _
  have hk0 := Blk.new w2 25 #[.string (bst el.name), .slice ap an ac, .string (bst el.text), .slice kp kn kc]
  cases ok with
  | false =>
    clear hsays hel hf2 hb2 htab hk0
    have hbf := HB2.out.trans (hbV.mono HB2.out.size)
    have HAW := Lib.hid (HA.out _ (HTAB.out _ hbf))
    have HBF := Lib.hid hbf
    clear hbf hbV
    go_wp2_with fail
    refine HAW.out.mono ?_
    rintro e w3 ⟨rfl, hb3⟩
    have HB3 := Lib.hid hb3
    clear hb3
    go_wp2_with fail
    go_ret
    exact ⟨rfl, HBF.out.trans (HB3.out.mono HBF.out.size)⟩
  | true =>
    have hdoc : s.size ≤ 5000 ∧ xreadL s.data.toList = some el := by
      by_cases h2 : 5000 < s.size
      · rw [if_pos h2] at hsays
        cases hsays
      · rw [if_neg h2] at hsays
        cases hxr : xreadL s.data.toList with
        | none => rw [hxr] at hsays; cases hsays
        | some e0 =>
          rw [hxr] at hsays
          exact ⟨by omega, by rw [hsays.2]⟩
    obtain ⟨hsz, hdoc⟩ := hdoc
    obtain ⟨nm, atts, ks, rest, rfl, hD⟩ := doc_ok hdoc
    obtain ⟨hN, hnl, hksz, hkl⟩ := doc_small hD (by omega)
    have HDOC := Lib.hid hD
    have hkn : (XEl.mk nm atts [] ks).kids = ks := rfl
    have hst := HEL.out.fr (Fr.below hbV (Nat.le_refl _) (fun _ h => h) : Fr (fun x => w2.heap.size ≤ x) w2 _) (fun x hx => Nat.not_le.2 hx.2)
    obtain ⟨eb, heb⟩ : ∃ eb, w2.heap.size = eb := ⟨_, rfl⟩
    obtain ⟨A, hA⟩ : ∃ A, bst nm = A := ⟨_, rfl⟩
    have hkn2 : bst (XEl.mk nm atts [] ks).name = A := hA
    have htx2 : bst (XEl.mk nm atts [] ks).text = ⟨#[]⟩ := rfl
    rw [hkn2, htx2] at hbV hk0 hst ⊢
    obtain ⟨V, hV⟩ : ∃ V, w2.alloc (.cells #[.string A, .slice ap an ac, .string ⟨#[]⟩, .slice kp kn kc] 25) = V := ⟨_, rfl⟩
    rw [hV] at hbV hk0 hst
    rw [heb] at hk0
    have hbwV : Below w.heap.size w V := HB2.out.trans (hbV.mono HB2.out.size)
    have hnames := names_any s V nm atts ks rest (by omega) (HTAB.out V hbwV) (by have := hbwV.size; omega) hD
    have HNM := Lib.hid hnames
    have HV := Lib.hid hV
    have HBWV := Lib.hid hbwV
    have HK0 := Lib.hid hk0
    have HST := Lib.hid hst
    have HKSZ := Lib.hid hksz
    have HGN := Lib.hid hN
    have HAA := Lib.hid hA
    clear hsays hel hf2 hb2 htab hk0 hbV hdoc hD hnames hV hbwV hst hksz hN hA hkn hkn2 htx2 HEL
    go_wp2_with fail
    rw [HV.out]
    try rw [heb]
    refine HNM.out.mono ?_
    rintro e w4 ⟨v1, rfl, ho1, hn1, hb4⟩
    obtain ⟨p1, c1, rfl, hc1⟩ := row_slice ho1
    have hk4 : Blk w4 eb 25 #[.string A, .slice ap an ac, .string ⟨#[]⟩, .slice kp kn kc] := (hb4.block _ HK0.out.lt).trans HK0.out
    have k0 := hk4.cell 0
    have k1 := hk4.cell 1
    have k2 := hk4.cell 2
    have k3 := hk4.cell 3
    have hel4 := HST.out.fr (Fr.below hb4 (Nat.le_refl _) (fun _ h => h) : Fr (fun x => V.heap.size ≤ x) V w4) (fun x hx => by have := hx.2; have := HK0.out.lt; omega)
    have hloc := xlocals_any w4 _ _ _ _ hel4 HKSZ.out hkl
    rw [show bst (XEl.mk nm atts [] ks).name = A from HAA.out, show bst (XEl.mk nm atts [] ks).text = ⟨#[]⟩ from rfl, show (XEl.mk nm atts [] ks).kids = ks from rfl] at hloc
    obtain ⟨all, hall⟩ : ∃ a, localsOf ks = a := ⟨_, rfl⟩
    rw [hall] at hloc ho1 hc1 ⊢
    have HLOC := Lib.hid hloc
    have HB4 := Lib.hid hb4
    have HO1 := Lib.hid ho1
    have HC1 := Lib.hid hc1
    have HK4 := Lib.hid hk4
    have HALL := Lib.hid hall
    clear ho1 hn1 hb4 hk4 hel4 hloc hc1 HNM HST hall
    go_wp2_with fail
    refine HLOC.out.mono ?_
    rintro e w5 ⟨v2, rfl, ho2, hn2, hb5⟩
    obtain ⟨p2, c2, rfl, hc2⟩ := row_slice ho2
    have hbw5 : Below w.heap.size w w5 := (HBWV.out.trans (HB4.out.mono HBWV.out.size)).trans (hb5.mono (Nat.le_trans HBWV.out.size HB4.out.size))
    have hroot := xroot_any s w5 nm atts ks rest (by omega) (HTAB.out w5 hbw5) (by have := hbw5.size; omega) HDOC.out
    obtain ⟨R, hR⟩ : ∃ R, bst (halvesL nm).2 = R := ⟨_, rfl⟩
    obtain ⟨r1, r2, r3⟩ := root_name HGN.out
    rw [hR] at hroot r1 r2 r3
    rw [HAA.out] at r1 r2 r3
    have hAl : A.size ≤ 1000000 := by rw [← HAA.out, bst_size]; exact hnl
    have HRT := Lib.hid hroot
    have HB5 := Lib.hid hb5
    have HC2 := Lib.hid hc2
    have HBW5 := Lib.hid hbw5
    have HR1 := Lib.hid r1
    have HR2 := Lib.hid r2
    have HR3 := Lib.hid r3
    clear ho2 hn2 hb5 hc2 hbw5 hroot hR r1 r2 r3 k0 k1 k2 k3
    go_wp2_with fail
    refine HRT.out.mono ?_
    rintro e w6 ⟨rfl, hb6⟩
    have hbw6 : Below w.heap.size w w6 := HBW5.out.trans (hb6.mono HBW5.out.size)
    have hk6 : Blk w6 eb 25 #[.string A, .slice ap an ac, .string ⟨#[]⟩, .slice kp kn kc] := (hb6.block _ (Nat.lt_of_lt_of_le HK4.out.lt HB5.out.size)).trans ((HB5.out.block _ HK4.out.lt).trans HK4.out)
    have hcell1 : ∀ k (hk : k < all.length), ∃ g, p1 = some ⟨g, 0, none⟩ ∧ w6.cell? ⟨g, k, none⟩ = some (.string all[k]) := by
      intro k hk
      obtain ⟨g, hg1, hg2, hg3⟩ := HC1.out k hk
      refine ⟨g, hg1, ?_⟩
      rw [World.cell?, hb6.block _ (Nat.lt_of_lt_of_le hg3 HB5.out.size), HB5.out.block _ hg3]
      exact hg2
    have hcell2 : ∀ k (hk : k < all.length), ∃ g, p2 = some ⟨g, 0, none⟩ ∧ w6.cell? ⟨g, k, none⟩ = some (.string all[k]) := by
      intro k hk
      obtain ⟨g, hg1, hg2, hg3⟩ := HC2.out k hk
      refine ⟨g, hg1, ?_⟩
      rw [World.cell?, hb6.block _ hg3]
      exact hg2
    have HBW6 := Lib.hid hbw6
    have HK6 := Lib.hid hk6
    have HCL1 := Lib.hid hcell1
    have HCL2 := Lib.hid hcell2
    have hne : ((all.length : Int) != (all.length : Int)) = false := by simp
    clear hb6 hbw6 hk6 hcell1 hcell2 HRT HLOC HC1 HC2 HB5 HBW5
    go_wp2_with fail
    have hal : all.length ≤ 2000000 := by
      rw [← HALL.out]
      unfold localsOf elemsOf
      rw [List.length_map]
      exact Nat.le_trans (List.length_filter_le _ _) hkl
    go_loopg [10] all.length (fun g kv wr => ∃ k j : Nat, g = all.length - k ∧ k ≤ all.length ∧ kv = .int .i64 k ∧ wr = w6.drewN j)
    case atStart => exact ⟨0, 0, rfl, Nat.zero_le _, rfl, rfl⟩
    case round =>
      obtain ⟨k, j, hg, hk, rfl, rfl⟩ := hrel
      have HG := Lib.hid hg
      clear hg
      by_cases hkl : k < all.length
      · have hd : decide ((k : Int) < (all.length : Int)) = true := by rw [decide_eq_true_eq]; omega
        have nn : (0 : Int) ≤ (k : Int) := Int.natCast_nonneg _
        obtain ⟨g1, rfl, q1⟩ := HCL1.out k hkl
        obtain ⟨g2, rfl, q2⟩ := HCL2.out k hkl
        have u1 : ∀ n, (w6.drewN n).cell? ⟨g1, k, none⟩ = some (.string all[k]) := fun _ => q1
        have u2 : ∀ n, (w6.drewN n).cell? ⟨g2, k, none⟩ = some (.string all[k]) := fun _ => q2
        have u3 := u1 j
        have u4 := u2 j
        have e1 : (all[k].toList != all[k].toList) = false := bne_self_eq_false _
        clear q1 q2
        go_wp2_with fail
        go_region
        go_wp2_with fail
        go_roundg (all.length - (k + 1))
        case rel => exact ⟨k + 1, j + 1, rfl, by omega, rfl, rfl⟩
        case measure => have := HG.out; omega
      · have hd : decide ((k : Int) < (all.length : Int)) = false := by rw [decide_eq_false_iff_not]; omega
        have hk7 : Blk (w6.drewN j) eb 25 #[.string A, .slice ap an ac, .string ⟨#[]⟩, .slice kp kn kc] := HK6.out.drewN j
        have k0 := hk7.cell 0
        have r1 := HR1.out
        have d2 : decide ((R.size : Int) ≤ (A.size : Int)) = true := by rw [decide_eq_true_eq]; omega
        clear hk7
        have hfin : Below w.heap.size w (w6.drewN j) := HBW6.out.trans ⟨rfl, rfl, rfl, Nat.le_refl _, fun _ _ => rfl⟩
        go_wp2_with fail
        · go_ret
          exact ⟨rfl, hfin⟩
        · go_ret
          refine ⟨ret_bool ?_, hfin⟩
          rcases HR3.out with h | ⟨h1, h2⟩
          · rw [Bool.or_eq_true]
            exact .inl (by rw [h]; exact beq_self_eq_true _)
          · rw [Bool.or_eq_true]
            exact .inr (by rw [h2]; rfl)
        · exact absurd (congrArg ByteArray.toList HR2.out) ‹¬ (A.extract (A.size - R.size) A.size).toList = R.toList›
end Go.Proofs.YtlljphipglgjiaaGreatDoor
