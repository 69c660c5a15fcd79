/-
  spec.XRead: the walk.
-/
import Derived.Test.YtlljphipglgjiaaGreatDoorXmRoot
import Derived.BigRegion
import Derived.Deep.RegionHeld3
import Derived.Deep.AppendLies
import Derived.Deep.DeepCutAuto
import Derived.Deep.CutBlock
import Derived.StillTailTactics
namespace Go.Proofs.YtlljphipglgjiaaGreatDoor
open Go.RowKit Go.Lib

theorem Tryz.info25r : (Tryz.prog.info? 25).map (fun i => (i.zero, i.size, i.bytes)) = some (some (.agg #[.string ⟨#[]⟩, .slice none 0 0, .string ⟨#[]⟩, .slice none 0 0]), 4, 80) := by kernel_rfl
theorem Tryz.info101 : (Tryz.prog.info? 101).map (fun i => (i.zero, i.size, i.bytes)) = some (some (.agg #[.string ⟨#[]⟩, .int .i64 0, .bool false]), 3, 32) := by kernel_rfl

theorem fr4 (a b c d : Value) (w : World) (g : Nat) : Fr (fun x => x = g) w ((((w.setCell ⟨g, 0, none⟩ a).setCell ⟨g, 1, none⟩ b).setCell ⟨g, 2, none⟩ c).setCell ⟨g, 3, none⟩ d).drew :=
  (((((Fr.refl (fun x => x = g) w).setCell (p := ⟨g, 0, none⟩) rfl a).setCell (p := ⟨g, 1, none⟩) rfl b).setCell (p := ⟨g, 2, none⟩) rfl c).setCell (p := ⟨g, 3, none⟩) rfl d).drewN 1
set_option maxRecDepth 100000 in
set_option maxHeartbeats 2000000 in
theorem xread_of (elem_any : ∀ (b : Nat) (s : ByteArray) (d : Nat), d ≤ 1000 → ∀ (M : Nat → Prop) (i : Nat) (bad : Bool) (w : World), RdM M w b s i bad → Errs M w → Calls Tryz.prog 55 #[.pointer (some ⟨b, 0, none⟩), .int .i64 (d : Int)] w (ElPostR M b s i w (if bad then none else elemL d (s.data.toList.drop i))))
    (s : ByteArray) (hs : s.size ≤ 1000000) (w : World) (hE : Errs (fun x => w.heap.size ≤ x) w) :
    Calls Tryz.prog 25 #[.string s] w (XPost w (xreadL s.data.toList)) := by
  have ELA := Lib.hid elem_any
  clear elem_any
  obtain ⟨q0, hq0⟩ : ∃ q, hasB s 0 (bst declL) = q := ⟨_, rfl⟩
  have hst := ProR.start hq0
  obtain ⟨x0, hx0⟩ : ∃ x, xreadL s.data.toList = x := ⟨_, rfl⟩
  rw [hx0] at hst ⊢
  obtain ⟨post, hpost⟩ : ∃ post, XPost w x0 = post := ⟨_, rfl⟩
  have hfin : ∀ (el : XEl) (av kv : Value) (ok : Bool) (w' : World), ElM 49 25 w' (fun g => w.heap.size ≤ g ∧ g < w'.heap.size) av kv el → Fr (fun g => w.heap.size ≤ g) w w' → XSays x0 el ok → post (.returned (.tuple #[.agg #[.string (bst el.name), av, .string (bst el.text), kv], .bool ok])) w' := by
    intro el av kv ok w' h1 h2 h3
    rw [← hpost]
    exact ⟨el, av, kv, ok, rfl, h1, h2, h3⟩
  rw [hpost]
  obtain ⟨i101, hi101, hz101a, hz101b, hz101c⟩ := info_parts Tryz.info101
  obtain ⟨i25, hi25, hz25a, hz25b, hz25c⟩ := info_parts Tryz.info25r
  have HST := Lib.hid hst
  have HFIN := Lib.hid hfin
  have hs0 := RoS.start hs hE
  have HS0 := Lib.hid hs0
  have HQ := Lib.hid (has_any _ _ s 0 false (bst declL) _ hs0.rd (by decide) q0 hq0)
  clear hst hfin hpost hE hs0 hq0 hx0
  go_enter Tryz.func25, Tryz.ntmps25
  go_wp2_with fail
  refine HQ.out.mono ?_
  rintro e w3 ⟨rfl, h7, hfr7⟩
  have HS3 := Lib.hid (HS0.out.stepB h7 hfr7)
  clear h7 hfr7 HQ HS0
  obtain ⟨k0, hk0⟩ : ∃ k, (if q0 then 0 + (bst declL).size else 0) = k := ⟨_, rfl⟩
  rw [hk0] at HST HS3
  clear hk0
  go_wp2_with fail
  go_loopg [] (s.size - k0) (fun g wr => ∃ (k : Nat) (bd : Bool), g = s.size - k ∧ RoS s w wr k bd ∧ Hid (ProR s x0 k bd))
  case atStart => exact ⟨k0, false, rfl, HS3.out, HST⟩
  case round =>
    obtain ⟨k, bd, hg, h1, HP⟩ := hrel
    have hk := h1.rd.2.2.2.1
    have HG := Lib.hid hg
    have HS := Lib.hid h1
    clear hg h1 HS3 HST
    cases hq : decide (k < runEnd blankB s k) with
    | true =>
      have hlt := of_decide_eq_true hq
      have hle := runEnd_le blankB s k hk
      have HB := Lib.hid (rd_blanks _ _ s k bd wr HS.out.rd)
      rw [hq] at HB
      have HP2 := Lib.hid (HP.out.blanks hlt hk)
      have HL := Lib.hid (run_last blankB s k hlt hk)
      obtain ⟨k2, hk2⟩ : ∃ x, runEnd blankB s k = x := ⟨_, rfl⟩
      rw [hk2] at HB HP2 HL hlt hle
      clear hq hk2
      go_wp2_with fail
      refine HB.out.mono ?_
      rintro e w4 ⟨rfl, h7, hfr7⟩
      have hs4 := HS.out.stepB h7 hfr7
      have c0 := hs4.rd.c0
      have c1 := hs4.rd.c1
      have HS4 := Lib.hid hs4
      clear h7 hfr7 hs4 HB
      by_cases h4 : 4 ≤ k2
      · obtain ⟨m, rfl⟩ : ∃ m, k2 = m + 4 := ⟨k2 - 4, by omega⟩
        have d1 : decide ((4 : Int) ≤ (m : Int) + 4) = true := by rw [decide_eq_true_eq]; omega
        have q1 : IntKind.i64.wrap (m : Int) = (m : Int) := by rw [IntKind.wrap_i64]; omega
        have q3 : ((m : Int) + 4).toNat = m + 4 := by omega
        have q4 : (m : Int) + 4 ≤ (s.size : Int) := by omega
        have q5 : (m : Int) ≤ (m : Int) + 4 := by omega
        have e1 : ((s.extract m (m + 4)).toList == [60, 33, 45, 45]) = false := by
          have h5 : m + 4 - 1 < s.size := by omega
          exact no_open s m h5 (HL.out h5)
        go_wp2_with fail
        go_quiet (fail)
        go_wp2_with fail
        go_roundg (s.size - (m + 4))
        case rel => exact ⟨m + 4, bd, rfl, HS4.out.drewN _, HP2⟩
        case measure => have := HG.out; omega
      · have d1 : decide ((4 : Int) ≤ (k2 : Int)) = false := by rw [decide_eq_false_iff_not]; omega
        go_wp2_with fail
        go_quiet (fail)
        go_wp2_with fail
        go_roundg (s.size - k2)
        case rel => exact ⟨k2, bd, rfl, HS4.out.drewN _, HP2⟩
        case measure => have := HG.out; omega
    | false =>
      have hno := of_decide_eq_false hq
      have HB := Lib.hid (rd_blanks _ _ s k bd wr HS.out.rd)
      have hge := runEnd_ge blankB s k
      have HNB : Hid (runEnd blankB s k ≤ k) := Lib.hid (by omega)
      rw [hq, show runEnd blankB s k = k by omega] at HB
      clear hq hno hge
      go_wp2_with fail
      refine HB.out.mono ?_
      rintro e w4 ⟨rfl, h7, hfr7⟩
      have HS4 := Lib.hid (HS.out.stepB h7 hfr7)
      clear h7 hfr7 HB
      go_wp2_with fail
      cases hq1 : hasB s k ⟨#[60, 33, 45, 45]⟩ with
      | true =>
        have hle : k + 4 ≤ s.size := hasB_le hq1 hk
        have HB := Lib.hid (rd_has_yes _ _ s k bd ⟨#[60, 33, 45, 45]⟩ _ HS4.out.rd (by decide) hq1)
        have HC := Lib.hid hq1
        have e1 : ((s.extract k (k + 4)).toList == [60, 33, 45, 45]) = true := by
          rw [Lib.extract_toList, beq_iff_eq]
          unfold hasB sub at hq1
          exact of_decide_eq_true hq1
        clear hq1
        refine HB.out.mono ?_
        rintro e w5 ⟨rfl, h7, hfr7⟩
        have h7' : RdM (fun x => w.heap.size < x) w5 (w.heap.size + 1) s (k + 4) bd := h7
        have hs5 := HS4.out.stepB h7' hfr7
        have c0 := hs5.rd.c0
        have c1 := hs5.rd.c1
        have HS5 := Lib.hid hs5
        clear h7 h7' hfr7 hs5 HB
        have d1 : decide ((4 : Int) ≤ (k : Int) + 4) = true := by rw [decide_eq_true_eq]; omega
        have q1 : IntKind.i64.wrap (k : Int) = (k : Int) := by rw [IntKind.wrap_i64]; omega
        have q3 : ((k : Int) + 4).toNat = k + 4 := by omega
        have q4 : (k : Int) + 4 ≤ (s.size : Int) := by omega
        have q5 : (k : Int) ≤ (k : Int) + 4 := by omega
        go_wp2_with fail
        go_quiet (fail)
        go_wp2_with fail
        refine (comment_any _ _ s (k + 4) bd _ (HS5.out.drewN nq).rd).mono ?_
        rintro e w6 ⟨v, j, bd2, rfl, h7, hf7, hpj, hvl, hm⟩
        have HS6 := Lib.hid (HS5.out.stepM h7 (((Fr.refl _ _).drewN nq).trans hf7))
        have HP6 : Hid (ProR s x0 j bd2) := Lib.hid (HP.out.comment HNB.out HC.out hpj hk (by
          cases hx : (if bd = true then none else commentL (s.data.toList.drop (k + 4))) with
          | none => rw [hx] at hm; exact hm
          | some p => rw [hx] at hm; exact ⟨hm.1, hm.2.2⟩))
        clear h7 hf7 hvl hm
        go_wp2_with fail
        go_roundg (s.size - j)
        case rel => exact ⟨j, bd2, rfl, HS6.out, HP6⟩
        case measure => have := HG.out; omega
      | false =>
        have HC := Lib.hid hq1
        have HB := Lib.hid (has_any _ _ s k bd ⟨#[60, 33, 45, 45]⟩ _ HS4.out.rd (by decide) false hq1)
        clear hq1
        refine HB.out.mono ?_
        rintro e w5 ⟨rfl, h7, hfr7⟩
        have h7' : RdM (fun x => w.heap.size < x) w5 (w.heap.size + 1) s k bd := h7
        have HS5 := Lib.hid (HS4.out.stepB h7' hfr7)
        clear h7 h7' hfr7 HB HS4
        go_wp2_with fail
        cases hq3 : hasB s k ⟨#[60]⟩ with
        | false =>
          have HNO := Lib.hid (HP.out.no HNB.out HC.out hq3)
          have HB := Lib.hid (has_any _ _ s k bd ⟨#[60]⟩ _ HS5.out.rd (by decide) false hq3)
          clear hq3
          refine HB.out.mono ?_
          rintro e w6 ⟨rfl, h7, hfr7⟩
          have h7' : RdM (fun x => w.heap.size < x) w6 (w.heap.size + 1) s k bd := h7
          have hs6 := HS5.out.stepB h7' hfr7
          have fz := hs6.k0.frozen
          have z0 := hs6.k0.cell 0
          have z1 := hs6.k0.cell 1
          have z2 := hs6.k0.cell 2
          have z3 := hs6.k0.cell 3
          unfold elZero at z0 z1 z2 z3
          have HS6 := Lib.hid hs6
          clear h7 h7' hfr7 HB HS5 hs6
          go_wp2_with fail
          exact bodyPost_ret (v := .tuple #[.agg #[.string ⟨#[]⟩, .slice none 0 0, .string ⟨#[]⟩, .slice none 0 0], .bool false]) (by simp [results, Tryz.results25, go_sem, z0, z1, z2, z3]) rfl (HFIN.out (.mk [] [] [] []) _ _ false _ (ElM.zero _ _) ((((HS6.out.fr.setCell (p := ⟨w.heap.size, 0, none⟩) (Nat.le_refl _) _).setCell (p := ⟨w.heap.size, 1, none⟩) (Nat.le_refl _) _).setCell (p := ⟨w.heap.size, 2, none⟩) (Nat.le_refl _) _).setCell (p := ⟨w.heap.size, 3, none⟩) (Nat.le_refl _) _) (by rw [HNO.out]; exact rfl))
        | true =>
          have hle : k + 1 ≤ s.size := hasB_le hq3 hk
          have HC3 := Lib.hid hq3
          have HB := Lib.hid (rd_has_yes _ _ s k bd ⟨#[60]⟩ _ HS5.out.rd (by decide) hq3)
          clear hq3
          refine HB.out.mono ?_
          rintro e w6 ⟨rfl, h7, hfr7⟩
          have h7' : RdM (fun x => w.heap.size < x) w6 (w.heap.size + 1) s (k + 1) bd := h7
          have HS6 := Lib.hid (HS5.out.stepB h7' hfr7)
          clear h7 h7' hfr7 HB HS5
          go_wp2_with fail
          refine (ELA.out (w.heap.size + 1) s 40 (by omega) _ (k + 1) bd _ HS6.out.rd HS6.out.errs).mono ?_
          rintro e w7 ⟨el, av, kv, j, bd3, rfl, hel, h7, hf7, hpj, hm⟩
          have HS7 := Lib.hid (HS6.out.stepM h7 hf7)
          have hjs := h7.2.2.2.1
          have HX : Hid (x0 = if bd3 = false ∧ runEnd blankB s j = s.size then some el else none) := Lib.hid (HP.out.yes HNB.out HC.out HC3.out (by omega) hm hjs)
          obtain ⟨⟨ap, an, ac, rfl⟩, ⟨kp, kn, kc, rfl⟩⟩ := hel.slices
          have HEL := Lib.hid hel
          have hl6 := HS6.out.rd.2.2.2.2.lt
          have hl60 := HS6.out.k0.lt
          clear h7 hf7 hel hm
          obtain ⟨W8, hW8⟩ : ∃ W, w7.alloc (.cells #[.string (bst el.name), .slice ap an ac, .string (bst el.text), .slice kp kn kc] 25) = W := ⟨_, rfl⟩
          have hb8 : Below w7.heap.size w7 W8 := by rw [← hW8]; exact (Below.refl _ _).alloc (Nat.le_refl _) _
          have hk8 := Blk.new w7 25 #[.string (bst el.name), .slice ap an ac, .string (bst el.text), .slice kp kn kc]
          rw [hW8] at hk8
          have hs8 := HS7.out.stepM (HS7.out.rd.below hb8) (Fr.below hb8 (Nat.le_refl _) HS7.out.rd.2.1)
          have HB := Lib.hid (rd_blanks _ _ s j bd3 W8 hs8.rd)
          have HEL8 := Lib.hid (HEL.out.fr (Fr.below (M := fun x => w7.heap.size ≤ x) hb8 (Nat.le_refl _) fun _ h => h) (fun x hx => by have := hx.2; omega))
          have HW8 := Lib.hid hW8
          have HS8 := Lib.hid hs8
          have HK8 := Lib.hid hk8
          have hle8 := hb8.size
          obtain ⟨k2, hk2⟩ : ∃ x, runEnd blankB s j = x := ⟨_, rfl⟩
          have hk2s : k2 ≤ s.size := by rw [← hk2]; exact runEnd_le blankB s j hjs
          rw [hk2] at HB HX
          clear hW8 hb8 hk8 hs8 hk2 HEL
          go_wp2_with fail
          rw [HW8.out]
          refine HB.out.mono ?_
          rintro e w9 ⟨rfl, h7, hfr7⟩
          have hs9 := HS8.out.stepB h7 hfr7
          have hne : w7.heap.size ≠ w.heap.size + 1 := by have := HS7.out.rd.2.2.2.2.lt; omega
          have hk9 : Blk w9 w7.heap.size 25 #[.string (bst el.name), .slice ap an ac, .string (bst el.text), .slice kp kn kc] := HK8.out.fr hfr7 hne
          have HEL9 := Lib.hid (HEL8.out.fr hfr7 (fun x hx => by have := hx.1; omega))
          have y0 := hk9.cell 0
          have y1 := hk9.cell 1
          have y2 := hk9.cell 2
          have y3 := hk9.cell 3
          have fy := hk9.frozen
          have c0 := hs9.rd.c0
          have c1 := hs9.rd.c1
          have c2 := hs9.rd.c2
          have fz := hs9.k0.frozen
          have z0 := hs9.k0.cell 0
          have z1 := hs9.k0.cell 1
          have z2 := hs9.k0.cell 2
          have z3 := hs9.k0.cell 3
          unfold elZero at z0 z1 z2 z3
          have HS9 := Lib.hid hs9
          have hl9 := hk9.lt
          have FINW : ∀ W : World, Fr (fun x => x = w.heap.size) w9 W → ElM 49 25 W (fun g => w.heap.size ≤ g ∧ g < W.heap.size) (.slice ap an ac) (.slice kp kn kc) el ∧ Fr (fun g => w.heap.size ≤ g) w W := fun W hf =>
            ⟨(HEL9.out.fr hf (fun x hx => by have := hx.1; omega)).mono fun x hx => ⟨by have := hx.1; omega, by have := hx.2; have := hf.size; omega⟩, hs9.fr.trans (hf.mono fun x hx => by omega)⟩
          have HFW := Lib.hid FINW
          clear h7 hfr7 hk9 hs9 HB FINW hl9 hl6 hl60
          cases bd3 with
          | true =>
            have HSAY : Hid (XSays x0 el false) := Lib.hid (by rw [HX.out, if_neg (fun h => by cases h.1)]; rfl)
            go_wp2_with fail
            go_big_region
            go_wp2_with fail
            exact bodyPost_ret (v := .tuple #[.agg #[.string (bst el.name), .slice ap an ac, .string (bst el.text), .slice kp kn kc], .bool false]) (by simp [results, Tryz.results25, go_sem, z0, z1, z2, z3]) rfl (HFIN.out el _ _ false _ (HFW.out _ (fr4 (.string (bst el.name)) (.slice ap an ac) (.string (bst el.text)) (.slice kp kn kc) w9 w.heap.size)).1 (HFW.out _ (fr4 (.string (bst el.name)) (.slice ap an ac) (.string (bst el.text)) (.slice kp kn kc) w9 w.heap.size)).2 HSAY.out)
          | false =>
            by_cases hq : k2 = s.size
            · have g1 : ((k2 : Int) == (s.size : Int)) = true := by rw [hq]; exact beq_self_eq_true _
              have HSAY : Hid (XSays x0 el true) := Lib.hid (by rw [HX.out, if_pos ⟨rfl, hq⟩]; exact ⟨rfl, rfl⟩)
              clear hq
              go_wp2_with fail
              go_big_region
              go_wp2_with fail
              exact bodyPost_ret (v := .tuple #[.agg #[.string (bst el.name), .slice ap an ac, .string (bst el.text), .slice kp kn kc], .bool true]) (by simp [results, Tryz.results25, go_sem, z0, z1, z2, z3]) rfl (HFIN.out el _ _ true _ (HFW.out _ (fr4 (.string (bst el.name)) (.slice ap an ac) (.string (bst el.text)) (.slice kp kn kc) w9 w.heap.size)).1 (HFW.out _ (fr4 (.string (bst el.name)) (.slice ap an ac) (.string (bst el.text)) (.slice kp kn kc) w9 w.heap.size)).2 HSAY.out)
            · have g1 : ((k2 : Int) == (s.size : Int)) = false := by rw [beq_eq_false_iff_ne]; omega
              have HSAY : Hid (XSays x0 el false) := Lib.hid (by rw [HX.out, if_neg (fun h => hq h.2)]; rfl)
              clear hq
              go_wp2_with fail
              go_big_region
              go_wp2_with fail
              exact bodyPost_ret (v := .tuple #[.agg #[.string (bst el.name), .slice ap an ac, .string (bst el.text), .slice kp kn kc], .bool false]) (by simp [results, Tryz.results25, go_sem, z0, z1, z2, z3]) rfl (HFIN.out el _ _ false _ (HFW.out _ (fr4 (.string (bst el.name)) (.slice ap an ac) (.string (bst el.text)) (.slice kp kn kc) w9 w.heap.size)).1 (HFW.out _ (fr4 (.string (bst el.name)) (.slice ap an ac) (.string (bst el.text)) (.slice kp kn kc) w9 w.heap.size)).2 HSAY.out)
end Go.Proofs.YtlljphipglgjiaaGreatDoor
