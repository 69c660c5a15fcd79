/-
  spec.xReader.element (printed by gen_elem.py).
-/
import Derived.Test.YtlljphipglgjiaaGreatDoorXmEl3
import Derived.Deep.RegionHeld3
import Derived.Deep.AppendLies
import Derived.Deep.DeepCutAuto
import Derived.Deep.CutBlock
import Derived.StillTailTactics
namespace Go.Proofs.YtlljphipglgjiaaGreatDoor
open Go.RowKit Go.Lib
set_option linter.unusedSimpArgs false

def ElSays (s : ByteArray) (r : Option (XEl × List UInt8)) (el : XEl) (j : Nat) (bd : Bool) : Prop :=
  match r with | some p => bd = false ∧ el = p.1 ∧ s.data.toList.drop j = p.2 | none => bd = true
/-- What element hands back, as r tells: the tree's rows lie in new blocks. -/
def ElPost (M : Nat → Prop) (b : Nat) (s : ByteArray) (i : Nat) (w : World) (r : Option (XEl × List UInt8)) (e : Ending) (w' : World) : Prop :=
  ∃ (el : XEl) (av kv : Value) (j : Nat) (bd : Bool), e = .returned (.agg #[.string (bst el.name), av, .string (bst el.text), kv]) ∧ ElM 49 25 w' (fun x => w.heap.size ≤ x ∧ x < w'.heap.size) av kv el ∧ RdM M w' b s j bd ∧ Fr M w w' ∧ i ≤ j ∧ ElSays s r el j bd

/-- Behind the attributes. -/
def MidR (d : Nat) (M : Nat → Prop) (b : Nat) (s : ByteArray) (i : Nat) (w : World) (N0 N1 : Nat) (nm : List UInt8) (r0 : Option (XEl × List UInt8)) (wc : World) : Prop :=
  ∃ (al : List AttrS) (ap : Option Addr) (an ac top k : Nat) (bd : Bool), ElS M b s w wc N0 N1 top nm al [] (.slice ap an ac) (.slice none 0 0) k bd ∧ i ≤ k ∧ (bd = false → r0 = (kidsAt d nm (s.data.toList.drop k)).map fun p => (.mk nm al [] p.1, p.2)) ∧ (bd = true → r0 = none)

theorem Tryz.info49 : (Tryz.prog.info? 49).map (fun i => (i.zero, i.size, i.bytes)) = some (some (.agg #[.string ⟨#[]⟩, .string ⟨#[]⟩, .string ⟨#[]⟩]), 3, 48) := by kernel_rfl
theorem Tryz.info25 : (Tryz.prog.info? 25).map (fun i => (i.zero, i.size, i.bytes)) = some (some (.agg #[.string ⟨#[]⟩, .slice none 0 0, .string ⟨#[]⟩, .slice none 0 0]), 4, 80) := by kernel_rfl

set_option maxRecDepth 100000 in
set_option maxHeartbeats 20000000 in
theorem elem_step (d : Nat) (b : Nat) (s : ByteArray) (hd : d ≤ 1000)
    (IH : ∀ d', d = d' + 1 → ∀ (M : Nat → Prop) (i : Nat) (bad : Bool) (w : World), RdM M w b s i bad → Errs M w → Calls Tryz.prog 55 #[.pointer (some ⟨b, 0, none⟩), .int .i64 (d' : Int)] w (ElPost M b s i w (if bad then none else elemL d' (s.data.toList.drop i))))
    (M : Nat → Prop) (i : Nat) (bad : Bool) (w : World) (hR : RdM M w b s i bad) (hE : Errs M w) :
    Calls Tryz.prog 55 #[.pointer (some ⟨b, 0, none⟩), .int .i64 (d : Int)] w (ElPost M b s i w (if bad then none else elemL d (s.data.toList.drop i))) := by
  have HIH := Lib.hid IH
  clear IH
  rw [res_eq, ← sub_run]
  obtain ⟨nm, hnm⟩ : ∃ nm, sub s i (runEnd nameC s i) = nm := ⟨_, rfl⟩
  obtain ⟨AT, hAT⟩ : ∃ AT, atOf bad (s.data.toList.drop i) = AT := ⟨_, rfl⟩
  obtain ⟨r0, hr0⟩ : ∃ r, resOf d (sub s i (runEnd nameC s i)) AT = r := ⟨_, rfl⟩
  have hstart := AtR.start s i bad
  rw [hAT, hnm] at hstart
  rw [hAT, hr0]
  rw [hnm] at hr0
  obtain ⟨post, hpost⟩ : ∃ post, ElPost M b s i w r0 = post := ⟨_, rfl⟩
  have hfin : ∀ (el : XEl) (av kv : Value) (j : Nat) (bd : Bool) (w' : World), ElM 49 25 w' (fun x => w.heap.size ≤ x ∧ x < w'.heap.size) av kv el → RdM M w' b s j bd → Fr M w w' → i ≤ j → ElSays s r0 el j bd → post (.returned (.agg #[.string (bst el.name), av, .string (bst el.text), kv])) w' := by
    intro el av kv j bd w' h1 h2 h3 h4 h5
    rw [← hpost]
    exact ⟨el, av, kv, j, bd, rfl, h1, h2, h3, h4, h5⟩
  rw [hpost]
  obtain ⟨i49, hi49, hz49a, hz49b, hz49c⟩ := info_parts Tryz.info49
  obtain ⟨i25, hi25, hz25a, hz25b, hz25c⟩ := info_parts Tryz.info25
  have HST := Lib.hid hstart
  have HFIN := Lib.hid hfin
  have HR0 := Lib.hid hr0
  have HNM := Lib.hid hnm
  have hN := hR.2.1
  have hi := hR.2.2.2.1
  have hss := hR.2.2.1
  have hr1 : RdM M (w.alloc (.cells elZero 25)) b s i bad := hR.below ((Below.refl _ _).alloc (Nat.le_refl _) _)
  have hk0 : Blk (w.alloc (.cells elZero 25)) w.heap.size 25 elZero := Blk.new _ _ _
  have hbw := hR.lt
  have HR1 := Lib.hid hr1
  have HK0 := Lib.hid hk0
  have HE := Lib.hid hE
  have hie : i ≤ runEnd nameC s i := runEnd_ge _ _ _
  obtain ⟨i1, hi1⟩ : ∃ x, runEnd nameC s i = x := ⟨_, rfl⟩
  have HI1 := Lib.hid hi1
  have hnmx : s.extract i i1 = bst nm := ba_ext (by rw [ext_list, bst_toList, ← hnm, hi1]; rfl)
  have HNMX := Lib.hid hnmx
  rw [hi1] at HST hie
  clear hstart hfin hr0 hnm hpost hAT hR hE hr1 hk0 hi1 hnmx
  go_enter Tryz.func55, Tryz.ntmps55
  go_wp2_with fail
  refine (rd_name M b s i bad _ HR1.out).mono ?_
  rintro e w1 ⟨rfl, h1, hf1⟩
  rw [HNM.out, HI1.out] at h1
  rw [HI1.out, HNMX.out]
  have HF1 := Lib.hid hf1
  have H1 := Lib.hid h1
  clear h1 hf1
  go_upto_block 0 with fail
  obtain ⟨W, hW⟩ : ∃ W, w1.alloc (.cells #[.string (bst nm), .slice none 0 0, .string ⟨#[]⟩, .slice none 0 0] 25) = W := ⟨_, rfl⟩
  have hs1 : (w.alloc (.cells elZero 25)).heap.size ≤ w1.heap.size := HF1.out.size
  have hS : ElS M b s w W w.heap.size w1.heap.size W.heap.size nm [] [] (.slice none 0 0) (.slice none 0 0) i1 (bad || !goodName nm) := by
    have hbel : Below w1.heap.size w1 W := by rw [← hW]; exact (Below.refl _ _).alloc (Nat.le_refl _) _
    have f0 : Fr M w w1 := ((Fr.refl M w).alloc hN _).trans (HF1.out.mono fun x hx => by rw [hx]; exact HR1.out.1)
    have f : Fr M w W := f0.trans (Fr.below hbel (Nat.le_refl _) H1.out.2.1)
    refine ⟨⟨H1.out.below hbel, f, HE.out.fr f, hN, hbw, Nat.le_refl _, by simp at hs1; omega, ?_, by rw [← hW]; exact Blk.new _ _ _⟩, AttrsT.nil _ _, fun g hg => by simp [Value.ownBlock] at hg, KidsM.nil _, by rw [← hW]; simp, Nat.le_refl _⟩
    exact (hbel.block _ (by simp at hs1; omega)).trans (HK0.out.fr HF1.out (by omega))
  rw [hW]
  have HS := Lib.hid hS
  clear hW hS HF1 H1 HR1 HK0
  have hgg : ∀ x, isPre [61] x = true → ∃ t, x = 61 :: t := fun x hx => by
    cases x with
    | nil => simp [isPre] at hx
    | cons a t => exact ⟨t, by simp [isPre] at hx; rw [hx]⟩
  have HGG := Lib.hid hgg
  clear hgg
  go_cut [] (fun wc => MidR d M b s i w w.heap.size w1.heap.size nm r0 wc)
  case first =>
    go_wp2_with fail
    go_loopg [] (if (bad || !goodName nm) then 0 else s.size - i1 + 1) (fun g wr => ∃ (al : List AttrS) (ap : Option Addr) (an ac top k : Nat) (bd : Bool), g = (if bd then 0 else s.size - k + 1) ∧ ElS M b s w wr w.heap.size w1.heap.size top nm al [] (.slice ap an ac) (.slice none 0 0) k bd ∧ i ≤ k ∧ al.length ≤ k ∧ Hid (AtR s AT al k bd))
    case atStart => exact ⟨[], none, 0, 0, _, i1, _, rfl, HS.out, hie, Nat.zero_le _, HST⟩
    case round =>
      obtain ⟨al, ap, an, ac, top, k, bd, hg, hs, hik, hal, HA⟩ := hrel
      have c2 := hs.st.rd.c2
      have hk := hs.st.rd.2.2.2.1
      have HS1 := Lib.hid hs
      have HG := Lib.hid hg
      clear hs hg HS HST
      cases bd with
      | true =>
        go_wp2_with fail
        go_meet
        refine ⟨al, ap, an, ac, top, k, true, HS1.out, hik, (fun h => nomatch h), fun _ => ?_⟩
        rw [← HR0.out, HA.out.2 rfl]
        rfl
      | false =>
        go_wp2_with fail
        have hbl := rd_blanks M b s k false wr HS1.out.st.rd
        obtain ⟨k2, hk2⟩ : ∃ x, runEnd blankB s k = x := ⟨_, rfl⟩
        obtain ⟨sm, hsm⟩ : ∃ x, decide (k < k2) = x := ⟨_, rfl⟩
        rw [hk2, hsm] at hbl
        have hk2a : k ≤ k2 := by rw [← hk2]; exact runEnd_ge _ _ _
        have hk2b : k2 ≤ s.size := by rw [← hk2]; exact runEnd_le _ _ _ hk
        have hd2 : (s.data.toList.drop k).dropWhile blankB = s.data.toList.drop k2 := by rw [← hk2, drop_run]
        obtain ⟨f, hfl, hfe⟩ := HA.out.1 rfl
        obtain ⟨g0, rfl⟩ : ∃ g, f = g + 1 := ⟨f - 1, by omega⟩
        have HFL := Lib.hid hfl
        have HAT := Lib.hid hfe
        have HD2 := Lib.hid hd2
        have HSM := Lib.hid hsm
        have HBL := Lib.hid hbl
        clear hbl hk2 hd2 hfl hfe hsm
        refine HBL.out.mono ?_
        rintro e w2 ⟨rfl, h2, hfr2⟩
        have HS2 := Lib.hid (HS1.out.stepB h2 hfr2)
        clear h2 hfr2
        go_wp2_with fail
        cases hq1 : hasB s k2 ⟨#[47, 62]⟩ with
        | true =>
          have HQ1 : Hid (isPre [47, 62] (s.data.toList.drop k2) = true) := Lib.hid (by rw [← hq1, hasB_pre])
          have hle := hasB_le hq1 hk2b
          have hle2 : k2 + 2 ≤ s.size := hle
          have HQ := Lib.hid (rd_has_yes M b s k2 false ⟨#[47, 62]⟩ _ HS2.out.st.rd (by decide) hq1)
          clear hq1 hle
          refine HQ.out.mono ?_
          rintro e w3 ⟨rfl, h3, hfr3⟩
          have h3' : RdM M w3 b s (k2 + 2) false := h3
          have hs3 := HS2.out.stepB h3' hfr3
          have a0 := hs3.st.k1.cell 0
          have a1 := hs3.st.k1.cell 1
          have a2 := hs3.st.k1.cell 2
          have a3 := hs3.st.k1.cell 3
          have z0 := hs3.st.k0.cell 0
          have z1 := hs3.st.k0.cell 1
          have z2 := hs3.st.k0.cell 2
          have z3 := hs3.st.k0.cell 3
          unfold elZero at z0 z1 z2 z3
          have fz := hs3.st.k0.frozen
          have HS3 := Lib.hid hs3
          have HDD : Hid (r0 = some (.mk nm al [] [], s.data.toList.drop (k2 + 2))) := Lib.hid (by
            rw [← HR0.out, HAT.out, attrF_end g0 _ (by rw [HD2.out]; exact HQ1.out), HD2.out, List.drop_drop]
            simp [resOf])
          clear h3 h3' hfr3 hs3 HQ
          go_wp2_with fail
          obtain ⟨hr1, hr2, hr3, hr4⟩ := HS3.out.ret
          have y0 := hr1.cell 0
          have y1 := hr1.cell 1
          have y2 := hr1.cell 2
          have y3 := hr1.cell 3
          exact bodyPost_ret (v := .agg #[.string (bst nm), .slice ap an ac, .string ⟨#[]⟩, .slice none 0 0]) (by simp [results, Tryz.results55, go_sem, y0, y1, y2, y3]) rfl (HFIN.out (.mk nm al [] []) _ _ (k2 + 2) false _ hr2 hr3 hr4 (by omega) (by rw [HDD.out]; exact ⟨rfl, rfl, rfl⟩))
        | false =>
          have HQ1 : Hid (isPre [47, 62] (s.data.toList.drop k2) = false) := Lib.hid (by rw [← hq1, hasB_pre])
          have HQ := Lib.hid (has_any M b s k2 false ⟨#[47, 62]⟩ _ HS2.out.st.rd (by decide) false hq1)
          clear hq1
          refine HQ.out.mono ?_
          rintro e w3 ⟨rfl, h3, hfr3⟩
          have h3' : RdM M w3 b s k2 false := h3
          have HS3 := Lib.hid (HS2.out.stepB h3' hfr3)
          clear h3 h3' hfr3 HQ HS2
          go_wp2_with fail
          cases hq2 : hasB s k2 ⟨#[62]⟩ with
          | true =>
            have HQ2 : Hid (isPre [62] (s.data.toList.drop k2) = true) := Lib.hid (by rw [← hq2, hasB_pre])
            have hle := hasB_le hq2 hk2b
            have hle2 : k2 + 1 ≤ s.size := hle
            have HQ := Lib.hid (rd_has_yes M b s k2 false ⟨#[62]⟩ _ HS3.out.st.rd (by decide) hq2)
            clear hq2 hle
            refine HQ.out.mono ?_
            rintro e w4 ⟨rfl, h4, hfr4⟩
            have h4' : RdM M w4 b s (k2 + 1) false := h4
            have HS4 := Lib.hid (HS3.out.stepB h4' hfr4)
            have HDD : Hid (r0 = (kidsAt d nm (s.data.toList.drop (k2 + 1))).map fun p => (.mk nm al [] p.1, p.2)) := Lib.hid (by
              rw [← HR0.out, HAT.out, attrF_open g0 _ (by rw [HD2.out]; exact HQ1.out) (by rw [HD2.out]; exact HQ2.out), HD2.out, List.drop_drop]
              simp [resOf])
            clear h4 h4' hfr4 HQ
            go_wp2_with fail
            go_meet
            exact ⟨al, ap, an, ac, top, k2 + 1, false, HS4.out, by omega, fun _ => HDD.out, (fun h => nomatch h)⟩
          | false =>
            have HQ2 : Hid (isPre [62] (s.data.toList.drop k2) = false) := Lib.hid (by rw [← hq2, hasB_pre])
            have HQ := Lib.hid (has_any M b s k2 false ⟨#[62]⟩ _ HS3.out.st.rd (by decide) false hq2)
            clear hq2
            refine HQ.out.mono ?_
            rintro e w4 ⟨rfl, h4, hfr4⟩
            have h4' : RdM M w4 b s k2 false := h4
            have HS4 := Lib.hid (HS3.out.stepB h4' hfr4)
            clear h4 h4' hfr4 HQ HS3
            go_wp2_with fail
            obtain ⟨V, hV⟩ : ∃ V, w4.alloc (.cells #[.string ⟨#[]⟩, .string ⟨#[]⟩, .string ⟨#[]⟩] 49) = V := ⟨_, rfl⟩
            obtain ⟨N2, hN2⟩ : ∃ n, w4.heap.size = n := ⟨_, rfl⟩
            have HSV0 : Hid (ElS M b s w V w.heap.size w1.heap.size N2 nm al [] (.slice ap an ac) (.slice none 0 0) k2 false) := Lib.hid (by rw [← hV, ← hN2]; exact HS4.out.atTop.alloc _)
            have HAV0 : Hid (Blk V N2 49 #[.string ⟨#[]⟩, .string ⟨#[]⟩, .string ⟨#[]⟩]) := Lib.hid (by rw [← hV, ← hN2]; exact Blk.new _ _ _)
            have hn2w : w.heap.size ≤ N2 := by rw [← hN2]; exact HS4.out.st.fr.size
            have hn2b : b < N2 := by omega
            rw [hV, hN2]
            obtain ⟨na, hna⟩ : ∃ x, (s.data.toList.drop k2).takeWhile nameC = x := ⟨_, rfl⟩
            obtain ⟨p, hp⟩ : ∃ x, runEnd nameC s k2 = x := ⟨_, rfl⟩
            obtain ⟨bd1, hbd1⟩ : ∃ x, (!goodName na) = x := ⟨_, rfl⟩
            have hname := rd_name M b s k2 false V HSV0.out.st.rd
            rw [sub_run, hna, hp, Bool.false_or, hbd1, show s.extract k2 p = bst na from ba_ext (by rw [ext_list, bst_toList, ← hna, ← sub_run, hp]; rfl)] at hname
            have hpa : k2 ≤ p := by rw [← hp]; exact runEnd_ge _ _ _
            have hpb : p ≤ s.size := by rw [← hp]; exact runEnd_le _ _ _ hk2b
            have hd3 : (s.data.toList.drop k2).dropWhile nameC = s.data.toList.drop p := by rw [← hp, drop_run]
            have hnal : p = k2 + na.length := by rw [← hp, ← hna]; rfl
            have HNAME := Lib.hid hname
            have HNA := Lib.hid hna
            have HBD1 := Lib.hid hbd1
            have HD3 := Lib.hid hd3
            have HNAL := Lib.hid hnal
            have hnl : na.length ≤ 1000000 := by omega
            clear hname hna hp hbd1 hd3 hnal hV hN2
            refine HNAME.out.mono ?_
            rintro e w5 ⟨rfl, h5, hfr5⟩
            have ha5 := HAV0.out.fr hfr5 (by omega)
            have HS5 := Lib.hid (HSV0.out.stepB h5 hfr5)
            have HA5 := Lib.hid ha5
            have b0 := ha5.cell 0
            have b1 := ha5.cell 1
            have b2 := ha5.cell 2
            have fzA := ha5.frozen
            clear ha5 h5 hfr5
            go_wp2_with fail
            refine (halves_any (bst na) _ (by rw [bst_size]; omega)).mono ?_
            rintro e w6 ⟨rfl, n6, rfl⟩
            rw [bst_toList]
            obtain ⟨hv, hhv⟩ : ∃ x, halvesL na = x := ⟨_, rfl⟩
            rw [hhv]
            have HHV := Lib.hid hhv
            clear hhv
            go_upto_region 9 with fail
            obtain ⟨W6, hW6⟩ : ∃ W, (((w5.drewN n6).setCell ⟨N2, 0, none⟩ (.string (bst hv.1))).setCell ⟨N2, 1, none⟩ (.string (bst hv.2))) = W := ⟨_, rfl⟩
            rw [hW6]
            have hs6 : ElS M b s w W6 w.heap.size w1.heap.size N2 nm al [] (.slice ap an ac) (.slice none 0 0) p bd1 := by
              rw [← hW6]
              exact ((HS5.out.drewN n6).setOther (Nat.le_refl _) (HS5.out.st.nw _ hn2w) _ _).setOther (Nat.le_refl _) (HS5.out.st.nw _ hn2w) _ _
            have ha6 : Blk W6 N2 49 #[.string (bst hv.1), .string (bst hv.2), .string ⟨#[]⟩] := by
              rw [← hW6]
              exact (((HA5.out.drewN n6).set 0 _).set 1 _).eq rfl
            have c0 := hs6.st.rd.c0
            have c1 := hs6.st.rd.c1
            have c2 := hs6.st.rd.c2
            have fz := hs6.st.rd.2.2.2.2.frozen
            have HS6 := Lib.hid hs6
            have HA6 := Lib.hid ha6
            have HNONE : Hid (bd1 = true ∨ sm = false → AT = none) := Lib.hid fun h => by
              rw [HAT.out, attrF_bad g0 _ (by rw [HD2.out]; exact HQ1.out) (by rw [HD2.out]; exact HQ2.out), Option.map_none]
              rw [HD2.out]
              rcases h with h | h
              · left
                rw [HNA.out]
                have := HBD1.out
                rw [h] at this
                simpa using this
              · right
                have := HSM.out
                rw [h] at this
                have h3 : ¬ k < k2 := by simpa using this
                rw [show k2 = k by omega]
            clear hs6 ha6 hW6 HSV0 HAV0 HS5 HA5 b0 b1 b2 fzA
            cases sm with
            | false =>
              go_wp2_with fail
              go_quiet (fail)
              go_wp2_with fail
              go_meet
              refine ⟨al, ap, an, ac, N2, p, true, (HS6.out.drewN _).bad true, by omega, (fun h => nomatch h), fun _ => ?_⟩
              rw [← HR0.out, HNONE.out (by simp)]
              rfl
            | true =>
              go_wp2_with fail
              cases hq3 : hasB s p ⟨#[61]⟩ with
              | false =>
                have HNEQ : Hid (AT = none) := Lib.hid (by
                  rw [HAT.out, attrF_noeq g0 _ (by rw [HD2.out]; exact HQ1.out) (by rw [HD2.out]; exact HQ2.out) (by rw [HD2.out, HD3.out]; rw [hasB_pre] at hq3; exact hq3)]
                  rfl)
                have HQ := Lib.hid (has_any M b s p bd1 ⟨#[61]⟩ _ HS6.out.st.rd (by decide) false hq3)
                clear hq3
                refine HQ.out.mono ?_
                rintro e W7 ⟨rfl, h7, hfr7⟩
                have h7' : RdM M W7 b s (p) bd1 := h7
                have hs7 := HS6.out.stepB h7' hfr7
                have c0 := hs7.st.rd.c0
                have c1 := hs7.st.rd.c1
                have c2 := hs7.st.rd.c2
                have fz := hs7.st.rd.2.2.2.2.frozen
                have HS7 := Lib.hid hs7
                have HS7A := Lib.hid (HA6.out.fr hfr7 (by omega))
                clear h7 h7' hfr7 HQ hs7
                by_cases hp0 : p = 0
                · have e0 : ((p : Int) == 0) = true := by rw [beq_iff_eq]; omega
                  go_wp2_with fail
                  go_quiet (fail)
                  go_wp2_with fail
                  go_meet
                  refine ⟨al, ap, an, ac, N2, p, true, (HS7.out.drewN _).bad true, by omega, (fun h => nomatch h), fun _ => ?_⟩
                  rw [← HR0.out, HNEQ.out]
                  rfl
                have e0 : ((p : Int) == 0) = false := by rw [beq_eq_false_iff_ne]; omega
                obtain ⟨m, rfl⟩ : ∃ m, p = m + 1 := ⟨p - 1, by omega⟩
                have q1 : IntKind.i64.wrap (m : Int) = (m : Int) := by rw [IntKind.wrap_i64]; omega
                have hp1 : m < s.size := by omega
                have hp1' : m + 1 - 1 < s.size := by omega
                by_cases h61 : s[m] = 61
                · have e1 : ((s[m].toNat : Int) != 61) = false := by rw [h61]; rfl
                  have hb1 : bd1 = true := by
                    cases hbb : bd1 with
                    | true => rfl
                    | false =>
                      exfalso
                      have hgn := HBD1.out
                      rw [hbb] at hgn
                      exact last_name HNA.out HNAL.out (by simpa using hgn) hp1' h61
                  clear h61
                  cases hq5 : hasB s (m + 1) ⟨#[39]⟩ with
                  | true =>
                    have hle := hasB_le hq5 hpb
                    have hle2 : m + 1 + 1 ≤ s.size := hle
                    have HQ := Lib.hid (rd_has_yes M b s (m + 1) bd1 ⟨#[39]⟩ W7.drew HS7.out.st.rd (by decide) hq5)
                    clear hq5 hle
                    go_wp2_with fail
                    go_still_tail 25, (by kernel_rfl)
                    change wpList _ _ _ _ _ W7.drew
                    go_wp2_with fail
                    refine HQ.out.mono ?_
                    rintro e W8 ⟨rfl, h7, hfr7⟩
                    have h7' : RdM M W8 b s (m + 1 + 1) bd1 := h7
                    have hs7 := HS7.out.stepB h7' (((Fr.refl _ W7).drew).trans hfr7)
                    have c0 := hs7.st.rd.c0
                    have c1 := hs7.st.rd.c1
                    have c2 := hs7.st.rd.c2
                    have fz := hs7.st.rd.2.2.2.2.frozen
                    have HSV := Lib.hid hs7
                    have HSVA := Lib.hid (HS7A.out.fr (((Fr.refl (fun x => x = b) W7).drew).trans hfr7) (by omega))
                    clear h7 h7' hfr7 HQ hs7
                    go_wp2_with fail
                    have HVAL : Hid (ValR s AT al 39 (m + 1 + 1) g0 (bst hv.1) (bst hv.2) bd1) := Lib.hid ⟨fun _ => HNEQ.out, by have := HFL.out; rw [List.length_drop, list_size] at this ⊢; omega, fun h => by rw [hb1] at h; cases h⟩
                    clear hb1
                    have HTX : Hid (Calls Tryz.prog 104 #[.pointer (some ⟨b, 0, none⟩), .int .u8 (((⟨#[39]⟩ : ByteArray)[0]'(by decide)).toNat : Int), .int .u8 (((⟨#[39]⟩ : ByteArray)[0]'(by decide)).toNat : Int)] W8.drew (StrPost (Out M w.heap.size W8.heap.size) b s (m + 1 + 1) W8.drew (if bd1 then none else txtF 39 39 ((s.data.toList.drop (m + 1 + 1)).length + 1) (s.data.toList.drop (m + 1 + 1))))) :=
                      Lib.hid (text_total _ b s _ bd1 39 39 W8.drew HSV.out.st.rdO HSV.out.st.errs.out _ (by rw [List.length_drop, list_size]; omega))
                    go_upto_region 14 with fail
                    go_cut [] (fun wc => ∃ (v : List UInt8) (j : Nat) (bd2 : Bool), ElS M b s w wc w.heap.size w1.heap.size N2 nm al [] (.slice ap an ac) (.slice none 0 0) j bd2 ∧ Blk wc N2 49 #[.string (bst hv.1), .string (bst hv.2), .string (bst v)] ∧ m + 1 + 1 ≤ j ∧
                      Hid (match (if bd1 then none else txtF 39 39 ((s.data.toList.drop (m + 1 + 1)).length + 1) (s.data.toList.drop (m + 1 + 1))) with | some p => bd2 = false ∧ v = p.1 ∧ s.data.toList.drop j = p.2 | none => bd2 = true))
                    case first =>
                      go_region_held3 (fun _ => True) (trivial)
                        (first | (go_at_call 104
                                  refine HTX.out.mono ?_
                                  rintro e w7 ⟨v, j, bd2, rfl, h7, hf7, hpj, hvl, hm⟩
                                  have hf7' := ((Fr.refl (Out M w.heap.size W8.heap.size) W8).drew).trans hf7
                                  have hA7 := HSVA.out.fr hf7' (not_Out hn2w HSVA.out.lt)
                                  have z0 := hA7.cell 0
                                  have z1 := hA7.cell 1
                                  have z2 := hA7.cell 2
                                  have fz := hA7.frozen
                                  have HS7 := Lib.hid (HSV.out.stepO h7 hf7')
                                  have HA7 := Lib.hid hA7
                                  have HM := Lib.hid hm
                                  clear h7 hf7 hf7' hA7 hm))
                      all_goals
                        go_wp2_with fail
                        go_meet
                        exact ⟨v, j, bd2, HS7.out.setOther (Nat.le_refl _) (HSV.out.st.nw _ hn2w) _ _, (HA7.out.set 2 _).eq rfl, hpj, HM⟩
                    case rest =>
                      obtain ⟨v, j, bd2, hs8, ha8, hpj, HM⟩ := hcut
                      have hj := hs8.st.rd.2.2.2.1
                      have HS8 := Lib.hid hs8
                      have HS8A := Lib.hid ha8
                      clear hs8 ha8
                      go_wp2_with fail
                      cases hq7 : hasB s j ⟨#[39]⟩ with
                      | true =>
                        have hle := hasB_le hq7 hj
                        have hle2 : j + 1 ≤ s.size := hle
                        have hdj : s.data.toList.drop j = 39 :: s.data.toList.drop (j + 1) := by
                          have hjs : j < s.size := by omega
                          rw [hasB_one s j 39 hjs] at hq7
                          rw [drop_cons s j hjs, of_decide_eq_true hq7]
                        have HQ := Lib.hid (rd_has_yes M b s j bd2 ⟨#[39]⟩ _ HS8.out.st.rd (by decide) hq7)
                        have HATR : Hid (AtR s AT (al ++ [⟨bst hv.1, bst hv.2, bst v⟩]) (j + 1) bd2) := Lib.hid (HVAL.out.yes HM.out hdj (by omega) hle2)
                        clear hq7 hle hdj
                        refine HQ.out.mono ?_
                        rintro e w9 ⟨rfl, h9, hfr9⟩
                        have h9' : RdM M w9 b s (j + 1) bd2 := h9
                        have HS9 := Lib.hid (HS8.out.stepB h9' hfr9)
                        have HS9A := Lib.hid (HS8A.out.fr hfr9 (by omega))
                        clear h9 h9' hfr9 HQ
                        have hsy := HS9.out
                        have y1 := hsy.st.k1.cell 1
                        have z0 := HS9A.out.cell 0
                        have z1 := HS9A.out.cell 1
                        have z2 := HS9A.out.cell 2
                        have HOWN : Hid (w9.ownsRow 0 49 3 (.slice ap an ac) al.length (al.flatMap AttrS.cells)) := Lib.hid hsy.at'
                        have HK1 : Hid (Blk (w9.alloc (.cells #[.string (bst hv.1), .string (bst hv.2), .string (bst v)] 49)) w1.heap.size 25 #[.string (bst nm), .slice ap an ac, .string ⟨#[]⟩, .slice none 0 0]) := Lib.hid (hsy.st.k1.alloc _)
                        have HNE1 : Hid ((.slice ap an ac : Value).ownBlock ≠ some w1.heap.size) := Lib.hid (rows_ne hsy.at' hsy.st.k1 (by decide))
                        clear hsy
                        go_wp2_with ((at_builtin; refine wpList_append_where _ rfl _ _ 22 rfl 0 49 i49 (.agg #[.string ⟨#[]⟩, .string ⟨#[]⟩, .string ⟨#[]⟩]) 3 48 Tryz.underlying22 hi49 hz49a hz49b hz49c rfl (by decide) _ _ _ rfl (HOWN.out.alloc _) ⟨w9.heap.size, 0, none⟩ 1 1 [.string (bst hv.1), .string (bst hv.2), .string (bst v)] rfl rfl ?c1 ?c2 ?c3 ?c4 ?c5 ?_))
                        case c1 => exact World.news_of_block (cs := #[.string (bst hv.1), .string (bst hv.2), .string (bst v)]) (t := 49) (fr := (0, 0)) (heap_alloc_new w9 _)
                        case c2 => simp [Value.oneCell']
                        case c3 => unfold maxLen; omega
                        case c4 => omega
                        case c5 => exact Nat.zero_le _
                        intro v2 w10 hown2 hgrow hat2
                        obtain ⟨vp2, vn2, vc2, rfl⟩ : ∃ ap an ac, v2 = .slice ap an ac := by
                          rcases hown2.2 with ⟨rfl, _⟩ | ⟨g, cap, cur, rfl, _⟩
                          · exact ⟨_, _, _, rfl⟩
                          · exact ⟨_, _, _, rfl⟩
                        have n1 := HK1.out.fr (row_fr hgrow) (fun e => by
                          rcases e with e | e
                          · have := HS9.out.st.k1.lt; simp at e; omega
                          · exact HNE1.out e)
                        have y1 := n1.cell 1
                        have fz := n1.frozen
                        have HSN := Lib.hid ((HS9.out.alloc _).attr (a := ⟨bst hv.1, bst hv.2, bst v⟩) hown2 hgrow hat2)
                        clear n1 hown2 hgrow hat2 z0 z1 z2
                        go_wp2_with fail
                        go_roundg (if bd2 then 0 else s.size - (j + 1) + 1)
                        case rel => exact ⟨al ++ [⟨bst hv.1, bst hv.2, bst v⟩], vp2, vn2, vc2, _, j + 1, bd2, rfl, HSN.out, by omega, by rw [List.length_append, List.length_singleton]; omega, HATR⟩
                        case measure => have := HG.out; simp at this; (try split) <;> omega
                      | false =>
                        have hdj : ∀ t, s.data.toList.drop j ≠ 39 :: t := by
                          intro t h
                          rw [hasB_pre, h] at hq7
                          simp [isPre] at hq7
                        have HQ := Lib.hid (has_any M b s j bd2 ⟨#[39]⟩ _ HS8.out.st.rd (by decide) false hq7)
                        have HATR : Hid (AtR s AT (al ++ [⟨bst hv.1, bst hv.2, bst v⟩]) j true) := Lib.hid (HVAL.out.no HM.out hdj)
                        clear hq7 hdj
                        refine HQ.out.mono ?_
                        rintro e w8 ⟨rfl, h9, hfr9⟩
                        have h9' : RdM M w8 b s j bd2 := h9
                        have hs9 := HS8.out.stepB h9' hfr9
                        have c2 := hs9.st.rd.c2
                        have fz := hs9.st.rd.2.2.2.2.frozen
                        have HS9 := Lib.hid hs9
                        have HA9 := Lib.hid (HS8A.out.fr hfr9 (by omega))
                        clear h9 h9' hfr9 HQ hs9
                        go_upto_region 17 with fail
                        obtain ⟨Y, hY⟩ : ∃ Y, w8.setCell ⟨b, 2, none⟩ (.bool true) = Y := ⟨_, rfl⟩
                        rw [hY]
                        have HSY : Hid (ElS M b s w Y w.heap.size w1.heap.size N2 nm al [] (.slice ap an ac) (.slice none 0 0) j true) := Lib.hid (by rw [← hY]; exact HS9.out.bad true)
                        have HSYA : Hid (Blk Y N2 49 #[.string (bst hv.1), .string (bst hv.2), .string (bst v)]) := Lib.hid (by rw [← hY]; exact HA9.out.far (by simp; omega) _)
                        clear hY HS9 HA9 c2 fz
                        have hsy := HSY.out
                        have y1 := hsy.st.k1.cell 1
                        have z0 := HSYA.out.cell 0
                        have z1 := HSYA.out.cell 1
                        have z2 := HSYA.out.cell 2
                        have HOWN : Hid (Y.ownsRow 0 49 3 (.slice ap an ac) al.length (al.flatMap AttrS.cells)) := Lib.hid hsy.at'
                        have HK1 : Hid (Blk (Y.alloc (.cells #[.string (bst hv.1), .string (bst hv.2), .string (bst v)] 49)) w1.heap.size 25 #[.string (bst nm), .slice ap an ac, .string ⟨#[]⟩, .slice none 0 0]) := Lib.hid (hsy.st.k1.alloc _)
                        have HNE1 : Hid ((.slice ap an ac : Value).ownBlock ≠ some w1.heap.size) := Lib.hid (rows_ne hsy.at' hsy.st.k1 (by decide))
                        clear hsy
                        go_wp2_with ((at_builtin; refine wpList_append_where _ rfl _ _ 22 rfl 0 49 i49 (.agg #[.string ⟨#[]⟩, .string ⟨#[]⟩, .string ⟨#[]⟩]) 3 48 Tryz.underlying22 hi49 hz49a hz49b hz49c rfl (by decide) _ _ _ rfl (HOWN.out.alloc _) ⟨Y.heap.size, 0, none⟩ 1 1 [.string (bst hv.1), .string (bst hv.2), .string (bst v)] rfl rfl ?c1 ?c2 ?c3 ?c4 ?c5 ?_))
                        case c1 => exact World.news_of_block (cs := #[.string (bst hv.1), .string (bst hv.2), .string (bst v)]) (t := 49) (fr := (0, 0)) (heap_alloc_new Y _)
                        case c2 => simp [Value.oneCell']
                        case c3 => unfold maxLen; omega
                        case c4 => omega
                        case c5 => exact Nat.zero_le _
                        intro v2 w10 hown2 hgrow hat2
                        obtain ⟨vp2, vn2, vc2, rfl⟩ : ∃ ap an ac, v2 = .slice ap an ac := by
                          rcases hown2.2 with ⟨rfl, _⟩ | ⟨g, cap, cur, rfl, _⟩
                          · exact ⟨_, _, _, rfl⟩
                          · exact ⟨_, _, _, rfl⟩
                        have n1 := HK1.out.fr (row_fr hgrow) (fun e => by
                          rcases e with e | e
                          · have := HSY.out.st.k1.lt; simp at e; omega
                          · exact HNE1.out e)
                        have y1 := n1.cell 1
                        have fz := n1.frozen
                        have HSN := Lib.hid ((HSY.out.alloc _).attr (a := ⟨bst hv.1, bst hv.2, bst v⟩) hown2 hgrow hat2)
                        clear n1 hown2 hgrow hat2 z0 z1 z2
                        go_wp2_with fail
                        go_roundg (if true then 0 else s.size - (j) + 1)
                        case rel => exact ⟨al ++ [⟨bst hv.1, bst hv.2, bst v⟩], vp2, vn2, vc2, _, j, true, rfl, HSN.out, by omega, by rw [List.length_append, List.length_singleton]; omega, HATR⟩
                        case measure => have := HG.out; simp at this; (try split) <;> omega
                  | false =>
                    have HQ := Lib.hid (fun n => has_any M b s (m + 1) bd1 ⟨#[39]⟩ (W7.drewN n) (HS7.out.st.rd.drewN n) (by decide) false hq5)
                    clear hq5
                    go_wp2_with fail
                    go_region_held3 (fun w' => w'.cell? ⟨b, 0, none⟩ = some (.string s) ∧ w'.cell? ⟨b, 1, none⟩ = some (.int .i64 ((m + 1 : Nat) : Int))) (go_keep)
                      (first | (go_at_call 52
                                refine (HQ.out _).mono ?_
                                rintro e W8 ⟨rfl, h7, hfr7⟩
                                have h7' : RdM M W8 b s (m + 1) bd1 := h7
                                have hs7 := HS7.out.stepB h7' ((Fr.refl _ _).drewN _ |>.trans hfr7)
                                have c0 := hs7.st.rd.c0
                                have c1 := hs7.st.rd.c1
                                have c2 := hs7.st.rd.c2
                                have fz := hs7.st.rd.2.2.2.2.frozen
                                have HS8 := Lib.hid hs7
                                have HS8A := Lib.hid (HS7A.out.fr ((Fr.refl _ _).drewN _ |>.trans hfr7) (by omega))
                                clear h7 h7' hfr7 hs7))
                    clear HQ
                    go_wp2_with fail
                    go_meet
                    refine ⟨al, ap, an, ac, N2, m + 1, true, HS8.out.bad true, by omega, (fun h => nomatch h), fun _ => ?_⟩
                    rw [← HR0.out, HNEQ.out]
                    rfl
                · have e1 : ((s[m].toNat : Int) != 61) = true := by
                    rw [bne_iff_ne]
                    intro h
                    exact h61 (UInt8.toNat_inj.1 (show _ = 61 by omega))
                  clear h61
                  go_wp2_with fail
                  go_quiet (fail)
                  go_wp2_with fail
                  go_meet
                  refine ⟨al, ap, an, ac, N2, m + 1, true, (HS7.out.drewN _).bad true, by omega, (fun h => nomatch h), fun _ => ?_⟩
                  rw [← HR0.out, HNEQ.out]
                  rfl
              | true =>
                have hle := hasB_le hq3 hpb
                have hle2 : p + 1 ≤ s.size := hle
                have hp61 : s[p]'(by omega) = 61 := by rw [hasB_one s p 61 (by omega)] at hq3; exact of_decide_eq_true hq3
                have hdp : s.data.toList.drop p = 61 :: s.data.toList.drop (p + 1) := by rw [drop_cons s p (by omega), hp61]
                have HDP := Lib.hid hdp
                have HP61 := Lib.hid hp61
                have HQ := Lib.hid (rd_has_yes M b s p bd1 ⟨#[61]⟩ _ HS6.out.st.rd (by decide) hq3)
                clear hq3 hle hdp hp61
                refine HQ.out.mono ?_
                rintro e W7 ⟨rfl, h7, hfr7⟩
                have h7' : RdM M W7 b s (p + 1) bd1 := h7
                have hs7 := HS6.out.stepB h7' hfr7
                have c0 := hs7.st.rd.c0
                have c1 := hs7.st.rd.c1
                have c2 := hs7.st.rd.c2
                have fz := hs7.st.rd.2.2.2.2.frozen
                have HS7 := Lib.hid hs7
                have HS7A := Lib.hid (HA6.out.fr hfr7 (by omega))
                clear h7 h7' hfr7 HQ hs7
                go_wp2_with fail
                cases hq4 : hasB s (p + 1) ⟨#[34]⟩ with
                | true =>
                  have hle := hasB_le hq4 hle2
                  have hle3 : p + 1 + 1 ≤ s.size := hle
                  have hd4 : s.data.toList.drop (p + 1) = 34 :: s.data.toList.drop (p + 1 + 1) := by
                    rw [hasB_one s (p + 1) 34 (by omega)] at hq4
                    rw [drop_cons s (p + 1) (by omega), of_decide_eq_true hq4]
                  have HVAL : Hid (ValR s AT al 34 (p + 1 + 1) g0 (bst hv.1) (bst hv.2) bd1) := Lib.hid (by
                    refine ⟨fun h => HNONE.out (.inl h), by have := HFL.out; rw [List.length_drop, list_size] at this ⊢; omega, fun h => ?_⟩
                    have hk3 : k < k2 := by simpa using HSM.out
                    rw [HAT.out, attrF_valOf g0 _ (s.data.toList.drop (p + 1 + 1)) 34 (.inl rfl) (by rw [HD2.out]; exact HQ1.out) (by rw [HD2.out]; exact HQ2.out)]
                    · rw [HD2.out, HNA.out, HHV.out]
                    · rw [HD2.out, HNA.out]
                      have := HBD1.out
                      rw [h] at this
                      simpa using this
                    · rw [HD2.out, List.length_drop, List.length_drop, list_size]
                      omega
                    · rw [HD2.out, HD3.out, HDP.out, hd4])
                  have HQ := Lib.hid (rd_has_yes M b s (p + 1) bd1 ⟨#[34]⟩ _ HS7.out.st.rd (by decide) hq4)
                  clear hq4 hle hd4
                  refine HQ.out.mono ?_
                  rintro e W8 ⟨rfl, h7, hfr7⟩
                  have h7' : RdM M W8 b s (p + 1 + 1) bd1 := h7
                  have hs7 := HS7.out.stepB h7' hfr7
                  have c0 := hs7.st.rd.c0
                  have c1 := hs7.st.rd.c1
                  have c2 := hs7.st.rd.c2
                  have fz := hs7.st.rd.2.2.2.2.frozen
                  have HSV := Lib.hid hs7
                  have HSVA := Lib.hid (HS7A.out.fr hfr7 (by omega))
                  clear h7 h7' hfr7 HQ hs7
                  go_wp2_with fail
                  have HTX : Hid (Calls Tryz.prog 104 #[.pointer (some ⟨b, 0, none⟩), .int .u8 (((⟨#[34]⟩ : ByteArray)[0]'(by decide)).toNat : Int), .int .u8 (((⟨#[34]⟩ : ByteArray)[0]'(by decide)).toNat : Int)] W8.drew (StrPost (Out M w.heap.size W8.heap.size) b s (p + 1 + 1) W8.drew (if bd1 then none else txtF 34 34 ((s.data.toList.drop (p + 1 + 1)).length + 1) (s.data.toList.drop (p + 1 + 1))))) :=
                    Lib.hid (text_total _ b s _ bd1 34 34 W8.drew HSV.out.st.rdO HSV.out.st.errs.out _ (by rw [List.length_drop, list_size]; omega))
                  go_upto_region 14 with fail
                  go_cut [] (fun wc => ∃ (v : List UInt8) (j : Nat) (bd2 : Bool), ElS M b s w wc w.heap.size w1.heap.size N2 nm al [] (.slice ap an ac) (.slice none 0 0) j bd2 ∧ Blk wc N2 49 #[.string (bst hv.1), .string (bst hv.2), .string (bst v)] ∧ p + 1 + 1 ≤ j ∧
                    Hid (match (if bd1 then none else txtF 34 34 ((s.data.toList.drop (p + 1 + 1)).length + 1) (s.data.toList.drop (p + 1 + 1))) with | some p => bd2 = false ∧ v = p.1 ∧ s.data.toList.drop j = p.2 | none => bd2 = true))
                  case first =>
                    go_region_held3 (fun _ => True) (trivial)
                      (first | (go_at_call 104
                                refine HTX.out.mono ?_
                                rintro e w7 ⟨v, j, bd2, rfl, h7, hf7, hpj, hvl, hm⟩
                                have hf7' := ((Fr.refl (Out M w.heap.size W8.heap.size) W8).drew).trans hf7
                                have hA7 := HSVA.out.fr hf7' (not_Out hn2w HSVA.out.lt)
                                have z0 := hA7.cell 0
                                have z1 := hA7.cell 1
                                have z2 := hA7.cell 2
                                have fz := hA7.frozen
                                have HS7 := Lib.hid (HSV.out.stepO h7 hf7')
                                have HA7 := Lib.hid hA7
                                have HM := Lib.hid hm
                                clear h7 hf7 hf7' hA7 hm))
                    all_goals
                      go_wp2_with fail
                      go_meet
                      exact ⟨v, j, bd2, HS7.out.setOther (Nat.le_refl _) (HSV.out.st.nw _ hn2w) _ _, (HA7.out.set 2 _).eq rfl, hpj, HM⟩
                  case rest =>
                    obtain ⟨v, j, bd2, hs8, ha8, hpj, HM⟩ := hcut
                    have hj := hs8.st.rd.2.2.2.1
                    have HS8 := Lib.hid hs8
                    have HS8A := Lib.hid ha8
                    clear hs8 ha8
                    go_wp2_with fail
                    cases hq7 : hasB s j ⟨#[34]⟩ with
                    | true =>
                      have hle := hasB_le hq7 hj
                      have hle2 : j + 1 ≤ s.size := hle
                      have hdj : s.data.toList.drop j = 34 :: s.data.toList.drop (j + 1) := by
                        have hjs : j < s.size := by omega
                        rw [hasB_one s j 34 hjs] at hq7
                        rw [drop_cons s j hjs, of_decide_eq_true hq7]
                      have HQ := Lib.hid (rd_has_yes M b s j bd2 ⟨#[34]⟩ _ HS8.out.st.rd (by decide) hq7)
                      have HATR : Hid (AtR s AT (al ++ [⟨bst hv.1, bst hv.2, bst v⟩]) (j + 1) bd2) := Lib.hid (HVAL.out.yes HM.out hdj (by omega) hle2)
                      clear hq7 hle hdj
                      refine HQ.out.mono ?_
                      rintro e w9 ⟨rfl, h9, hfr9⟩
                      have h9' : RdM M w9 b s (j + 1) bd2 := h9
                      have HS9 := Lib.hid (HS8.out.stepB h9' hfr9)
                      have HS9A := Lib.hid (HS8A.out.fr hfr9 (by omega))
                      clear h9 h9' hfr9 HQ
                      have hsy := HS9.out
                      have y1 := hsy.st.k1.cell 1
                      have z0 := HS9A.out.cell 0
                      have z1 := HS9A.out.cell 1
                      have z2 := HS9A.out.cell 2
                      have HOWN : Hid (w9.ownsRow 0 49 3 (.slice ap an ac) al.length (al.flatMap AttrS.cells)) := Lib.hid hsy.at'
                      have HK1 : Hid (Blk (w9.alloc (.cells #[.string (bst hv.1), .string (bst hv.2), .string (bst v)] 49)) w1.heap.size 25 #[.string (bst nm), .slice ap an ac, .string ⟨#[]⟩, .slice none 0 0]) := Lib.hid (hsy.st.k1.alloc _)
                      have HNE1 : Hid ((.slice ap an ac : Value).ownBlock ≠ some w1.heap.size) := Lib.hid (rows_ne hsy.at' hsy.st.k1 (by decide))
                      clear hsy
                      go_wp2_with ((at_builtin; refine wpList_append_where _ rfl _ _ 22 rfl 0 49 i49 (.agg #[.string ⟨#[]⟩, .string ⟨#[]⟩, .string ⟨#[]⟩]) 3 48 Tryz.underlying22 hi49 hz49a hz49b hz49c rfl (by decide) _ _ _ rfl (HOWN.out.alloc _) ⟨w9.heap.size, 0, none⟩ 1 1 [.string (bst hv.1), .string (bst hv.2), .string (bst v)] rfl rfl ?c1 ?c2 ?c3 ?c4 ?c5 ?_))
                      case c1 => exact World.news_of_block (cs := #[.string (bst hv.1), .string (bst hv.2), .string (bst v)]) (t := 49) (fr := (0, 0)) (heap_alloc_new w9 _)
                      case c2 => simp [Value.oneCell']
                      case c3 => unfold maxLen; omega
                      case c4 => omega
                      case c5 => exact Nat.zero_le _
                      intro v2 w10 hown2 hgrow hat2
                      obtain ⟨vp2, vn2, vc2, rfl⟩ : ∃ ap an ac, v2 = .slice ap an ac := by
                        rcases hown2.2 with ⟨rfl, _⟩ | ⟨g, cap, cur, rfl, _⟩
                        · exact ⟨_, _, _, rfl⟩
                        · exact ⟨_, _, _, rfl⟩
                      have n1 := HK1.out.fr (row_fr hgrow) (fun e => by
                        rcases e with e | e
                        · have := HS9.out.st.k1.lt; simp at e; omega
                        · exact HNE1.out e)
                      have y1 := n1.cell 1
                      have fz := n1.frozen
                      have HSN := Lib.hid ((HS9.out.alloc _).attr (a := ⟨bst hv.1, bst hv.2, bst v⟩) hown2 hgrow hat2)
                      clear n1 hown2 hgrow hat2 z0 z1 z2
                      go_wp2_with fail
                      go_roundg (if bd2 then 0 else s.size - (j + 1) + 1)
                      case rel => exact ⟨al ++ [⟨bst hv.1, bst hv.2, bst v⟩], vp2, vn2, vc2, _, j + 1, bd2, rfl, HSN.out, by omega, by rw [List.length_append, List.length_singleton]; omega, HATR⟩
                      case measure => have := HG.out; simp at this; (try split) <;> omega
                    | false =>
                      have hdj : ∀ t, s.data.toList.drop j ≠ 34 :: t := by
                        intro t h
                        rw [hasB_pre, h] at hq7
                        simp [isPre] at hq7
                      have HQ := Lib.hid (has_any M b s j bd2 ⟨#[34]⟩ _ HS8.out.st.rd (by decide) false hq7)
                      have HATR : Hid (AtR s AT (al ++ [⟨bst hv.1, bst hv.2, bst v⟩]) j true) := Lib.hid (HVAL.out.no HM.out hdj)
                      clear hq7 hdj
                      refine HQ.out.mono ?_
                      rintro e w8 ⟨rfl, h9, hfr9⟩
                      have h9' : RdM M w8 b s j bd2 := h9
                      have hs9 := HS8.out.stepB h9' hfr9
                      have c2 := hs9.st.rd.c2
                      have fz := hs9.st.rd.2.2.2.2.frozen
                      have HS9 := Lib.hid hs9
                      have HA9 := Lib.hid (HS8A.out.fr hfr9 (by omega))
                      clear h9 h9' hfr9 HQ hs9
                      go_upto_region 17 with fail
                      obtain ⟨Y, hY⟩ : ∃ Y, w8.setCell ⟨b, 2, none⟩ (.bool true) = Y := ⟨_, rfl⟩
                      rw [hY]
                      have HSY : Hid (ElS M b s w Y w.heap.size w1.heap.size N2 nm al [] (.slice ap an ac) (.slice none 0 0) j true) := Lib.hid (by rw [← hY]; exact HS9.out.bad true)
                      have HSYA : Hid (Blk Y N2 49 #[.string (bst hv.1), .string (bst hv.2), .string (bst v)]) := Lib.hid (by rw [← hY]; exact HA9.out.far (by simp; omega) _)
                      clear hY HS9 HA9 c2 fz
                      have hsy := HSY.out
                      have y1 := hsy.st.k1.cell 1
                      have z0 := HSYA.out.cell 0
                      have z1 := HSYA.out.cell 1
                      have z2 := HSYA.out.cell 2
                      have HOWN : Hid (Y.ownsRow 0 49 3 (.slice ap an ac) al.length (al.flatMap AttrS.cells)) := Lib.hid hsy.at'
                      have HK1 : Hid (Blk (Y.alloc (.cells #[.string (bst hv.1), .string (bst hv.2), .string (bst v)] 49)) w1.heap.size 25 #[.string (bst nm), .slice ap an ac, .string ⟨#[]⟩, .slice none 0 0]) := Lib.hid (hsy.st.k1.alloc _)
                      have HNE1 : Hid ((.slice ap an ac : Value).ownBlock ≠ some w1.heap.size) := Lib.hid (rows_ne hsy.at' hsy.st.k1 (by decide))
                      clear hsy
                      go_wp2_with ((at_builtin; refine wpList_append_where _ rfl _ _ 22 rfl 0 49 i49 (.agg #[.string ⟨#[]⟩, .string ⟨#[]⟩, .string ⟨#[]⟩]) 3 48 Tryz.underlying22 hi49 hz49a hz49b hz49c rfl (by decide) _ _ _ rfl (HOWN.out.alloc _) ⟨Y.heap.size, 0, none⟩ 1 1 [.string (bst hv.1), .string (bst hv.2), .string (bst v)] rfl rfl ?c1 ?c2 ?c3 ?c4 ?c5 ?_))
                      case c1 => exact World.news_of_block (cs := #[.string (bst hv.1), .string (bst hv.2), .string (bst v)]) (t := 49) (fr := (0, 0)) (heap_alloc_new Y _)
                      case c2 => simp [Value.oneCell']
                      case c3 => unfold maxLen; omega
                      case c4 => omega
                      case c5 => exact Nat.zero_le _
                      intro v2 w10 hown2 hgrow hat2
                      obtain ⟨vp2, vn2, vc2, rfl⟩ : ∃ ap an ac, v2 = .slice ap an ac := by
                        rcases hown2.2 with ⟨rfl, _⟩ | ⟨g, cap, cur, rfl, _⟩
                        · exact ⟨_, _, _, rfl⟩
                        · exact ⟨_, _, _, rfl⟩
                      have n1 := HK1.out.fr (row_fr hgrow) (fun e => by
                        rcases e with e | e
                        · have := HSY.out.st.k1.lt; simp at e; omega
                        · exact HNE1.out e)
                      have y1 := n1.cell 1
                      have fz := n1.frozen
                      have HSN := Lib.hid ((HSY.out.alloc _).attr (a := ⟨bst hv.1, bst hv.2, bst v⟩) hown2 hgrow hat2)
                      clear n1 hown2 hgrow hat2 z0 z1 z2
                      go_wp2_with fail
                      go_roundg (if true then 0 else s.size - (j) + 1)
                      case rel => exact ⟨al ++ [⟨bst hv.1, bst hv.2, bst v⟩], vp2, vn2, vc2, _, j, true, rfl, HSN.out, by omega, by rw [List.length_append, List.length_singleton]; omega, HATR⟩
                      case measure => have := HG.out; simp at this; (try split) <;> omega
                | false =>
                  have HQ := Lib.hid (has_any M b s (p + 1) bd1 ⟨#[34]⟩ _ HS7.out.st.rd (by decide) false hq4)
                  have HQ4 : Hid (isPre [34] (s.data.toList.drop (p + 1)) = false) := Lib.hid (by rw [← hq4, hasB_pre])
                  clear hq4
                  refine HQ.out.mono ?_
                  rintro e W8 ⟨rfl, h7, hfr7⟩
                  have h7' : RdM M W8 b s (p + 1) bd1 := h7
                  have hs7 := HS7.out.stepB h7' hfr7
                  have c0 := hs7.st.rd.c0
                  have c1 := hs7.st.rd.c1
                  have c2 := hs7.st.rd.c2
                  have fz := hs7.st.rd.2.2.2.2.frozen
                  have HS8 := Lib.hid hs7
                  have HS8A := Lib.hid (HS7A.out.fr hfr7 (by omega))
                  clear h7 h7' hfr7 HQ hs7
                  have e0 : ((((p : Nat) : Int) + 1) == 0) = false := by rw [beq_eq_false_iff_ne]; omega
                  have q1 : IntKind.i64.wrap (p : Int) = (p : Int) := by rw [IntKind.wrap_i64]; omega
                  have hps : p < s.size := by omega
                  have e1 : ((s[p].toNat : Int) != 61) = false := by rw [HP61.out]; rfl
                  cases hq5 : hasB s (p + 1) ⟨#[39]⟩ with
                  | true =>
                    have hle := hasB_le hq5 hle2
                    have hle3 : p + 1 + 1 ≤ s.size := hle
                    have hd4 : s.data.toList.drop (p + 1) = 39 :: s.data.toList.drop (p + 1 + 1) := by
                      rw [hasB_one s (p + 1) 39 (by omega)] at hq5
                      rw [drop_cons s (p + 1) (by omega), of_decide_eq_true hq5]
                    have HVAL : Hid (ValR s AT al 39 (p + 1 + 1) g0 (bst hv.1) (bst hv.2) bd1) := Lib.hid (by
                      refine ⟨fun h => HNONE.out (.inl h), by have := HFL.out; rw [List.length_drop, list_size] at this ⊢; omega, fun h => ?_⟩
                      have hk3 : k < k2 := by simpa using HSM.out
                      rw [HAT.out, attrF_valOf g0 _ (s.data.toList.drop (p + 1 + 1)) 39 (.inr rfl) (by rw [HD2.out]; exact HQ1.out) (by rw [HD2.out]; exact HQ2.out)]
                      · rw [HD2.out, HNA.out, HHV.out]
                      · rw [HD2.out, HNA.out]
                        have := HBD1.out
                        rw [h] at this
                        simpa using this
                      · rw [HD2.out, List.length_drop, List.length_drop, list_size]
                        omega
                      · rw [HD2.out, HD3.out, HDP.out, hd4])
                    have HQ := Lib.hid (rd_has_yes M b s (p + 1) bd1 ⟨#[39]⟩ W8.drew HS8.out.st.rd (by decide) hq5)
                    clear hq5 hle hd4
                    go_wp2_with fail
                    go_still_tail 25, (by kernel_rfl)
                    change wpList _ _ _ _ _ W8.drew
                    go_wp2_with fail
                    refine HQ.out.mono ?_
                    rintro e W9 ⟨rfl, h7, hfr7⟩
                    have h7' : RdM M W9 b s (p + 1 + 1) bd1 := h7
                    have hs7 := HS8.out.stepB h7' (((Fr.refl _ W8).drew).trans hfr7)
                    have c0 := hs7.st.rd.c0
                    have c1 := hs7.st.rd.c1
                    have c2 := hs7.st.rd.c2
                    have fz := hs7.st.rd.2.2.2.2.frozen
                    have HSV := Lib.hid hs7
                    have HSVA := Lib.hid (HS8A.out.fr (((Fr.refl (fun x => x = b) W8).drew).trans hfr7) (by omega))
                    clear h7 h7' hfr7 HQ hs7
                    go_wp2_with fail
                    have HTX : Hid (Calls Tryz.prog 104 #[.pointer (some ⟨b, 0, none⟩), .int .u8 (((⟨#[39]⟩ : ByteArray)[0]'(by decide)).toNat : Int), .int .u8 (((⟨#[39]⟩ : ByteArray)[0]'(by decide)).toNat : Int)] W9.drew (StrPost (Out M w.heap.size W9.heap.size) b s (p + 1 + 1) W9.drew (if bd1 then none else txtF 39 39 ((s.data.toList.drop (p + 1 + 1)).length + 1) (s.data.toList.drop (p + 1 + 1))))) :=
                      Lib.hid (text_total _ b s _ bd1 39 39 W9.drew HSV.out.st.rdO HSV.out.st.errs.out _ (by rw [List.length_drop, list_size]; omega))
                    go_upto_region 14 with fail
                    go_cut [] (fun wc => ∃ (v : List UInt8) (j : Nat) (bd2 : Bool), ElS M b s w wc w.heap.size w1.heap.size N2 nm al [] (.slice ap an ac) (.slice none 0 0) j bd2 ∧ Blk wc N2 49 #[.string (bst hv.1), .string (bst hv.2), .string (bst v)] ∧ p + 1 + 1 ≤ j ∧
                      Hid (match (if bd1 then none else txtF 39 39 ((s.data.toList.drop (p + 1 + 1)).length + 1) (s.data.toList.drop (p + 1 + 1))) with | some p => bd2 = false ∧ v = p.1 ∧ s.data.toList.drop j = p.2 | none => bd2 = true))
                    case first =>
                      go_region_held3 (fun _ => True) (trivial)
                        (first | (go_at_call 104
                                  refine HTX.out.mono ?_
                                  rintro e w7 ⟨v, j, bd2, rfl, h7, hf7, hpj, hvl, hm⟩
                                  have hf7' := ((Fr.refl (Out M w.heap.size W9.heap.size) W9).drew).trans hf7
                                  have hA7 := HSVA.out.fr hf7' (not_Out hn2w HSVA.out.lt)
                                  have z0 := hA7.cell 0
                                  have z1 := hA7.cell 1
                                  have z2 := hA7.cell 2
                                  have fz := hA7.frozen
                                  have HS7 := Lib.hid (HSV.out.stepO h7 hf7')
                                  have HA7 := Lib.hid hA7
                                  have HM := Lib.hid hm
                                  clear h7 hf7 hf7' hA7 hm))
                      all_goals
                        go_wp2_with fail
                        go_meet
                        exact ⟨v, j, bd2, HS7.out.setOther (Nat.le_refl _) (HSV.out.st.nw _ hn2w) _ _, (HA7.out.set 2 _).eq rfl, hpj, HM⟩
                    case rest =>
                      obtain ⟨v, j, bd2, hs8, ha8, hpj, HM⟩ := hcut
                      have hj := hs8.st.rd.2.2.2.1
                      have HS8 := Lib.hid hs8
                      have HS8A := Lib.hid ha8
                      clear hs8 ha8
                      go_wp2_with fail
                      cases hq7 : hasB s j ⟨#[39]⟩ with
                      | true =>
                        have hle := hasB_le hq7 hj
                        have hle2 : j + 1 ≤ s.size := hle
                        have hdj : s.data.toList.drop j = 39 :: s.data.toList.drop (j + 1) := by
                          have hjs : j < s.size := by omega
                          rw [hasB_one s j 39 hjs] at hq7
                          rw [drop_cons s j hjs, of_decide_eq_true hq7]
                        have HQ := Lib.hid (rd_has_yes M b s j bd2 ⟨#[39]⟩ _ HS8.out.st.rd (by decide) hq7)
                        have HATR : Hid (AtR s AT (al ++ [⟨bst hv.1, bst hv.2, bst v⟩]) (j + 1) bd2) := Lib.hid (HVAL.out.yes HM.out hdj (by omega) hle2)
                        clear hq7 hle hdj
                        refine HQ.out.mono ?_
                        rintro e w9 ⟨rfl, h9, hfr9⟩
                        have h9' : RdM M w9 b s (j + 1) bd2 := h9
                        have HS9 := Lib.hid (HS8.out.stepB h9' hfr9)
                        have HS9A := Lib.hid (HS8A.out.fr hfr9 (by omega))
                        clear h9 h9' hfr9 HQ
                        have hsy := HS9.out
                        have y1 := hsy.st.k1.cell 1
                        have z0 := HS9A.out.cell 0
                        have z1 := HS9A.out.cell 1
                        have z2 := HS9A.out.cell 2
                        have HOWN : Hid (w9.ownsRow 0 49 3 (.slice ap an ac) al.length (al.flatMap AttrS.cells)) := Lib.hid hsy.at'
                        have HK1 : Hid (Blk (w9.alloc (.cells #[.string (bst hv.1), .string (bst hv.2), .string (bst v)] 49)) w1.heap.size 25 #[.string (bst nm), .slice ap an ac, .string ⟨#[]⟩, .slice none 0 0]) := Lib.hid (hsy.st.k1.alloc _)
                        have HNE1 : Hid ((.slice ap an ac : Value).ownBlock ≠ some w1.heap.size) := Lib.hid (rows_ne hsy.at' hsy.st.k1 (by decide))
                        clear hsy
                        go_wp2_with ((at_builtin; refine wpList_append_where _ rfl _ _ 22 rfl 0 49 i49 (.agg #[.string ⟨#[]⟩, .string ⟨#[]⟩, .string ⟨#[]⟩]) 3 48 Tryz.underlying22 hi49 hz49a hz49b hz49c rfl (by decide) _ _ _ rfl (HOWN.out.alloc _) ⟨w9.heap.size, 0, none⟩ 1 1 [.string (bst hv.1), .string (bst hv.2), .string (bst v)] rfl rfl ?c1 ?c2 ?c3 ?c4 ?c5 ?_))
                        case c1 => exact World.news_of_block (cs := #[.string (bst hv.1), .string (bst hv.2), .string (bst v)]) (t := 49) (fr := (0, 0)) (heap_alloc_new w9 _)
                        case c2 => simp [Value.oneCell']
                        case c3 => unfold maxLen; omega
                        case c4 => omega
                        case c5 => exact Nat.zero_le _
                        intro v2 w10 hown2 hgrow hat2
                        obtain ⟨vp2, vn2, vc2, rfl⟩ : ∃ ap an ac, v2 = .slice ap an ac := by
                          rcases hown2.2 with ⟨rfl, _⟩ | ⟨g, cap, cur, rfl, _⟩
                          · exact ⟨_, _, _, rfl⟩
                          · exact ⟨_, _, _, rfl⟩
                        have n1 := HK1.out.fr (row_fr hgrow) (fun e => by
                          rcases e with e | e
                          · have := HS9.out.st.k1.lt; simp at e; omega
                          · exact HNE1.out e)
                        have y1 := n1.cell 1
                        have fz := n1.frozen
                        have HSN := Lib.hid ((HS9.out.alloc _).attr (a := ⟨bst hv.1, bst hv.2, bst v⟩) hown2 hgrow hat2)
                        clear n1 hown2 hgrow hat2 z0 z1 z2
                        go_wp2_with fail
                        go_roundg (if bd2 then 0 else s.size - (j + 1) + 1)
                        case rel => exact ⟨al ++ [⟨bst hv.1, bst hv.2, bst v⟩], vp2, vn2, vc2, _, j + 1, bd2, rfl, HSN.out, by omega, by rw [List.length_append, List.length_singleton]; omega, HATR⟩
                        case measure => have := HG.out; simp at this; (try split) <;> omega
                      | false =>
                        have hdj : ∀ t, s.data.toList.drop j ≠ 39 :: t := by
                          intro t h
                          rw [hasB_pre, h] at hq7
                          simp [isPre] at hq7
                        have HQ := Lib.hid (has_any M b s j bd2 ⟨#[39]⟩ _ HS8.out.st.rd (by decide) false hq7)
                        have HATR : Hid (AtR s AT (al ++ [⟨bst hv.1, bst hv.2, bst v⟩]) j true) := Lib.hid (HVAL.out.no HM.out hdj)
                        clear hq7 hdj
                        refine HQ.out.mono ?_
                        rintro e w8 ⟨rfl, h9, hfr9⟩
                        have h9' : RdM M w8 b s j bd2 := h9
                        have hs9 := HS8.out.stepB h9' hfr9
                        have c2 := hs9.st.rd.c2
                        have fz := hs9.st.rd.2.2.2.2.frozen
                        have HS9 := Lib.hid hs9
                        have HA9 := Lib.hid (HS8A.out.fr hfr9 (by omega))
                        clear h9 h9' hfr9 HQ hs9
                        go_upto_region 17 with fail
                        obtain ⟨Y, hY⟩ : ∃ Y, w8.setCell ⟨b, 2, none⟩ (.bool true) = Y := ⟨_, rfl⟩
                        rw [hY]
                        have HSY : Hid (ElS M b s w Y w.heap.size w1.heap.size N2 nm al [] (.slice ap an ac) (.slice none 0 0) j true) := Lib.hid (by rw [← hY]; exact HS9.out.bad true)
                        have HSYA : Hid (Blk Y N2 49 #[.string (bst hv.1), .string (bst hv.2), .string (bst v)]) := Lib.hid (by rw [← hY]; exact HA9.out.far (by simp; omega) _)
                        clear hY HS9 HA9 c2 fz
                        have hsy := HSY.out
                        have y1 := hsy.st.k1.cell 1
                        have z0 := HSYA.out.cell 0
                        have z1 := HSYA.out.cell 1
                        have z2 := HSYA.out.cell 2
                        have HOWN : Hid (Y.ownsRow 0 49 3 (.slice ap an ac) al.length (al.flatMap AttrS.cells)) := Lib.hid hsy.at'
                        have HK1 : Hid (Blk (Y.alloc (.cells #[.string (bst hv.1), .string (bst hv.2), .string (bst v)] 49)) w1.heap.size 25 #[.string (bst nm), .slice ap an ac, .string ⟨#[]⟩, .slice none 0 0]) := Lib.hid (hsy.st.k1.alloc _)
                        have HNE1 : Hid ((.slice ap an ac : Value).ownBlock ≠ some w1.heap.size) := Lib.hid (rows_ne hsy.at' hsy.st.k1 (by decide))
                        clear hsy
                        go_wp2_with ((at_builtin; refine wpList_append_where _ rfl _ _ 22 rfl 0 49 i49 (.agg #[.string ⟨#[]⟩, .string ⟨#[]⟩, .string ⟨#[]⟩]) 3 48 Tryz.underlying22 hi49 hz49a hz49b hz49c rfl (by decide) _ _ _ rfl (HOWN.out.alloc _) ⟨Y.heap.size, 0, none⟩ 1 1 [.string (bst hv.1), .string (bst hv.2), .string (bst v)] rfl rfl ?c1 ?c2 ?c3 ?c4 ?c5 ?_))
                        case c1 => exact World.news_of_block (cs := #[.string (bst hv.1), .string (bst hv.2), .string (bst v)]) (t := 49) (fr := (0, 0)) (heap_alloc_new Y _)
                        case c2 => simp [Value.oneCell']
                        case c3 => unfold maxLen; omega
                        case c4 => omega
                        case c5 => exact Nat.zero_le _
                        intro v2 w10 hown2 hgrow hat2
                        obtain ⟨vp2, vn2, vc2, rfl⟩ : ∃ ap an ac, v2 = .slice ap an ac := by
                          rcases hown2.2 with ⟨rfl, _⟩ | ⟨g, cap, cur, rfl, _⟩
                          · exact ⟨_, _, _, rfl⟩
                          · exact ⟨_, _, _, rfl⟩
                        have n1 := HK1.out.fr (row_fr hgrow) (fun e => by
                          rcases e with e | e
                          · have := HSY.out.st.k1.lt; simp at e; omega
                          · exact HNE1.out e)
                        have y1 := n1.cell 1
                        have fz := n1.frozen
                        have HSN := Lib.hid ((HSY.out.alloc _).attr (a := ⟨bst hv.1, bst hv.2, bst v⟩) hown2 hgrow hat2)
                        clear n1 hown2 hgrow hat2 z0 z1 z2
                        go_wp2_with fail
                        go_roundg (if true then 0 else s.size - (j) + 1)
                        case rel => exact ⟨al ++ [⟨bst hv.1, bst hv.2, bst v⟩], vp2, vn2, vc2, _, j, true, rfl, HSN.out, by omega, by rw [List.length_append, List.length_singleton]; omega, HATR⟩
                        case measure => have := HG.out; simp at this; (try split) <;> omega
                  | false =>
                    have HNEQ : Hid (AT = none) := Lib.hid (by
                      rw [HAT.out, attrF_noq g0 _ (by rw [HD2.out]; exact HQ1.out) (by rw [HD2.out]; exact HQ2.out) (by rw [HD2.out, HD3.out, HDP.out]; exact HQ4.out) (by rw [HD2.out, HD3.out, HDP.out]; rw [hasB_pre] at hq5; exact hq5)]
                      rfl)
                    have HQ := Lib.hid (fun n => has_any M b s (p + 1) bd1 ⟨#[39]⟩ (W8.drewN n) (HS8.out.st.rd.drewN n) (by decide) false hq5)
                    clear hq5
                    go_wp2_with fail
                    go_region_held3 (fun w' => w'.cell? ⟨b, 0, none⟩ = some (.string s) ∧ w'.cell? ⟨b, 1, none⟩ = some (.int .i64 ((p + 1 : Nat) : Int))) (go_keep)
                      (first | (go_at_call 52
                                refine (HQ.out _).mono ?_
                                rintro e W9 ⟨rfl, h7, hfr7⟩
                                have h7' : RdM M W9 b s (p + 1) bd1 := h7
                                have hs7 := HS8.out.stepB h7' ((Fr.refl _ _).drewN _ |>.trans hfr7)
                                have c0 := hs7.st.rd.c0
                                have c1 := hs7.st.rd.c1
                                have c2 := hs7.st.rd.c2
                                have fz := hs7.st.rd.2.2.2.2.frozen
                                have HS9 := Lib.hid hs7
                                have HS9A := Lib.hid (HS8A.out.fr ((Fr.refl _ _).drewN _ |>.trans hfr7) (by omega))
                                clear h7 h7' hfr7 hs7))
                    clear HQ
                    go_wp2_with fail
                    go_meet
                    refine ⟨al, ap, an, ac, N2, p + 1, true, HS9.out.bad true, by omega, (fun h => nomatch h), fun _ => ?_⟩
                    rw [← HR0.out, HNEQ.out]
                    rfl
  case rest =>
    obtain ⟨al, ap, an, ac, top, k, bd, hs, hik, hm1, hm2⟩ := hcut
    have HS := Lib.hid hs
    have HKR := Lib.hid (KidR.start hm1 hm2)
    clear hs hm1 hm2
    go_wp2_with fail
    go_loopg [] (if bd then 0 else s.size - k + 1) (fun g wr => ∃ (ks : List (XEl × Value × Value)) (kp : Option Addr) (kn kc top k : Nat) (bd : Bool), g = (if bd then 0 else s.size - k + 1) ∧ ElS M b s w wr w.heap.size w1.heap.size top nm al ks (.slice ap an ac) (.slice kp kn kc) k bd ∧ i ≤ k ∧ (bd = false → ks.length ≤ k) ∧ Hid (KidR s d nm al r0 ks k bd))
    case atStart => exact ⟨[], none, 0, 0, _, k, bd, rfl, HS.out, hik, fun _ => Nat.zero_le _, HKR⟩
    case round =>
      clear hik
      obtain ⟨ks, kp, kn, kc, top, k, bd, hg, hs, hik, hkl, HK⟩ := hrel
      have c0 := hs.st.rd.c0
      have c1 := hs.st.rd.c1
      have c2 := hs.st.rd.c2
      have hk := hs.st.rd.2.2.2.1
      have HS1 := Lib.hid hs
      have HG := Lib.hid hg
      clear hg HS HKR
      cases bd with
      | true =>
        have a0 := hs.st.k1.cell 0
        have a1 := hs.st.k1.cell 1
        have a2 := hs.st.k1.cell 2
        have a3 := hs.st.k1.cell 3
        have z0 := hs.st.k0.cell 0
        have z1 := hs.st.k0.cell 1
        have z2 := hs.st.k0.cell 2
        have z3 := hs.st.k0.cell 3
        unfold elZero at z0 z1 z2 z3
        have fz := hs.st.k0.frozen
        clear hs
        go_wp2_with fail
        obtain ⟨hr1, hr2, hr3, hr4⟩ := HS1.out.ret
        have y0 := hr1.cell 0
        have y1 := hr1.cell 1
        have y2 := hr1.cell 2
        have y3 := hr1.cell 3
        exact bodyPost_ret (v := .agg #[.string (bst nm), .slice ap an ac, .string ⟨#[]⟩, .slice kp kn kc]) (by simp [results, Tryz.results55, go_sem, y0, y1, y2, y3]) rfl (HFIN.out (.mk nm al [] (ks.map (·.1))) _ _ (k) true _ hr2 hr3 hr4 (by omega) (by rw [HK.out.2 rfl]; exact rfl))
      | false =>
        have fz := hs.st.rd.2.2.2.2.frozen
        have hkl2 := hkl rfl
        clear hs hkl
        by_cases hd0 : d = 0
        · have e0 : ((d : Int) == 0) = true := by rw [beq_iff_eq]; omega
          have HD0 := Lib.hid hd0
          clear hd0
          go_wp2_with fail
          go_quiet (fail)
          go_wp2_with fail
          go_roundg 0
          case rel => exact ⟨ks, kp, kn, kc, _, k, true, rfl, (HS1.out.drewN _).bad true, hik, (fun h => nomatch h), Lib.hid ⟨(fun h => nomatch h), fun _ => by
            rcases HK.out.1 rfl with ⟨_, h⟩ | ⟨d', h, _⟩
            · exact h
            · have := HD0.out; omega⟩⟩
          case measure => have := HG.out; simp at this; omega
        obtain ⟨d', hdd⟩ : ∃ d', d = d' + 1 := ⟨d - 1, by omega⟩
        have e0 : ((d : Int) == 0) = false := by rw [beq_eq_false_iff_ne]; omega
        have q0 : IntKind.i64.wrap ((d : Int) - 1) = (d' : Int) := by rw [IntKind.wrap_i64]; omega
        have HDD := Lib.hid hdd
        clear hd0 hdd
        by_cases hks : s.size ≤ k
        · have dk : decide ((s.size : Int) ≤ (k : Int)) = true := by rw [decide_eq_true_eq]; omega
          have HNL : Hid (r0 = none) := Lib.hid (by
            rcases HK.out.1 rfl with ⟨_, h⟩ | ⟨d2, h, f, hf, hr⟩
            · exact h
            · rw [hr, List.drop_of_length_le (by rw [list_size]; exact hks), kidsF_nil]; rfl)
          go_wp2_with fail
          go_quiet (fail)
          go_wp2_with fail
          go_roundg 0
          case rel => exact ⟨ks, kp, kn, kc, _, k, true, rfl, (HS1.out.drewN _).bad true, hik, (fun h => nomatch h), Lib.hid ⟨(fun h => nomatch h), fun _ => HNL.out⟩⟩
          case measure => have := HG.out; simp at this; omega
        have dk : decide ((s.size : Int) ≤ (k : Int)) = false := by rw [decide_eq_false_iff_not]; omega
        have hks' : k < s.size := by omega
        clear hks
        have HK2 : Hid (KidR s (d' + 1) nm al r0 ks k false) := Lib.hid (by rw [← HDD.out]; exact HK.out)
        go_wp2_with fail
        go_quiet (fail)
        go_wp2_with fail
        cases hq1 : hasB s k ⟨#[60, 47]⟩ with
        | true =>
          have HC1 : Hid (isPre [60, 47] (s.data.toList.drop k) = true) := Lib.hid (by rw [← hq1, hasB_pre])
          have hle := hasB_le hq1 hk
          have hle2 : k + 2 ≤ s.size := hle
          have HQ := Lib.hid (rd_has_yes M b s k false ⟨#[60, 47]⟩ _ (HS1.out.drewN nq).st.rd (by decide) hq1)
          clear hq1 hle
          refine HQ.out.mono ?_
          rintro e w3 ⟨rfl, h7, hfr7⟩
          have h7' : RdM M w3 b s (k + 2) false := h7
          have HS3 := Lib.hid (HS1.out.stepB h7' (((Fr.refl _ _).drewN nq).trans hfr7))
          clear h7 h7' hfr7 HQ
          obtain ⟨n2, hn2⟩ : ∃ x, (s.data.toList.drop (k + 2)).takeWhile nameC = x := ⟨_, rfl⟩
          obtain ⟨p, hp⟩ : ∃ x, runEnd nameC s (k + 2) = x := ⟨_, rfl⟩
          obtain ⟨bd1, hbd1⟩ : ∃ x, (!goodName n2) = x := ⟨_, rfl⟩
          obtain ⟨k3, hk3⟩ : ∃ x, runEnd blankB s p = x := ⟨_, rfl⟩
          have hpa : k + 2 ≤ p := by rw [← hp]; exact runEnd_ge _ _ _
          have hpb : p ≤ s.size := by rw [← hp]; exact runEnd_le _ _ _ hle2
          have hpc : p ≤ k3 := by rw [← hk3]; exact runEnd_ge _ _ _
          have hpd : k3 ≤ s.size := by rw [← hk3]; exact runEnd_le _ _ _ hpb
          have HCL : Hid (r0 = if n2 = nm ∧ goodName n2 = true ∧ isPre [62] (s.data.toList.drop k3) = true then some (.mk nm al [] (ks.map (·.1)), s.data.toList.drop (k3 + 1)) else none) := Lib.hid (by
            rcases HK2.out.1 rfl with ⟨h, _⟩ | ⟨d2, h, f, hf, hr⟩
            · omega
            obtain ⟨g, rfl⟩ : ∃ g, f = g + 1 := ⟨f - 1, by omega⟩
            have hne : s.data.toList.drop k ≠ [] := by rw [drop_cons s k hks']; simp
            rw [hr, kidsF_close hne HC1.out, List.drop_drop, hn2, ← drop_run, hp, ← drop_run, hk3]
            split
            · simp [List.drop_drop]
            · rfl)
          have HNAME : Hid (Calls Tryz.prog 103 #[.pointer (some ⟨b, 0, none⟩)] w3.drew fun e w' => e = .returned (.string (bst n2)) ∧ RdM M w' b s p bd1 ∧ Fr (fun k => k = b) w3.drew w') := Lib.hid (by
            have := rd_name M b s (k + 2) false w3.drew HS3.out.st.rd
            rw [sub_run, hn2, hp, Bool.false_or, hbd1, show s.extract (k + 2) p = bst n2 from ba_ext (by rw [ext_list, bst_toList, ← hn2, ← sub_run, hp]; rfl)] at this
            exact this)
          have HBD1 := Lib.hid hbd1
          have HK3 := Lib.hid hk3
          clear hn2 hp hbd1 hk3
          have a0 := HS3.out.st.k1.cell 0
          go_upto_region 23 with fail
          go_region_held3 (fun w' => w'.cell? ⟨w1.heap.size, 0, none⟩ = some (.string (bst nm))) (go_keep) (first
            | (go_at_call 103
               refine HNAME.out.mono ?_
               rintro e w5 ⟨rfl, h7, hfr7⟩
               have hs7 := HS3.out.stepB h7 (((Fr.refl _ _).drew).trans hfr7)
               have a0 := hs7.st.k1.cell 0
               have c2 := hs7.st.rd.c2
               have fz := hs7.st.rd.2.2.2.2.frozen
               have HS5 := Lib.hid hs7
               clear h7 hfr7 hs7))
          by_cases hnn : n2 = nm
          · have HNN := Lib.hid hnn
            clear hnn
            go_wp2_with fail
            · exfalso
              rename (!(_ == _)) = true => hcond
              rw [HNN.out] at hcond
              simp at hcond
            cases bd1 with
            | true =>
              have HNO : Hid (r0 = none) := Lib.hid (by
                rw [HCL.out, if_neg]
                rintro ⟨_, h, _⟩
                have := HBD1.out
                rw [h] at this
                cases this)
              have HQ := Lib.hid (rd_blanks M b s (p) true _ HS5.out.st.rd)
              refine HQ.out.mono ?_
              rintro e w6 ⟨rfl, h7, hfr7⟩
              have hs7 := HS5.out.stepB h7 hfr7
              have c2 := hs7.st.rd.c2
              have fz := hs7.st.rd.2.2.2.2.frozen
              have HS7 := Lib.hid hs7
              have hge := runEnd_ge blankB s (p)
              clear h7 hfr7 HQ hs7
              go_upto_region 27 with fail
              obtain ⟨Y, hY⟩ : ∃ Y, w6.setCell ⟨b, 2, none⟩ (.bool true) = Y := ⟨_, rfl⟩
              rw [hY]
              have hsy := HS7.out.bad true
              rw [hY] at hsy
              have HSY := Lib.hid hsy
              clear hY HS7 c2 fz
              have a0 := hsy.st.k1.cell 0
              have a1 := hsy.st.k1.cell 1
              have a2 := hsy.st.k1.cell 2
              have a3 := hsy.st.k1.cell 3
              have z0 := hsy.st.k0.cell 0
              have z1 := hsy.st.k0.cell 1
              have z2 := hsy.st.k0.cell 2
              have z3 := hsy.st.k0.cell 3
              unfold elZero at z0 z1 z2 z3
              have fz := hsy.st.k0.frozen
              clear hsy
              go_wp2_with fail
              obtain ⟨hr1, hr2, hr3, hr4⟩ := HSY.out.ret
              have y0 := hr1.cell 0
              have y1 := hr1.cell 1
              have y2 := hr1.cell 2
              have y3 := hr1.cell 3
              exact bodyPost_ret (v := .agg #[.string (bst nm), .slice ap an ac, .string ⟨#[]⟩, .slice kp kn kc]) (by simp [results, Tryz.results55, go_sem, y0, y1, y2, y3]) rfl (HFIN.out (.mk nm al [] (ks.map (·.1))) _ _ (_) true _ hr2 hr3 hr4 (by omega) (by rw [HNO.out]; exact rfl))
            | false =>
              have hgn : goodName n2 = true := by simpa using HBD1.out
              have HGN := Lib.hid hgn
              clear hgn
              have HQ : Hid (Calls Tryz.prog 53 #[.pointer (some ⟨b, 0, none⟩)] w5 fun e w' => e = .returned (.bool (decide (p < k3))) ∧ RdM M w' b s k3 false ∧ Fr (fun k => k = b) w5 w') := Lib.hid (by have := rd_blanks M b s p false w5 HS5.out.st.rd; rw [HK3.out] at this; exact this)
              refine HQ.out.mono ?_
              rintro e w6 ⟨rfl, h7, hfr7⟩
              have hs6 := HS5.out.stepB h7 hfr7
              have c2 := hs6.st.rd.c2
              have fz := hs6.st.rd.2.2.2.2.frozen
              have HS6 := Lib.hid hs6
              clear h7 hfr7 HQ hs6
              go_wp2_with fail
              cases hq2 : hasB s k3 ⟨#[62]⟩ with
              | true =>
                have HOK : Hid (r0 = some (.mk nm al [] (ks.map (·.1)), s.data.toList.drop (k3 + 1))) := Lib.hid (by
                  rw [HCL.out, if_pos ⟨HNN.out, HGN.out, by rw [← hq2, hasB_pre]⟩])
                have HQ := Lib.hid (rd_has_yes M b s k3 false ⟨#[62]⟩ _ HS6.out.st.rd (by decide) hq2)
                clear hq2
                refine HQ.out.mono ?_
                rintro e w7 ⟨rfl, h7, hfr7⟩
                have h7' : RdM M w7 b s (k3 + 1) false := h7
                have hs7 := HS6.out.stepB h7' hfr7
                have c2 := hs7.st.rd.c2
                have fz := hs7.st.rd.2.2.2.2.frozen
                have HS7 := Lib.hid hs7
                clear h7 h7' hfr7 HQ hs7
                go_upto_region 27 with fail
                obtain ⟨Y, hY⟩ : ∃ Y, w7.setCell ⟨b, 2, none⟩ (.bool false) = Y := ⟨_, rfl⟩
                rw [hY]
                have hsy := HS7.out.bad false
                rw [hY] at hsy
                have HSY := Lib.hid hsy
                clear hY HS7 c2 fz
                have a0 := hsy.st.k1.cell 0
                have a1 := hsy.st.k1.cell 1
                have a2 := hsy.st.k1.cell 2
                have a3 := hsy.st.k1.cell 3
                have z0 := hsy.st.k0.cell 0
                have z1 := hsy.st.k0.cell 1
                have z2 := hsy.st.k0.cell 2
                have z3 := hsy.st.k0.cell 3
                unfold elZero at z0 z1 z2 z3
                have fz := hsy.st.k0.frozen
                clear hsy
                go_wp2_with fail
                obtain ⟨hr1, hr2, hr3, hr4⟩ := HSY.out.ret
                have y0 := hr1.cell 0
                have y1 := hr1.cell 1
                have y2 := hr1.cell 2
                have y3 := hr1.cell 3
                exact bodyPost_ret (v := .agg #[.string (bst nm), .slice ap an ac, .string ⟨#[]⟩, .slice kp kn kc]) (by simp [results, Tryz.results55, go_sem, y0, y1, y2, y3]) rfl (HFIN.out (.mk nm al [] (ks.map (·.1))) _ _ (k3 + 1) false _ hr2 hr3 hr4 (by omega) (by rw [HOK.out]; exact ⟨rfl, rfl, rfl⟩))
              | false =>
                have HNO : Hid (r0 = none) := Lib.hid (by
                  rw [HCL.out, if_neg]
                  rintro ⟨_, _, h⟩
                  rw [hasB_pre] at hq2
                  rw [show (ByteArray.mk #[62]).data.toList = [62] from rfl, h] at hq2
                  cases hq2)
                have HQ := Lib.hid (has_any M b s k3 false ⟨#[62]⟩ _ HS6.out.st.rd (by decide) false hq2)
                clear hq2
                refine HQ.out.mono ?_
                rintro e w7 ⟨rfl, h7, hfr7⟩
                have h7' : RdM M w7 b s k3 false := h7
                have hs7 := HS6.out.stepB h7' hfr7
                have c2 := hs7.st.rd.c2
                have fz := hs7.st.rd.2.2.2.2.frozen
                have HS7 := Lib.hid hs7
                clear h7 h7' hfr7 HQ hs7
                go_upto_region 27 with fail
                obtain ⟨Y, hY⟩ : ∃ Y, w7.setCell ⟨b, 2, none⟩ (.bool true) = Y := ⟨_, rfl⟩
                rw [hY]
                have hsy := HS7.out.bad true
                rw [hY] at hsy
                have HSY := Lib.hid hsy
                clear hY HS7 c2 fz
                have a0 := hsy.st.k1.cell 0
                have a1 := hsy.st.k1.cell 1
                have a2 := hsy.st.k1.cell 2
                have a3 := hsy.st.k1.cell 3
                have z0 := hsy.st.k0.cell 0
                have z1 := hsy.st.k0.cell 1
                have z2 := hsy.st.k0.cell 2
                have z3 := hsy.st.k0.cell 3
                unfold elZero at z0 z1 z2 z3
                have fz := hsy.st.k0.frozen
                clear hsy
                go_wp2_with fail
                obtain ⟨hr1, hr2, hr3, hr4⟩ := HSY.out.ret
                have y0 := hr1.cell 0
                have y1 := hr1.cell 1
                have y2 := hr1.cell 2
                have y3 := hr1.cell 3
                exact bodyPost_ret (v := .agg #[.string (bst nm), .slice ap an ac, .string ⟨#[]⟩, .slice kp kn kc]) (by simp [results, Tryz.results55, go_sem, y0, y1, y2, y3]) rfl (HFIN.out (.mk nm al [] (ks.map (·.1))) _ _ (k3) true _ hr2 hr3 hr4 (by omega) (by rw [HNO.out]; exact rfl))
          · have HNO : Hid (r0 = none) := Lib.hid (by
              rw [HCL.out, if_neg]
              rintro ⟨h, _, _⟩
              exact hnn h)
            have HNN := Lib.hid hnn
            clear hnn
            go_upto_region 25 with fail
            rotate_left
            · exfalso
              rename (!(_ == _)) = false => hcond
              simp only [Bool.not_eq_false', beq_iff_eq, Lib.toList_data, bst_toList] at hcond
              exact HNN.out hcond
            obtain ⟨X, hX⟩ : ∃ X, w5.setCell ⟨b, 2, none⟩ (.bool true) = X := ⟨_, rfl⟩
            rw [hX]
            have hsx := HS5.out.bad true
            rw [hX] at hsx
            have HSX := Lib.hid hsx
            clear hsx
            clear hX HS5 c2 fz
            have HQ := Lib.hid (rd_blanks M b s (p) true _ HSX.out.st.rd)
            go_wp2_with fail
            refine HQ.out.mono ?_
            rintro e w6 ⟨rfl, h7, hfr7⟩
            have hs7 := HSX.out.stepB h7 hfr7
            have c2 := hs7.st.rd.c2
            have fz := hs7.st.rd.2.2.2.2.frozen
            have HS7 := Lib.hid hs7
            have hge := runEnd_ge blankB s (p)
            clear h7 hfr7 HQ hs7
            go_upto_region 27 with fail
            obtain ⟨Y, hY⟩ : ∃ Y, w6.setCell ⟨b, 2, none⟩ (.bool true) = Y := ⟨_, rfl⟩
            rw [hY]
            have hsy := HS7.out.bad true
            rw [hY] at hsy
            have HSY := Lib.hid hsy
            clear hY HS7 c2 fz
            have a0 := hsy.st.k1.cell 0
            have a1 := hsy.st.k1.cell 1
            have a2 := hsy.st.k1.cell 2
            have a3 := hsy.st.k1.cell 3
            have z0 := hsy.st.k0.cell 0
            have z1 := hsy.st.k0.cell 1
            have z2 := hsy.st.k0.cell 2
            have z3 := hsy.st.k0.cell 3
            unfold elZero at z0 z1 z2 z3
            have fz := hsy.st.k0.frozen
            clear hsy
            go_wp2_with fail
            obtain ⟨hr1, hr2, hr3, hr4⟩ := HSY.out.ret
            have y0 := hr1.cell 0
            have y1 := hr1.cell 1
            have y2 := hr1.cell 2
            have y3 := hr1.cell 3
            exact bodyPost_ret (v := .agg #[.string (bst nm), .slice ap an ac, .string ⟨#[]⟩, .slice kp kn kc]) (by simp [results, Tryz.results55, go_sem, y0, y1, y2, y3]) rfl (HFIN.out (.mk nm al [] (ks.map (·.1))) _ _ (_) true _ hr2 hr3 hr4 (by omega) (by rw [HNO.out]; exact rfl))
        | false =>
          have HC1 : Hid (isPre [60, 47] (s.data.toList.drop k) = false) := Lib.hid (by rw [← hq1, hasB_pre])
          have HQ := Lib.hid (has_any M b s k false ⟨#[60, 47]⟩ _ (HS1.out.drewN nq).st.rd (by decide) false hq1)
          clear hq1
          refine HQ.out.mono ?_
          rintro e w3 ⟨rfl, h7, hfr7⟩
          have h7' : RdM M w3 b s (k) false := h7
          have HS3 := Lib.hid (HS1.out.stepB h7' (((Fr.refl _ _).drewN nq).trans hfr7))
          clear h7 h7' hfr7 HQ
          go_wp2_with fail
          cases hq2 : hasB s k ⟨#[60, 33, 45, 45]⟩ with
          | true =>
            have HC2 : Hid (isPre [60, 33, 45, 45] (s.data.toList.drop k) = true) := Lib.hid (by rw [← hq2, hasB_pre])
            have hle := hasB_le hq2 hk
            have hle2 : k + 4 ≤ s.size := hle
            have HQ := Lib.hid (rd_has_yes M b s k false ⟨#[60, 33, 45, 45]⟩ _ HS3.out.st.rd (by decide) hq2)
            clear hq2 hle
            refine HQ.out.mono ?_
            rintro e w4 ⟨rfl, h7, hfr7⟩
            have h7' : RdM M w4 b s (k + 4) false := h7
            have HS4 := Lib.hid (HS3.out.stepB h7' hfr7)
            clear h7 h7' hfr7 HQ
            go_upto_region 29 with fail
            have y3 := HS4.out.st.k1.cell 3
            refine wp_region_held_drew (S := fun _ => True) (by kernel_rfl) trivial (fun hHeld => ?_)
            refine wpAnyH_take (i := 0) (v := ?_) rfl (by kernel_rfl) (by kernel_rfl) (by kernel_rfl) (fun _ _ _ h => h) (Or.inl ⟨by rfl, ?_⟩) trivial ?_
            rotate_left
            · intro w hSw
              go_simp
              try with_reducible rfl
            try simp only [Act.put, List.getElem_toArray, List.getElem_cons_zero, List.getElem_cons_succ, List.setIfInBounds_toArray, List.set_cons_zero, List.set_cons_succ]
            refine wpAnyH_take (i := 2) (v := ?_) rfl (by kernel_rfl) (by kernel_rfl) (by kernel_rfl) (fun _ _ _ h => h) (Or.inl ⟨by rfl, ?_⟩) trivial ?_
            rotate_left
            · intro w hSw
              go_simp
              try with_reducible rfl
            try simp only [Act.put, List.getElem_toArray, List.getElem_cons_zero, List.getElem_cons_succ, List.setIfInBounds_toArray, List.set_cons_zero, List.set_cons_succ]
            refine wpAnyH_ready (rs := [1, 3]) (by kernel_rfl) (by simp) (AllReadyH.cons rfl (fun K hK => ?_) (AllReadyH.cons rfl (fun K hK => ?_) AllReadyH.nil))
            · go_simp
              refine hK.out _ _ trivial (fun hHeld => ?_)
              clear hK K
              try simp only [Act.put, List.getElem_toArray, List.getElem_cons_zero, List.getElem_cons_succ, List.setIfInBounds_toArray, List.set_cons_zero, List.set_cons_succ]
              refine wpAnyH_ready (rs := [3]) (by kernel_rfl) (by simp) (AllReadyH.cons rfl (fun K hK => ?_) AllReadyH.nil)
              go_simp
              refine (comment_any (Out M w.heap.size w4.heap.size) b s (k + 4) false w4.drew HS4.out.st.rdO).mono ?_
              rintro e w7 ⟨v, j, bd2, rfl, h7, hf7, hpj, hvl, hm⟩
              have hf7' : Fr (Out M w.heap.size w4.heap.size) w4 w7 := ((Fr.refl (Out M w.heap.size w4.heap.size) w4).drew).trans hf7
              have HIT : Hid (ItemSays s (kidItem (elemL d') (s.data.toList.drop k)) (.mk [33] [] v []) j bd2) := Lib.hid (by
                unfold kidItem
                rw [if_pos HC2.out, List.drop_drop]
                simp only [Bool.false_eq_true, if_false] at hm
                unfold ItemSays
                cases hx : commentL (s.data.toList.drop (k + 4)) with
                | none => rw [hx] at hm; exact hm
                | some p => rw [hx] at hm; exact ⟨hm.1, by rw [hm.2.1], hm.2.2⟩)
              have HLT : Hid (bd2 = false → k < j) := Lib.hid fun _ => by omega
              have hs7 := HS4.out.stepO h7 hf7'
              have y3 := hs7.st.k1.cell 3
              have fz := hs7.st.k1.frozen
              have y4 := (hs7.st.k1.alloc (.cells #[.string ⟨#[33]⟩, .slice none 0 0, .string (bst v), .slice none 0 0] 25)).cell 3
              have HS7 := Lib.hid hs7
              have HOWN : Hid (w7.ownsRow 0 25 4 (.slice kp kn kc) ks.length (ks.flatMap kidCells)) := Lib.hid hs7.kd.1
              clear h7 hf7 hf7' hs7
              refine hK.out _ _ trivial (fun hHeld => ?_)
              clear hK K
              try simp only [Act.put, List.getElem_toArray, List.getElem_cons_zero, List.getElem_cons_succ, List.setIfInBounds_toArray, List.set_cons_zero, List.set_cons_succ]
              refine wpAnyH_take (i := 4) (v := ?_) rfl (by kernel_rfl) (by kernel_rfl) (by kernel_rfl) (fun _ _ _ h => h) (Or.inl ⟨by rfl, ?_⟩) trivial ?_
              rotate_left
              · intro w hSw
                go_simp
                try with_reducible rfl
              try simp only [Act.put, List.getElem_toArray, List.getElem_cons_zero, List.getElem_cons_succ, List.setIfInBounds_toArray, List.set_cons_zero, List.set_cons_succ]
              refine wpAnyH_ready (rs := [5]) (by kernel_rfl) (by simp) (AllReadyH.cons rfl (fun K hK => ?_) AllReadyH.nil)
              go_simp
              refine hK.out _ _ trivial (fun hHeld => ?_)
              clear hK K
              try simp only [Act.put, List.getElem_toArray, List.getElem_cons_zero, List.getElem_cons_succ, List.setIfInBounds_toArray, List.set_cons_zero, List.set_cons_succ]
              refine wpAnyH_ready (rs := [6]) (by kernel_rfl) (by simp) (AllReadyH.cons rfl (fun K hK => ?_) AllReadyH.nil)
              refine step_append_lies _ (by rfl) _ _ _ (by rfl) 0 25 i25 _ 4 80 Tryz.underlying23 hi25 hz25a hz25b hz25c rfl (by decide) _ _ _ (by kernel_rfl) (HOWN.out.alloc _) ⟨w7.heap.size, 0, none⟩ 1 1 [.string ⟨#[33]⟩, .slice none 0 0, .string (bst v), .slice none 0 0] (by kernel_rfl) (by rfl) (World.news_of_block (cs := #[.string ⟨#[33]⟩, .slice none 0 0, .string (bst v), .slice none 0 0]) (t := 25) (fr := (0, 0)) (heap_alloc_new w7 _)) (by simp [Value.oneCell']) (by decide) (by unfold maxLen; omega) (by omega) (Nat.zero_le _) (w7.heap.size + 1) (by simp) ?_
              intro gg cap w10 hown2 hgrow hat2 hlt2
              have hatR : RowAt (w7.alloc (.cells #[.string ⟨#[33]⟩, .slice none 0 0, .string (bst v), .slice none 0 0] 25)) (.slice kp kn kc) (.slice (some ⟨gg, 0, none⟩) (ks.length + 1) cap) := by
                rcases hat2 with e | e
                · exact .inl e.symm
                · exact .inr ⟨gg, rfl, by rw [e]; simp⟩
              have HSN := Lib.hid ((HS7.out.alloc (.cells #[.string ⟨#[33]⟩, .slice none 0 0, .string (bst v), .slice none 0 0] 25)).kid (p := (XEl.mk [33] [] v [], .slice none 0 0, .slice none 0 0)) (ElM.mk _ [33] v [] [] _ _ (AttrsT.nil _ _) (fun g hg => by simp [Value.ownBlock] at hg) ⟨rfl, .inl ⟨rfl, rfl⟩⟩ (fun g hg => by simp [Value.ownBlock] at hg) (fun k hk => by simp at hk)) hown2 hgrow hatR (fun x hx => (HS7.out.kd.2.1 x hx).2.2))
              have n1 := (HS7.out.st.k1.alloc (.cells #[.string ⟨#[33]⟩, .slice none 0 0, .string (bst v), .slice none 0 0] 25)).fr (row_fr hgrow) (fun e => by
                rcases e with e | e
                · have := HS7.out.st.k1.lt; simp at e; omega
                · exact (HS7.out.kd.2.1 _ e).2.2.2 rfl)
              have y3 := n1.cell 3
              have fz := n1.frozen
              clear n1 hown2 hgrow hat2 hlt2 hatR
              refine hK.out _ _ trivial (fun hHeld => ?_)
              clear hK K
              try simp only [Act.put, List.getElem_toArray, List.getElem_cons_zero, List.getElem_cons_succ, List.setIfInBounds_toArray, List.set_cons_zero, List.set_cons_succ]
              refine wpAnyH_take (i := 7) (v := ?_) rfl (by kernel_rfl) (by kernel_rfl) (by kernel_rfl) (fun _ _ _ h => h) (Or.inl ⟨by rfl, ?_⟩) trivial ?_
              rotate_left
              · intro w hSw
                go_simp
                try with_reducible rfl
              try simp only [Act.put, List.getElem_toArray, List.getElem_cons_zero, List.getElem_cons_succ, List.setIfInBounds_toArray, List.set_cons_zero, List.set_cons_succ]
              refine wpAnyH_ready (rs := [8]) (by kernel_rfl) (by simp) (AllReadyH.cons rfl (fun K hK => ?_) AllReadyH.nil)
              go_simp
              refine hK.out _ _ trivial (fun hHeld => ?_)
              clear hK K
              try simp only [Act.put, List.getElem_toArray, List.getElem_cons_zero, List.getElem_cons_succ, List.setIfInBounds_toArray, List.set_cons_zero, List.set_cons_succ]
              refine wpAnyH_done (by kernel_rfl) ?_ _
              go_wp2_with fail
              go_roundg (if bd2 then 0 else s.size - j + 1)
              case rel => exact ⟨ks ++ [(XEl.mk [33] [] v [], .slice none 0 0, .slice none 0 0)], _, _, _, _, j, bd2, rfl, HSN.out, by omega, fun h => by have := HLT.out h; rw [List.length_append, List.length_singleton]; omega, Lib.hid (by rw [HDD.out]; exact HK2.out.step hks' HC1.out HIT.out HLT.out)⟩
              case measure =>
                have h1 := HG.out
                have h2 := HLT.out
                simp only [Bool.false_eq_true, if_false] at h1
                cases bd2 with
                | true =>
                  clear h2
                  simp only [if_true]
                  omega
                | false =>
                  have h3 := h2 rfl
                  clear h2
                  simp only [Bool.false_eq_true, if_false]
                  omega
            · go_simp
              refine (comment_any (Out M w.heap.size w4.heap.size) b s (k + 4) false w4.drew HS4.out.st.rdO).mono ?_
              rintro e w7 ⟨v, j, bd2, rfl, h7, hf7, hpj, hvl, hm⟩
              have hf7' : Fr (Out M w.heap.size w4.heap.size) w4 w7 := ((Fr.refl (Out M w.heap.size w4.heap.size) w4).drew).trans hf7
              have HIT : Hid (ItemSays s (kidItem (elemL d') (s.data.toList.drop k)) (.mk [33] [] v []) j bd2) := Lib.hid (by
                unfold kidItem
                rw [if_pos HC2.out, List.drop_drop]
                simp only [Bool.false_eq_true, if_false] at hm
                unfold ItemSays
                cases hx : commentL (s.data.toList.drop (k + 4)) with
                | none => rw [hx] at hm; exact hm
                | some p => rw [hx] at hm; exact ⟨hm.1, by rw [hm.2.1], hm.2.2⟩)
              have HLT : Hid (bd2 = false → k < j) := Lib.hid fun _ => by omega
              have hs7 := HS4.out.stepO h7 hf7'
              have y3 := hs7.st.k1.cell 3
              have fz := hs7.st.k1.frozen
              have y4 := (hs7.st.k1.alloc (.cells #[.string ⟨#[33]⟩, .slice none 0 0, .string (bst v), .slice none 0 0] 25)).cell 3
              have HS7 := Lib.hid hs7
              have HOWN : Hid (w7.ownsRow 0 25 4 (.slice kp kn kc) ks.length (ks.flatMap kidCells)) := Lib.hid hs7.kd.1
              clear h7 hf7 hf7' hs7
              refine hK.out _ _ trivial (fun hHeld => ?_)
              clear hK K
              try simp only [Act.put, List.getElem_toArray, List.getElem_cons_zero, List.getElem_cons_succ, List.setIfInBounds_toArray, List.set_cons_zero, List.set_cons_succ]
              refine wpAnyH_take (i := 4) (v := ?_) rfl (by kernel_rfl) (by kernel_rfl) (by kernel_rfl) (fun _ _ _ h => h) (Or.inl ⟨by rfl, ?_⟩) trivial ?_
              rotate_left
              · intro w hSw
                go_simp
                try with_reducible rfl
              try simp only [Act.put, List.getElem_toArray, List.getElem_cons_zero, List.getElem_cons_succ, List.setIfInBounds_toArray, List.set_cons_zero, List.set_cons_succ]
              refine wpAnyH_ready (rs := [1, 5]) (by kernel_rfl) (by simp) (AllReadyH.cons rfl (fun K hK => ?_) (AllReadyH.cons rfl (fun K hK => ?_) AllReadyH.nil))
              · go_simp
                refine hK.out _ _ trivial (fun hHeld => ?_)
                clear hK K
                try simp only [Act.put, List.getElem_toArray, List.getElem_cons_zero, List.getElem_cons_succ, List.setIfInBounds_toArray, List.set_cons_zero, List.set_cons_succ]
                refine wpAnyH_ready (rs := [5]) (by kernel_rfl) (by simp) (AllReadyH.cons rfl (fun K hK => ?_) AllReadyH.nil)
                go_simp
                refine hK.out _ _ trivial (fun hHeld => ?_)
                clear hK K
                try simp only [Act.put, List.getElem_toArray, List.getElem_cons_zero, List.getElem_cons_succ, List.setIfInBounds_toArray, List.set_cons_zero, List.set_cons_succ]
                refine wpAnyH_ready (rs := [6]) (by kernel_rfl) (by simp) (AllReadyH.cons rfl (fun K hK => ?_) AllReadyH.nil)
                refine step_append_lies _ (by rfl) _ _ _ (by rfl) 0 25 i25 _ 4 80 Tryz.underlying23 hi25 hz25a hz25b hz25c rfl (by decide) _ _ _ (by kernel_rfl) (HOWN.out.alloc _) ⟨w7.heap.size, 0, none⟩ 1 1 [.string ⟨#[33]⟩, .slice none 0 0, .string (bst v), .slice none 0 0] (by kernel_rfl) (by rfl) (World.news_of_block (cs := #[.string ⟨#[33]⟩, .slice none 0 0, .string (bst v), .slice none 0 0]) (t := 25) (fr := (0, 0)) (heap_alloc_new w7 _)) (by simp [Value.oneCell']) (by decide) (by unfold maxLen; omega) (by omega) (Nat.zero_le _) (w7.heap.size + 1) (by simp) ?_
                intro gg cap w10 hown2 hgrow hat2 hlt2
                have hatR : RowAt (w7.alloc (.cells #[.string ⟨#[33]⟩, .slice none 0 0, .string (bst v), .slice none 0 0] 25)) (.slice kp kn kc) (.slice (some ⟨gg, 0, none⟩) (ks.length + 1) cap) := by
                  rcases hat2 with e | e
                  · exact .inl e.symm
                  · exact .inr ⟨gg, rfl, by rw [e]; simp⟩
                have HSN := Lib.hid ((HS7.out.alloc (.cells #[.string ⟨#[33]⟩, .slice none 0 0, .string (bst v), .slice none 0 0] 25)).kid (p := (XEl.mk [33] [] v [], .slice none 0 0, .slice none 0 0)) (ElM.mk _ [33] v [] [] _ _ (AttrsT.nil _ _) (fun g hg => by simp [Value.ownBlock] at hg) ⟨rfl, .inl ⟨rfl, rfl⟩⟩ (fun g hg => by simp [Value.ownBlock] at hg) (fun k hk => by simp at hk)) hown2 hgrow hatR (fun x hx => (HS7.out.kd.2.1 x hx).2.2))
                have n1 := (HS7.out.st.k1.alloc (.cells #[.string ⟨#[33]⟩, .slice none 0 0, .string (bst v), .slice none 0 0] 25)).fr (row_fr hgrow) (fun e => by
                  rcases e with e | e
                  · have := HS7.out.st.k1.lt; simp at e; omega
                  · exact (HS7.out.kd.2.1 _ e).2.2.2 rfl)
                have y3 := n1.cell 3
                have fz := n1.frozen
                clear n1 hown2 hgrow hat2 hlt2 hatR
                refine hK.out _ _ trivial (fun hHeld => ?_)
                clear hK K
                try simp only [Act.put, List.getElem_toArray, List.getElem_cons_zero, List.getElem_cons_succ, List.setIfInBounds_toArray, List.set_cons_zero, List.set_cons_succ]
                refine wpAnyH_take (i := 7) (v := ?_) rfl (by kernel_rfl) (by kernel_rfl) (by kernel_rfl) (fun _ _ _ h => h) (Or.inl ⟨by rfl, ?_⟩) trivial ?_
                rotate_left
                · intro w hSw
                  go_simp
                  try with_reducible rfl
                try simp only [Act.put, List.getElem_toArray, List.getElem_cons_zero, List.getElem_cons_succ, List.setIfInBounds_toArray, List.set_cons_zero, List.set_cons_succ]
                refine wpAnyH_ready (rs := [8]) (by kernel_rfl) (by simp) (AllReadyH.cons rfl (fun K hK => ?_) AllReadyH.nil)
                go_simp
                refine hK.out _ _ trivial (fun hHeld => ?_)
                clear hK K
                try simp only [Act.put, List.getElem_toArray, List.getElem_cons_zero, List.getElem_cons_succ, List.setIfInBounds_toArray, List.set_cons_zero, List.set_cons_succ]
                refine wpAnyH_done (by kernel_rfl) ?_ _
                go_wp2_with fail
                go_roundg (if bd2 then 0 else s.size - j + 1)
                case rel => exact ⟨ks ++ [(XEl.mk [33] [] v [], .slice none 0 0, .slice none 0 0)], _, _, _, _, j, bd2, rfl, HSN.out, by omega, fun h => by have := HLT.out h; rw [List.length_append, List.length_singleton]; omega, Lib.hid (by rw [HDD.out]; exact HK2.out.step hks' HC1.out HIT.out HLT.out)⟩
                case measure =>
                  have h1 := HG.out
                  have h2 := HLT.out
                  simp only [Bool.false_eq_true, if_false] at h1
                  cases bd2 with
                  | true =>
                    clear h2
                    simp only [if_true]
                    omega
                  | false =>
                    have h3 := h2 rfl
                    clear h2
                    simp only [Bool.false_eq_true, if_false]
                    omega
              · go_simp
                refine hK.out _ _ trivial (fun hHeld => ?_)
                clear hK K
                try simp only [Act.put, List.getElem_toArray, List.getElem_cons_zero, List.getElem_cons_succ, List.setIfInBounds_toArray, List.set_cons_zero, List.set_cons_succ]
                refine wpAnyH_ready (rs := [1]) (by kernel_rfl) (by simp) (AllReadyH.cons rfl (fun K hK => ?_) AllReadyH.nil)
                go_simp
                refine hK.out _ _ trivial (fun hHeld => ?_)
                clear hK K
                try simp only [Act.put, List.getElem_toArray, List.getElem_cons_zero, List.getElem_cons_succ, List.setIfInBounds_toArray, List.set_cons_zero, List.set_cons_succ]
                refine wpAnyH_ready (rs := [6]) (by kernel_rfl) (by simp) (AllReadyH.cons rfl (fun K hK => ?_) AllReadyH.nil)
                refine step_append_lies _ (by rfl) _ _ _ (by rfl) 0 25 i25 _ 4 80 Tryz.underlying23 hi25 hz25a hz25b hz25c rfl (by decide) _ _ _ (by kernel_rfl) (HOWN.out.alloc _) ⟨w7.heap.size, 0, none⟩ 1 1 [.string ⟨#[33]⟩, .slice none 0 0, .string (bst v), .slice none 0 0] (by kernel_rfl) (by rfl) (World.news_of_block (cs := #[.string ⟨#[33]⟩, .slice none 0 0, .string (bst v), .slice none 0 0]) (t := 25) (fr := (0, 0)) (heap_alloc_new w7 _)) (by simp [Value.oneCell']) (by decide) (by unfold maxLen; omega) (by omega) (Nat.zero_le _) (w7.heap.size + 1) (by simp) ?_
                intro gg cap w10 hown2 hgrow hat2 hlt2
                have hatR : RowAt (w7.alloc (.cells #[.string ⟨#[33]⟩, .slice none 0 0, .string (bst v), .slice none 0 0] 25)) (.slice kp kn kc) (.slice (some ⟨gg, 0, none⟩) (ks.length + 1) cap) := by
                  rcases hat2 with e | e
                  · exact .inl e.symm
                  · exact .inr ⟨gg, rfl, by rw [e]; simp⟩
                have HSN := Lib.hid ((HS7.out.alloc (.cells #[.string ⟨#[33]⟩, .slice none 0 0, .string (bst v), .slice none 0 0] 25)).kid (p := (XEl.mk [33] [] v [], .slice none 0 0, .slice none 0 0)) (ElM.mk _ [33] v [] [] _ _ (AttrsT.nil _ _) (fun g hg => by simp [Value.ownBlock] at hg) ⟨rfl, .inl ⟨rfl, rfl⟩⟩ (fun g hg => by simp [Value.ownBlock] at hg) (fun k hk => by simp at hk)) hown2 hgrow hatR (fun x hx => (HS7.out.kd.2.1 x hx).2.2))
                have n1 := (HS7.out.st.k1.alloc (.cells #[.string ⟨#[33]⟩, .slice none 0 0, .string (bst v), .slice none 0 0] 25)).fr (row_fr hgrow) (fun e => by
                  rcases e with e | e
                  · have := HS7.out.st.k1.lt; simp at e; omega
                  · exact (HS7.out.kd.2.1 _ e).2.2.2 rfl)
                have y3 := n1.cell 3
                have fz := n1.frozen
                clear n1 hown2 hgrow hat2 hlt2 hatR
                refine hK.out _ _ trivial (fun hHeld => ?_)
                clear hK K
                try simp only [Act.put, List.getElem_toArray, List.getElem_cons_zero, List.getElem_cons_succ, List.setIfInBounds_toArray, List.set_cons_zero, List.set_cons_succ]
                refine wpAnyH_take (i := 7) (v := ?_) rfl (by kernel_rfl) (by kernel_rfl) (by kernel_rfl) (fun _ _ _ h => h) (Or.inl ⟨by rfl, ?_⟩) trivial ?_
                rotate_left
                · intro w hSw
                  go_simp
                  try with_reducible rfl
                try simp only [Act.put, List.getElem_toArray, List.getElem_cons_zero, List.getElem_cons_succ, List.setIfInBounds_toArray, List.set_cons_zero, List.set_cons_succ]
                refine wpAnyH_ready (rs := [8]) (by kernel_rfl) (by simp) (AllReadyH.cons rfl (fun K hK => ?_) AllReadyH.nil)
                go_simp
                refine hK.out _ _ trivial (fun hHeld => ?_)
                clear hK K
                try simp only [Act.put, List.getElem_toArray, List.getElem_cons_zero, List.getElem_cons_succ, List.setIfInBounds_toArray, List.set_cons_zero, List.set_cons_succ]
                refine wpAnyH_done (by kernel_rfl) ?_ _
                go_wp2_with fail
                go_roundg (if bd2 then 0 else s.size - j + 1)
                case rel => exact ⟨ks ++ [(XEl.mk [33] [] v [], .slice none 0 0, .slice none 0 0)], _, _, _, _, j, bd2, rfl, HSN.out, by omega, fun h => by have := HLT.out h; rw [List.length_append, List.length_singleton]; omega, Lib.hid (by rw [HDD.out]; exact HK2.out.step hks' HC1.out HIT.out HLT.out)⟩
                case measure =>
                  have h1 := HG.out
                  have h2 := HLT.out
                  simp only [Bool.false_eq_true, if_false] at h1
                  cases bd2 with
                  | true =>
                    clear h2
                    simp only [if_true]
                    omega
                  | false =>
                    have h3 := h2 rfl
                    clear h2
                    simp only [Bool.false_eq_true, if_false]
                    omega
          | false =>
            have HC2 : Hid (isPre [60, 33, 45, 45] (s.data.toList.drop k) = false) := Lib.hid (by rw [← hq2, hasB_pre])
            have HQ := Lib.hid (has_any M b s k false ⟨#[60, 33, 45, 45]⟩ _ HS3.out.st.rd (by decide) false hq2)
            clear hq2
            refine HQ.out.mono ?_
            rintro e w4 ⟨rfl, h7, hfr7⟩
            have h7' : RdM M w4 b s (k) false := h7
            have HS4 := Lib.hid (HS3.out.stepB h7' hfr7)
            clear h7 h7' hfr7 HQ
            go_wp2_with fail
            cases hq3 : hasB s k ⟨#[60]⟩ with
            | true =>
              have HC3 : Hid (isPre [60] (s.data.toList.drop k) = true) := Lib.hid (by rw [← hq3, hasB_pre])
              have hle := hasB_le hq3 hk
              have hle2 : k + 1 ≤ s.size := hle
              have HQ := Lib.hid (rd_has_yes M b s k false ⟨#[60]⟩ _ HS4.out.st.rd (by decide) hq3)
              clear hq3 hle
              refine HQ.out.mono ?_
              rintro e w5 ⟨rfl, h7, hfr7⟩
              have h7' : RdM M w5 b s (k + 1) false := h7
              have HS5 := Lib.hid (HS4.out.stepB h7' hfr7)
              clear h7 h7' hfr7 HQ
              go_upto_region 31 with fail
              have y3 := HS5.out.st.k1.cell 3
              refine wp_region_held_drew (S := fun _ => True) (by kernel_rfl) trivial (fun hHeld => ?_)
              refine wpAnyH_take (i := 0) (v := ?_) rfl (by kernel_rfl) (by kernel_rfl) (by kernel_rfl) (fun _ _ _ h => h) (Or.inl ⟨by rfl, ?_⟩) trivial ?_
              rotate_left
              · intro w hSw
                go_simp
                try with_reducible rfl
              try simp only [Act.put, List.getElem_toArray, List.getElem_cons_zero, List.getElem_cons_succ, List.setIfInBounds_toArray, List.set_cons_zero, List.set_cons_succ]
              refine wpAnyH_take (i := 2) (v := ?_) rfl (by kernel_rfl) (by kernel_rfl) (by kernel_rfl) (fun _ _ _ h => h) (Or.inl ⟨by rfl, ?_⟩) trivial ?_
              rotate_left
              · intro w hSw
                go_simp
                try with_reducible rfl
              try simp only [Act.put, List.getElem_toArray, List.getElem_cons_zero, List.getElem_cons_succ, List.setIfInBounds_toArray, List.set_cons_zero, List.set_cons_succ]
              refine wpAnyH_take (i := 3) (v := ?_) rfl (by kernel_rfl) (by kernel_rfl) (by kernel_rfl) (fun _ _ _ h => h) (Or.inl ⟨by rfl, ?_⟩) trivial ?_
              rotate_left
              · intro w hSw
                go_simp
                try with_reducible rfl
              try simp only [Act.put, List.getElem_toArray, List.getElem_cons_zero, List.getElem_cons_succ, List.setIfInBounds_toArray, List.set_cons_zero, List.set_cons_succ]
              refine wpAnyH_take (i := 4) (v := ?_) rfl (by kernel_rfl) (by kernel_rfl) (by kernel_rfl) (fun _ _ _ h => h) (Or.inl ⟨by rfl, ?_⟩) trivial ?_
              rotate_left
              · intro w hSw
                go_simp
                try with_reducible rfl
              try simp only [Act.put, List.getElem_toArray, List.getElem_cons_zero, List.getElem_cons_succ, List.setIfInBounds_toArray, List.set_cons_zero, List.set_cons_succ]
              refine wpAnyH_ready (rs := [1, 5]) (by kernel_rfl) (by simp) (AllReadyH.cons rfl (fun K hK => ?_) (AllReadyH.cons rfl (fun K hK => ?_) AllReadyH.nil))
              · go_simp
                refine hK.out _ _ trivial (fun hHeld => ?_)
                clear hK K
                try simp only [Act.put, List.getElem_toArray, List.getElem_cons_zero, List.getElem_cons_succ, List.setIfInBounds_toArray, List.set_cons_zero, List.set_cons_succ]
                refine wpAnyH_ready (rs := [5]) (by kernel_rfl) (by simp) (AllReadyH.cons rfl (fun K hK => ?_) AllReadyH.nil)
                go_simp
                refine (HIH.out d' HDD.out (Out M w.heap.size w5.heap.size) (k + 1) false w5.drew HS5.out.st.rdO HS5.out.st.errs.out).mono ?_
                rintro e w7 ⟨el, av3, kv3, j, bd2, rfl, hel, h7, hf7, hpj, hsays⟩
                have hf7' : Fr (Out M w.heap.size w5.heap.size) w5 w7 := ((Fr.refl (Out M w.heap.size w5.heap.size) w5).drew).trans hf7
                obtain ⟨⟨ap3, an3, ac3, rfl⟩, ⟨kp3, kn3, kc3, rfl⟩⟩ := hel.slices
                have HEL := Lib.hid (show ElM 49 25 w7 (fun x => w5.heap.size ≤ x ∧ x < w7.heap.size) _ _ el from hel)
                have HIT : Hid (ItemSays s (kidItem (elemL d') (s.data.toList.drop k)) el j bd2) := Lib.hid (by
                  unfold kidItem
                  rw [if_neg (by rw [HC2.out]; exact Bool.false_ne_true), if_pos HC3.out, List.drop_drop]
                  simp only [Bool.false_eq_true, if_false] at hsays
                  unfold ElSays at hsays
                  unfold ItemSays
                  cases hx : elemL d' (s.data.toList.drop (k + 1)) with
                  | none => rw [hx] at hsays; exact hsays
                  | some p => rw [hx] at hsays; exact hsays)
                have HLT : Hid (bd2 = false → k < j) := Lib.hid fun _ => by omega
                clear hel hsays
                have hs7 := HS5.out.stepO h7 hf7'
                have y3 := hs7.st.k1.cell 3
                have fz := hs7.st.k1.frozen
                have y4 := (hs7.st.k1.alloc (.cells #[.string (bst el.name), .slice ap3 an3 ac3, .string (bst el.text), .slice kp3 kn3 kc3] 25)).cell 3
                have HS7 := Lib.hid hs7
                have HOWN : Hid (w7.ownsRow 0 25 4 (.slice kp kn kc) ks.length (ks.flatMap kidCells)) := Lib.hid hs7.kd.1
                clear h7 hf7 hf7' hs7
                refine hK.out _ _ trivial (fun hHeld => ?_)
                clear hK K
                try simp only [Act.put, List.getElem_toArray, List.getElem_cons_zero, List.getElem_cons_succ, List.setIfInBounds_toArray, List.set_cons_zero, List.set_cons_succ]
                refine wpAnyH_ready (rs := [6]) (by kernel_rfl) (by simp) (AllReadyH.cons rfl (fun K hK => ?_) AllReadyH.nil)
                go_simp
                refine hK.out _ _ trivial (fun hHeld => ?_)
                clear hK K
                try simp only [Act.put, List.getElem_toArray, List.getElem_cons_zero, List.getElem_cons_succ, List.setIfInBounds_toArray, List.set_cons_zero, List.set_cons_succ]
                refine wpAnyH_ready (rs := [7]) (by kernel_rfl) (by simp) (AllReadyH.cons rfl (fun K hK => ?_) AllReadyH.nil)
                refine step_append_lies _ (by rfl) _ _ _ (by rfl) 0 25 i25 _ 4 80 Tryz.underlying23 hi25 hz25a hz25b hz25c rfl (by decide) _ _ _ (by kernel_rfl) (HOWN.out.alloc _) ⟨w7.heap.size, 0, none⟩ 1 1 [.string (bst el.name), .slice ap3 an3 ac3, .string (bst el.text), .slice kp3 kn3 kc3] (by kernel_rfl) (by rfl) (World.news_of_block (cs := #[.string (bst el.name), .slice ap3 an3 ac3, .string (bst el.text), .slice kp3 kn3 kc3]) (t := 25) (fr := (0, 0)) (heap_alloc_new w7 _)) (by simp [Value.oneCell']) (by decide) (by unfold maxLen; omega) (by omega) (Nat.zero_le _) (w7.heap.size + 1) (by simp) ?_
                intro gg cap w10 hown2 hgrow hat2 hlt2
                have hatR : RowAt (w7.alloc (.cells #[.string (bst el.name), .slice ap3 an3 ac3, .string (bst el.text), .slice kp3 kn3 kc3] 25)) (.slice kp kn kc) (.slice (some ⟨gg, 0, none⟩) (ks.length + 1) cap) := by
                  rcases hat2 with e | e
                  · exact .inl e.symm
                  · exact .inr ⟨gg, rfl, by rw [e]; simp⟩
                have HSN := Lib.hid ((HS7.out.alloc (.cells #[.string (bst el.name), .slice ap3 an3 ac3, .string (bst el.text), .slice kp3 kn3 kc3] 25)).kid (p := (el, .slice ap3 an3 ac3, .slice kp3 kn3 kc3)) ((HEL.out.fr (Fr.below (M := fun x => w7.heap.size ≤ x) ((Below.refl _ _).alloc (Nat.le_refl _) _) (Nat.le_refl _) (fun _ hx => hx)) (fun x hx e => by have := hx.2; omega)).mono (fun x hx => by
                         have e1 := HS5.out.nt
                         have e2 := HS5.out.ts
                         have e3 := HS5.out.st.l0
                         have e4 := HS5.out.st.l1
                         refine ⟨⟨by have := hx.1; omega, by have := hx.2; simp; omega, by have := hx.1; omega, by have := hx.1; omega⟩, fun e => ?_⟩
                         have := (HS5.out.kd.2.1 x e).2.1
                         have := hx.1
                         omega)) hown2 hgrow hatR (fun x hx => (HS7.out.kd.2.1 x hx).2.2))
                have n1 := (HS7.out.st.k1.alloc (.cells #[.string (bst el.name), .slice ap3 an3 ac3, .string (bst el.text), .slice kp3 kn3 kc3] 25)).fr (row_fr hgrow) (fun e => by
                  rcases e with e | e
                  · have := HS7.out.st.k1.lt; simp at e; omega
                  · exact (HS7.out.kd.2.1 _ e).2.2.2 rfl)
                have y3 := n1.cell 3
                have fz := n1.frozen
                clear n1 hown2 hgrow hat2 hlt2 hatR
                refine hK.out _ _ trivial (fun hHeld => ?_)
                clear hK K
                try simp only [Act.put, List.getElem_toArray, List.getElem_cons_zero, List.getElem_cons_succ, List.setIfInBounds_toArray, List.set_cons_zero, List.set_cons_succ]
                refine wpAnyH_take (i := 8) (v := ?_) rfl (by kernel_rfl) (by kernel_rfl) (by kernel_rfl) (fun _ _ _ h => h) (Or.inl ⟨by rfl, ?_⟩) trivial ?_
                rotate_left
                · intro w hSw
                  go_simp
                  try with_reducible rfl
                try simp only [Act.put, List.getElem_toArray, List.getElem_cons_zero, List.getElem_cons_succ, List.setIfInBounds_toArray, List.set_cons_zero, List.set_cons_succ]
                refine wpAnyH_ready (rs := [9]) (by kernel_rfl) (by simp) (AllReadyH.cons rfl (fun K hK => ?_) AllReadyH.nil)
                go_simp
                refine hK.out _ _ trivial (fun hHeld => ?_)
                clear hK K
                try simp only [Act.put, List.getElem_toArray, List.getElem_cons_zero, List.getElem_cons_succ, List.setIfInBounds_toArray, List.set_cons_zero, List.set_cons_succ]
                refine wpAnyH_done (by kernel_rfl) ?_ _
                go_wp2_with fail
                go_roundg (if bd2 then 0 else s.size - j + 1)
                case rel => exact ⟨ks ++ [(el, .slice ap3 an3 ac3, .slice kp3 kn3 kc3)], _, _, _, _, j, bd2, rfl, HSN.out, by omega, fun h => by have := HLT.out h; rw [List.length_append, List.length_singleton]; omega, Lib.hid (by rw [HDD.out]; exact HK2.out.step hks' HC1.out HIT.out HLT.out)⟩
                case measure =>
                  have h1 := HG.out
                  have h2 := HLT.out
                  simp only [Bool.false_eq_true, if_false] at h1
                  cases bd2 with
                  | true =>
                    clear h2
                    simp only [if_true]
                    omega
                  | false =>
                    have h3 := h2 rfl
                    clear h2
                    simp only [Bool.false_eq_true, if_false]
                    omega
              · go_simp
                refine (HIH.out d' HDD.out (Out M w.heap.size w5.heap.size) (k + 1) false w5.drew HS5.out.st.rdO HS5.out.st.errs.out).mono ?_
                rintro e w7 ⟨el, av3, kv3, j, bd2, rfl, hel, h7, hf7, hpj, hsays⟩
                have hf7' : Fr (Out M w.heap.size w5.heap.size) w5 w7 := ((Fr.refl (Out M w.heap.size w5.heap.size) w5).drew).trans hf7
                obtain ⟨⟨ap3, an3, ac3, rfl⟩, ⟨kp3, kn3, kc3, rfl⟩⟩ := hel.slices
                have HEL := Lib.hid (show ElM 49 25 w7 (fun x => w5.heap.size ≤ x ∧ x < w7.heap.size) _ _ el from hel)
                have HIT : Hid (ItemSays s (kidItem (elemL d') (s.data.toList.drop k)) el j bd2) := Lib.hid (by
                  unfold kidItem
                  rw [if_neg (by rw [HC2.out]; exact Bool.false_ne_true), if_pos HC3.out, List.drop_drop]
                  simp only [Bool.false_eq_true, if_false] at hsays
                  unfold ElSays at hsays
                  unfold ItemSays
                  cases hx : elemL d' (s.data.toList.drop (k + 1)) with
                  | none => rw [hx] at hsays; exact hsays
                  | some p => rw [hx] at hsays; exact hsays)
                have HLT : Hid (bd2 = false → k < j) := Lib.hid fun _ => by omega
                clear hel hsays
                have hs7 := HS5.out.stepO h7 hf7'
                have y3 := hs7.st.k1.cell 3
                have fz := hs7.st.k1.frozen
                have y4 := (hs7.st.k1.alloc (.cells #[.string (bst el.name), .slice ap3 an3 ac3, .string (bst el.text), .slice kp3 kn3 kc3] 25)).cell 3
                have HS7 := Lib.hid hs7
                have HOWN : Hid (w7.ownsRow 0 25 4 (.slice kp kn kc) ks.length (ks.flatMap kidCells)) := Lib.hid hs7.kd.1
                clear h7 hf7 hf7' hs7
                refine hK.out _ _ trivial (fun hHeld => ?_)
                clear hK K
                try simp only [Act.put, List.getElem_toArray, List.getElem_cons_zero, List.getElem_cons_succ, List.setIfInBounds_toArray, List.set_cons_zero, List.set_cons_succ]
                refine wpAnyH_ready (rs := [1, 6]) (by kernel_rfl) (by simp) (AllReadyH.cons rfl (fun K hK => ?_) (AllReadyH.cons rfl (fun K hK => ?_) AllReadyH.nil))
                · go_simp
                  refine hK.out _ _ trivial (fun hHeld => ?_)
                  clear hK K
                  try simp only [Act.put, List.getElem_toArray, List.getElem_cons_zero, List.getElem_cons_succ, List.setIfInBounds_toArray, List.set_cons_zero, List.set_cons_succ]
                  refine wpAnyH_ready (rs := [6]) (by kernel_rfl) (by simp) (AllReadyH.cons rfl (fun K hK => ?_) AllReadyH.nil)
                  go_simp
                  refine hK.out _ _ trivial (fun hHeld => ?_)
                  clear hK K
                  try simp only [Act.put, List.getElem_toArray, List.getElem_cons_zero, List.getElem_cons_succ, List.setIfInBounds_toArray, List.set_cons_zero, List.set_cons_succ]
                  refine wpAnyH_ready (rs := [7]) (by kernel_rfl) (by simp) (AllReadyH.cons rfl (fun K hK => ?_) AllReadyH.nil)
                  refine step_append_lies _ (by rfl) _ _ _ (by rfl) 0 25 i25 _ 4 80 Tryz.underlying23 hi25 hz25a hz25b hz25c rfl (by decide) _ _ _ (by kernel_rfl) (HOWN.out.alloc _) ⟨w7.heap.size, 0, none⟩ 1 1 [.string (bst el.name), .slice ap3 an3 ac3, .string (bst el.text), .slice kp3 kn3 kc3] (by kernel_rfl) (by rfl) (World.news_of_block (cs := #[.string (bst el.name), .slice ap3 an3 ac3, .string (bst el.text), .slice kp3 kn3 kc3]) (t := 25) (fr := (0, 0)) (heap_alloc_new w7 _)) (by simp [Value.oneCell']) (by decide) (by unfold maxLen; omega) (by omega) (Nat.zero_le _) (w7.heap.size + 1) (by simp) ?_
                  intro gg cap w10 hown2 hgrow hat2 hlt2
                  have hatR : RowAt (w7.alloc (.cells #[.string (bst el.name), .slice ap3 an3 ac3, .string (bst el.text), .slice kp3 kn3 kc3] 25)) (.slice kp kn kc) (.slice (some ⟨gg, 0, none⟩) (ks.length + 1) cap) := by
                    rcases hat2 with e | e
                    · exact .inl e.symm
                    · exact .inr ⟨gg, rfl, by rw [e]; simp⟩
                  have HSN := Lib.hid ((HS7.out.alloc (.cells #[.string (bst el.name), .slice ap3 an3 ac3, .string (bst el.text), .slice kp3 kn3 kc3] 25)).kid (p := (el, .slice ap3 an3 ac3, .slice kp3 kn3 kc3)) ((HEL.out.fr (Fr.below (M := fun x => w7.heap.size ≤ x) ((Below.refl _ _).alloc (Nat.le_refl _) _) (Nat.le_refl _) (fun _ hx => hx)) (fun x hx e => by have := hx.2; omega)).mono (fun x hx => by
                           have e1 := HS5.out.nt
                           have e2 := HS5.out.ts
                           have e3 := HS5.out.st.l0
                           have e4 := HS5.out.st.l1
                           refine ⟨⟨by have := hx.1; omega, by have := hx.2; simp; omega, by have := hx.1; omega, by have := hx.1; omega⟩, fun e => ?_⟩
                           have := (HS5.out.kd.2.1 x e).2.1
                           have := hx.1
                           omega)) hown2 hgrow hatR (fun x hx => (HS7.out.kd.2.1 x hx).2.2))
                  have n1 := (HS7.out.st.k1.alloc (.cells #[.string (bst el.name), .slice ap3 an3 ac3, .string (bst el.text), .slice kp3 kn3 kc3] 25)).fr (row_fr hgrow) (fun e => by
                    rcases e with e | e
                    · have := HS7.out.st.k1.lt; simp at e; omega
                    · exact (HS7.out.kd.2.1 _ e).2.2.2 rfl)
                  have y3 := n1.cell 3
                  have fz := n1.frozen
                  clear n1 hown2 hgrow hat2 hlt2 hatR
                  refine hK.out _ _ trivial (fun hHeld => ?_)
                  clear hK K
                  try simp only [Act.put, List.getElem_toArray, List.getElem_cons_zero, List.getElem_cons_succ, List.setIfInBounds_toArray, List.set_cons_zero, List.set_cons_succ]
                  refine wpAnyH_take (i := 8) (v := ?_) rfl (by kernel_rfl) (by kernel_rfl) (by kernel_rfl) (fun _ _ _ h => h) (Or.inl ⟨by rfl, ?_⟩) trivial ?_
                  rotate_left
                  · intro w hSw
                    go_simp
                    try with_reducible rfl
                  try simp only [Act.put, List.getElem_toArray, List.getElem_cons_zero, List.getElem_cons_succ, List.setIfInBounds_toArray, List.set_cons_zero, List.set_cons_succ]
                  refine wpAnyH_ready (rs := [9]) (by kernel_rfl) (by simp) (AllReadyH.cons rfl (fun K hK => ?_) AllReadyH.nil)
                  go_simp
                  refine hK.out _ _ trivial (fun hHeld => ?_)
                  clear hK K
                  try simp only [Act.put, List.getElem_toArray, List.getElem_cons_zero, List.getElem_cons_succ, List.setIfInBounds_toArray, List.set_cons_zero, List.set_cons_succ]
                  refine wpAnyH_done (by kernel_rfl) ?_ _
                  go_wp2_with fail
                  go_roundg (if bd2 then 0 else s.size - j + 1)
                  case rel => exact ⟨ks ++ [(el, .slice ap3 an3 ac3, .slice kp3 kn3 kc3)], _, _, _, _, j, bd2, rfl, HSN.out, by omega, fun h => by have := HLT.out h; rw [List.length_append, List.length_singleton]; omega, Lib.hid (by rw [HDD.out]; exact HK2.out.step hks' HC1.out HIT.out HLT.out)⟩
                  case measure =>
                    have h1 := HG.out
                    have h2 := HLT.out
                    simp only [Bool.false_eq_true, if_false] at h1
                    cases bd2 with
                    | true =>
                      clear h2
                      simp only [if_true]
                      omega
                    | false =>
                      have h3 := h2 rfl
                      clear h2
                      simp only [Bool.false_eq_true, if_false]
                      omega
                · go_simp
                  refine hK.out _ _ trivial (fun hHeld => ?_)
                  clear hK K
                  try simp only [Act.put, List.getElem_toArray, List.getElem_cons_zero, List.getElem_cons_succ, List.setIfInBounds_toArray, List.set_cons_zero, List.set_cons_succ]
                  refine wpAnyH_ready (rs := [1]) (by kernel_rfl) (by simp) (AllReadyH.cons rfl (fun K hK => ?_) AllReadyH.nil)
                  go_simp
                  refine hK.out _ _ trivial (fun hHeld => ?_)
                  clear hK K
                  try simp only [Act.put, List.getElem_toArray, List.getElem_cons_zero, List.getElem_cons_succ, List.setIfInBounds_toArray, List.set_cons_zero, List.set_cons_succ]
                  refine wpAnyH_ready (rs := [7]) (by kernel_rfl) (by simp) (AllReadyH.cons rfl (fun K hK => ?_) AllReadyH.nil)
                  refine step_append_lies _ (by rfl) _ _ _ (by rfl) 0 25 i25 _ 4 80 Tryz.underlying23 hi25 hz25a hz25b hz25c rfl (by decide) _ _ _ (by kernel_rfl) (HOWN.out.alloc _) ⟨w7.heap.size, 0, none⟩ 1 1 [.string (bst el.name), .slice ap3 an3 ac3, .string (bst el.text), .slice kp3 kn3 kc3] (by kernel_rfl) (by rfl) (World.news_of_block (cs := #[.string (bst el.name), .slice ap3 an3 ac3, .string (bst el.text), .slice kp3 kn3 kc3]) (t := 25) (fr := (0, 0)) (heap_alloc_new w7 _)) (by simp [Value.oneCell']) (by decide) (by unfold maxLen; omega) (by omega) (Nat.zero_le _) (w7.heap.size + 1) (by simp) ?_
                  intro gg cap w10 hown2 hgrow hat2 hlt2
                  have hatR : RowAt (w7.alloc (.cells #[.string (bst el.name), .slice ap3 an3 ac3, .string (bst el.text), .slice kp3 kn3 kc3] 25)) (.slice kp kn kc) (.slice (some ⟨gg, 0, none⟩) (ks.length + 1) cap) := by
                    rcases hat2 with e | e
                    · exact .inl e.symm
                    · exact .inr ⟨gg, rfl, by rw [e]; simp⟩
                  have HSN := Lib.hid ((HS7.out.alloc (.cells #[.string (bst el.name), .slice ap3 an3 ac3, .string (bst el.text), .slice kp3 kn3 kc3] 25)).kid (p := (el, .slice ap3 an3 ac3, .slice kp3 kn3 kc3)) ((HEL.out.fr (Fr.below (M := fun x => w7.heap.size ≤ x) ((Below.refl _ _).alloc (Nat.le_refl _) _) (Nat.le_refl _) (fun _ hx => hx)) (fun x hx e => by have := hx.2; omega)).mono (fun x hx => by
                           have e1 := HS5.out.nt
                           have e2 := HS5.out.ts
                           have e3 := HS5.out.st.l0
                           have e4 := HS5.out.st.l1
                           refine ⟨⟨by have := hx.1; omega, by have := hx.2; simp; omega, by have := hx.1; omega, by have := hx.1; omega⟩, fun e => ?_⟩
                           have := (HS5.out.kd.2.1 x e).2.1
                           have := hx.1
                           omega)) hown2 hgrow hatR (fun x hx => (HS7.out.kd.2.1 x hx).2.2))
                  have n1 := (HS7.out.st.k1.alloc (.cells #[.string (bst el.name), .slice ap3 an3 ac3, .string (bst el.text), .slice kp3 kn3 kc3] 25)).fr (row_fr hgrow) (fun e => by
                    rcases e with e | e
                    · have := HS7.out.st.k1.lt; simp at e; omega
                    · exact (HS7.out.kd.2.1 _ e).2.2.2 rfl)
                  have y3 := n1.cell 3
                  have fz := n1.frozen
                  clear n1 hown2 hgrow hat2 hlt2 hatR
                  refine hK.out _ _ trivial (fun hHeld => ?_)
                  clear hK K
                  try simp only [Act.put, List.getElem_toArray, List.getElem_cons_zero, List.getElem_cons_succ, List.setIfInBounds_toArray, List.set_cons_zero, List.set_cons_succ]
                  refine wpAnyH_take (i := 8) (v := ?_) rfl (by kernel_rfl) (by kernel_rfl) (by kernel_rfl) (fun _ _ _ h => h) (Or.inl ⟨by rfl, ?_⟩) trivial ?_
                  rotate_left
                  · intro w hSw
                    go_simp
                    try with_reducible rfl
                  try simp only [Act.put, List.getElem_toArray, List.getElem_cons_zero, List.getElem_cons_succ, List.setIfInBounds_toArray, List.set_cons_zero, List.set_cons_succ]
                  refine wpAnyH_ready (rs := [9]) (by kernel_rfl) (by simp) (AllReadyH.cons rfl (fun K hK => ?_) AllReadyH.nil)
                  go_simp
                  refine hK.out _ _ trivial (fun hHeld => ?_)
                  clear hK K
                  try simp only [Act.put, List.getElem_toArray, List.getElem_cons_zero, List.getElem_cons_succ, List.setIfInBounds_toArray, List.set_cons_zero, List.set_cons_succ]
                  refine wpAnyH_done (by kernel_rfl) ?_ _
                  go_wp2_with fail
                  go_roundg (if bd2 then 0 else s.size - j + 1)
                  case rel => exact ⟨ks ++ [(el, .slice ap3 an3 ac3, .slice kp3 kn3 kc3)], _, _, _, _, j, bd2, rfl, HSN.out, by omega, fun h => by have := HLT.out h; rw [List.length_append, List.length_singleton]; omega, Lib.hid (by rw [HDD.out]; exact HK2.out.step hks' HC1.out HIT.out HLT.out)⟩
                  case measure =>
                    have h1 := HG.out
                    have h2 := HLT.out
                    simp only [Bool.false_eq_true, if_false] at h1
                    cases bd2 with
                    | true =>
                      clear h2
                      simp only [if_true]
                      omega
                    | false =>
                      have h3 := h2 rfl
                      clear h2
                      simp only [Bool.false_eq_true, if_false]
                      omega
            | false =>
              have HC3 : Hid (isPre [60] (s.data.toList.drop k) = false) := Lib.hid (by rw [← hq3, hasB_pre])
              have HQ := Lib.hid (has_any M b s k false ⟨#[60]⟩ _ HS4.out.st.rd (by decide) false hq3)
              clear hq3
              refine HQ.out.mono ?_
              rintro e w5 ⟨rfl, h7, hfr7⟩
              have h7' : RdM M w5 b s (k) false := h7
              have HS5 := Lib.hid (HS4.out.stepB h7' hfr7)
              clear h7 h7' hfr7 HQ
              have HTX : Hid (Calls Tryz.prog 104 #[.pointer (some ⟨b, 0, none⟩), .int .u8 60, .int .u8 60] w5.drew (StrPost (Out M w.heap.size w5.heap.size) b s k w5.drew (if false = true then none else txtF 60 60 ((s.data.toList.drop k).length + 1) (s.data.toList.drop k)))) :=
                Lib.hid (text_total _ b s k false 60 60 w5.drew HS5.out.st.rdO HS5.out.st.errs.out _ (by rw [List.length_drop, list_size]; omega))
              go_upto_region 19 with fail
              have y3 := HS5.out.st.k1.cell 3
              refine wp_region_held_drew (S := fun _ => True) (by kernel_rfl) trivial (fun hHeld => ?_)
              refine wpAnyH_take (i := 0) (v := ?_) rfl (by kernel_rfl) (by kernel_rfl) (by kernel_rfl) (fun _ _ _ h => h) (Or.inl ⟨by rfl, ?_⟩) trivial ?_
              rotate_left
              · intro w hSw
                go_simp
                try with_reducible rfl
              try simp only [Act.put, List.getElem_toArray, List.getElem_cons_zero, List.getElem_cons_succ, List.setIfInBounds_toArray, List.set_cons_zero, List.set_cons_succ]
              refine wpAnyH_take (i := 2) (v := ?_) rfl (by kernel_rfl) (by kernel_rfl) (by kernel_rfl) (fun _ _ _ h => h) (Or.inl ⟨by rfl, ?_⟩) trivial ?_
              rotate_left
              · intro w hSw
                go_simp
                try with_reducible rfl
              try simp only [Act.put, List.getElem_toArray, List.getElem_cons_zero, List.getElem_cons_succ, List.setIfInBounds_toArray, List.set_cons_zero, List.set_cons_succ]
              refine wpAnyH_ready (rs := [1, 3]) (by kernel_rfl) (by simp) (AllReadyH.cons rfl (fun K hK => ?_) (AllReadyH.cons rfl (fun K hK => ?_) AllReadyH.nil))
              · go_simp
                refine hK.out _ _ trivial (fun hHeld => ?_)
                clear hK K
                try simp only [Act.put, List.getElem_toArray, List.getElem_cons_zero, List.getElem_cons_succ, List.setIfInBounds_toArray, List.set_cons_zero, List.set_cons_succ]
                refine wpAnyH_ready (rs := [3]) (by kernel_rfl) (by simp) (AllReadyH.cons rfl (fun K hK => ?_) AllReadyH.nil)
                go_simp
                refine (HTX.out).mono ?_
                rintro e w7 ⟨v, j, bd2, rfl, h7, hf7, hpj, hvl, hm⟩
                have hf7' : Fr (Out M w.heap.size w5.heap.size) w5 w7 := ((Fr.refl (Out M w.heap.size w5.heap.size) w5).drew).trans hf7
                have HIT : Hid (ItemSays s (kidItem (elemL d') (s.data.toList.drop k)) (.mk [] [] v []) j bd2) := Lib.hid (by
                  unfold kidItem
                  rw [if_neg (by rw [HC2.out]; exact Bool.false_ne_true), if_neg (by rw [HC3.out]; exact Bool.false_ne_true)]
                  simp only [Bool.false_eq_true, if_false] at hm
                  unfold ItemSays
                  cases hx : txtF 60 60 ((s.data.toList.drop k).length + 1) (s.data.toList.drop k) with
                  | none => rw [hx] at hm; exact hm
                  | some p => rw [hx] at hm; exact ⟨hm.1, by rw [hm.2.1], hm.2.2⟩)
                have HLT : Hid (bd2 = false → k < j) := Lib.hid fun h => by
                  simp only [Bool.false_eq_true, if_false] at hm
                  cases hx : txtF 60 60 ((s.data.toList.drop k).length + 1) (s.data.toList.drop k) with
                  | none => rw [hx] at hm; rw [h] at hm; cases hm
                  | some p =>
                    rw [hx] at hm
                    obtain ⟨v2, r2⟩ := p
                    have h60 : s[k] ≠ 60 := fun e => by
                      have := HC3.out
                      rw [drop_cons s k hks', e] at this
                      simp [isPre] at this
                    rw [drop_cons s k hks'] at hx
                    have h1 := txtF_lt hx ⟨h60, h60⟩
                    rw [← drop_cons s k hks'] at h1
                    have h2 := congrArg List.length hm.2.2
                    simp only at h2
                    rw [List.length_drop, list_size] at h1 h2
                    omega
                have hs7 := HS5.out.stepO h7 hf7'
                have y3 := hs7.st.k1.cell 3
                have fz := hs7.st.k1.frozen
                have y4 := (hs7.st.k1.alloc (.cells #[.string ⟨#[]⟩, .slice none 0 0, .string (bst v), .slice none 0 0] 25)).cell 3
                have HS7 := Lib.hid hs7
                have HOWN : Hid (w7.ownsRow 0 25 4 (.slice kp kn kc) ks.length (ks.flatMap kidCells)) := Lib.hid hs7.kd.1
                clear h7 hf7 hf7' hs7
                refine hK.out _ _ trivial (fun hHeld => ?_)
                clear hK K
                try simp only [Act.put, List.getElem_toArray, List.getElem_cons_zero, List.getElem_cons_succ, List.setIfInBounds_toArray, List.set_cons_zero, List.set_cons_succ]
                refine wpAnyH_take (i := 4) (v := ?_) rfl (by kernel_rfl) (by kernel_rfl) (by kernel_rfl) (fun _ _ _ h => h) (Or.inl ⟨by rfl, ?_⟩) trivial ?_
                rotate_left
                · intro w hSw
                  go_simp
                  try with_reducible rfl
                try simp only [Act.put, List.getElem_toArray, List.getElem_cons_zero, List.getElem_cons_succ, List.setIfInBounds_toArray, List.set_cons_zero, List.set_cons_succ]
                refine wpAnyH_ready (rs := [5]) (by kernel_rfl) (by simp) (AllReadyH.cons rfl (fun K hK => ?_) AllReadyH.nil)
                go_simp
                refine hK.out _ _ trivial (fun hHeld => ?_)
                clear hK K
                try simp only [Act.put, List.getElem_toArray, List.getElem_cons_zero, List.getElem_cons_succ, List.setIfInBounds_toArray, List.set_cons_zero, List.set_cons_succ]
                refine wpAnyH_ready (rs := [6]) (by kernel_rfl) (by simp) (AllReadyH.cons rfl (fun K hK => ?_) AllReadyH.nil)
                refine step_append_lies _ (by rfl) _ _ _ (by rfl) 0 25 i25 _ 4 80 Tryz.underlying23 hi25 hz25a hz25b hz25c rfl (by decide) _ _ _ (by kernel_rfl) (HOWN.out.alloc _) ⟨w7.heap.size, 0, none⟩ 1 1 [.string ⟨#[]⟩, .slice none 0 0, .string (bst v), .slice none 0 0] (by kernel_rfl) (by rfl) (World.news_of_block (cs := #[.string ⟨#[]⟩, .slice none 0 0, .string (bst v), .slice none 0 0]) (t := 25) (fr := (0, 0)) (heap_alloc_new w7 _)) (by simp [Value.oneCell']) (by decide) (by unfold maxLen; omega) (by omega) (Nat.zero_le _) (w7.heap.size + 1) (by simp) ?_
                intro gg cap w10 hown2 hgrow hat2 hlt2
                have hatR : RowAt (w7.alloc (.cells #[.string ⟨#[]⟩, .slice none 0 0, .string (bst v), .slice none 0 0] 25)) (.slice kp kn kc) (.slice (some ⟨gg, 0, none⟩) (ks.length + 1) cap) := by
                  rcases hat2 with e | e
                  · exact .inl e.symm
                  · exact .inr ⟨gg, rfl, by rw [e]; simp⟩
                have HSN := Lib.hid ((HS7.out.alloc (.cells #[.string ⟨#[]⟩, .slice none 0 0, .string (bst v), .slice none 0 0] 25)).kid (p := (XEl.mk [] [] v [], .slice none 0 0, .slice none 0 0)) (ElM.mk _ [] v [] [] _ _ (AttrsT.nil _ _) (fun g hg => by simp [Value.ownBlock] at hg) ⟨rfl, .inl ⟨rfl, rfl⟩⟩ (fun g hg => by simp [Value.ownBlock] at hg) (fun k hk => by simp at hk)) hown2 hgrow hatR (fun x hx => (HS7.out.kd.2.1 x hx).2.2))
                have n1 := (HS7.out.st.k1.alloc (.cells #[.string ⟨#[]⟩, .slice none 0 0, .string (bst v), .slice none 0 0] 25)).fr (row_fr hgrow) (fun e => by
                  rcases e with e | e
                  · have := HS7.out.st.k1.lt; simp at e; omega
                  · exact (HS7.out.kd.2.1 _ e).2.2.2 rfl)
                have y3 := n1.cell 3
                have fz := n1.frozen
                clear n1 hown2 hgrow hat2 hlt2 hatR
                refine hK.out _ _ trivial (fun hHeld => ?_)
                clear hK K
                try simp only [Act.put, List.getElem_toArray, List.getElem_cons_zero, List.getElem_cons_succ, List.setIfInBounds_toArray, List.set_cons_zero, List.set_cons_succ]
                refine wpAnyH_take (i := 7) (v := ?_) rfl (by kernel_rfl) (by kernel_rfl) (by kernel_rfl) (fun _ _ _ h => h) (Or.inl ⟨by rfl, ?_⟩) trivial ?_
                rotate_left
                · intro w hSw
                  go_simp
                  try with_reducible rfl
                try simp only [Act.put, List.getElem_toArray, List.getElem_cons_zero, List.getElem_cons_succ, List.setIfInBounds_toArray, List.set_cons_zero, List.set_cons_succ]
                refine wpAnyH_ready (rs := [8]) (by kernel_rfl) (by simp) (AllReadyH.cons rfl (fun K hK => ?_) AllReadyH.nil)
                go_simp
                refine hK.out _ _ trivial (fun hHeld => ?_)
                clear hK K
                try simp only [Act.put, List.getElem_toArray, List.getElem_cons_zero, List.getElem_cons_succ, List.setIfInBounds_toArray, List.set_cons_zero, List.set_cons_succ]
                refine wpAnyH_done (by kernel_rfl) ?_ _
                go_wp2_with fail
                go_roundg (if bd2 then 0 else s.size - j + 1)
                case rel => exact ⟨ks ++ [(XEl.mk [] [] v [], .slice none 0 0, .slice none 0 0)], _, _, _, _, j, bd2, rfl, HSN.out, by omega, fun h => by have := HLT.out h; rw [List.length_append, List.length_singleton]; omega, Lib.hid (by rw [HDD.out]; exact HK2.out.step hks' HC1.out HIT.out HLT.out)⟩
                case measure =>
                  have h1 := HG.out
                  have h2 := HLT.out
                  simp only [Bool.false_eq_true, if_false] at h1
                  cases bd2 with
                  | true =>
                    clear h2
                    simp only [if_true]
                    omega
                  | false =>
                    have h3 := h2 rfl
                    clear h2
                    simp only [Bool.false_eq_true, if_false]
                    omega
              · go_simp
                refine (HTX.out).mono ?_
                rintro e w7 ⟨v, j, bd2, rfl, h7, hf7, hpj, hvl, hm⟩
                have hf7' : Fr (Out M w.heap.size w5.heap.size) w5 w7 := ((Fr.refl (Out M w.heap.size w5.heap.size) w5).drew).trans hf7
                have HIT : Hid (ItemSays s (kidItem (elemL d') (s.data.toList.drop k)) (.mk [] [] v []) j bd2) := Lib.hid (by
                  unfold kidItem
                  rw [if_neg (by rw [HC2.out]; exact Bool.false_ne_true), if_neg (by rw [HC3.out]; exact Bool.false_ne_true)]
                  simp only [Bool.false_eq_true, if_false] at hm
                  unfold ItemSays
                  cases hx : txtF 60 60 ((s.data.toList.drop k).length + 1) (s.data.toList.drop k) with
                  | none => rw [hx] at hm; exact hm
                  | some p => rw [hx] at hm; exact ⟨hm.1, by rw [hm.2.1], hm.2.2⟩)
                have HLT : Hid (bd2 = false → k < j) := Lib.hid fun h => by
                  simp only [Bool.false_eq_true, if_false] at hm
                  cases hx : txtF 60 60 ((s.data.toList.drop k).length + 1) (s.data.toList.drop k) with
                  | none => rw [hx] at hm; rw [h] at hm; cases hm
                  | some p =>
                    rw [hx] at hm
                    obtain ⟨v2, r2⟩ := p
                    have h60 : s[k] ≠ 60 := fun e => by
                      have := HC3.out
                      rw [drop_cons s k hks', e] at this
                      simp [isPre] at this
                    rw [drop_cons s k hks'] at hx
                    have h1 := txtF_lt hx ⟨h60, h60⟩
                    rw [← drop_cons s k hks'] at h1
                    have h2 := congrArg List.length hm.2.2
                    simp only at h2
                    rw [List.length_drop, list_size] at h1 h2
                    omega
                have hs7 := HS5.out.stepO h7 hf7'
                have y3 := hs7.st.k1.cell 3
                have fz := hs7.st.k1.frozen
                have y4 := (hs7.st.k1.alloc (.cells #[.string ⟨#[]⟩, .slice none 0 0, .string (bst v), .slice none 0 0] 25)).cell 3
                have HS7 := Lib.hid hs7
                have HOWN : Hid (w7.ownsRow 0 25 4 (.slice kp kn kc) ks.length (ks.flatMap kidCells)) := Lib.hid hs7.kd.1
                clear h7 hf7 hf7' hs7
                refine hK.out _ _ trivial (fun hHeld => ?_)
                clear hK K
                try simp only [Act.put, List.getElem_toArray, List.getElem_cons_zero, List.getElem_cons_succ, List.setIfInBounds_toArray, List.set_cons_zero, List.set_cons_succ]
                refine wpAnyH_take (i := 4) (v := ?_) rfl (by kernel_rfl) (by kernel_rfl) (by kernel_rfl) (fun _ _ _ h => h) (Or.inl ⟨by rfl, ?_⟩) trivial ?_
                rotate_left
                · intro w hSw
                  go_simp
                  try with_reducible rfl
                try simp only [Act.put, List.getElem_toArray, List.getElem_cons_zero, List.getElem_cons_succ, List.setIfInBounds_toArray, List.set_cons_zero, List.set_cons_succ]
                refine wpAnyH_ready (rs := [1, 5]) (by kernel_rfl) (by simp) (AllReadyH.cons rfl (fun K hK => ?_) (AllReadyH.cons rfl (fun K hK => ?_) AllReadyH.nil))
                · go_simp
                  refine hK.out _ _ trivial (fun hHeld => ?_)
                  clear hK K
                  try simp only [Act.put, List.getElem_toArray, List.getElem_cons_zero, List.getElem_cons_succ, List.setIfInBounds_toArray, List.set_cons_zero, List.set_cons_succ]
                  refine wpAnyH_ready (rs := [5]) (by kernel_rfl) (by simp) (AllReadyH.cons rfl (fun K hK => ?_) AllReadyH.nil)
                  go_simp
                  refine hK.out _ _ trivial (fun hHeld => ?_)
                  clear hK K
                  try simp only [Act.put, List.getElem_toArray, List.getElem_cons_zero, List.getElem_cons_succ, List.setIfInBounds_toArray, List.set_cons_zero, List.set_cons_succ]
                  refine wpAnyH_ready (rs := [6]) (by kernel_rfl) (by simp) (AllReadyH.cons rfl (fun K hK => ?_) AllReadyH.nil)
                  refine step_append_lies _ (by rfl) _ _ _ (by rfl) 0 25 i25 _ 4 80 Tryz.underlying23 hi25 hz25a hz25b hz25c rfl (by decide) _ _ _ (by kernel_rfl) (HOWN.out.alloc _) ⟨w7.heap.size, 0, none⟩ 1 1 [.string ⟨#[]⟩, .slice none 0 0, .string (bst v), .slice none 0 0] (by kernel_rfl) (by rfl) (World.news_of_block (cs := #[.string ⟨#[]⟩, .slice none 0 0, .string (bst v), .slice none 0 0]) (t := 25) (fr := (0, 0)) (heap_alloc_new w7 _)) (by simp [Value.oneCell']) (by decide) (by unfold maxLen; omega) (by omega) (Nat.zero_le _) (w7.heap.size + 1) (by simp) ?_
                  intro gg cap w10 hown2 hgrow hat2 hlt2
                  have hatR : RowAt (w7.alloc (.cells #[.string ⟨#[]⟩, .slice none 0 0, .string (bst v), .slice none 0 0] 25)) (.slice kp kn kc) (.slice (some ⟨gg, 0, none⟩) (ks.length + 1) cap) := by
                    rcases hat2 with e | e
                    · exact .inl e.symm
                    · exact .inr ⟨gg, rfl, by rw [e]; simp⟩
                  have HSN := Lib.hid ((HS7.out.alloc (.cells #[.string ⟨#[]⟩, .slice none 0 0, .string (bst v), .slice none 0 0] 25)).kid (p := (XEl.mk [] [] v [], .slice none 0 0, .slice none 0 0)) (ElM.mk _ [] v [] [] _ _ (AttrsT.nil _ _) (fun g hg => by simp [Value.ownBlock] at hg) ⟨rfl, .inl ⟨rfl, rfl⟩⟩ (fun g hg => by simp [Value.ownBlock] at hg) (fun k hk => by simp at hk)) hown2 hgrow hatR (fun x hx => (HS7.out.kd.2.1 x hx).2.2))
                  have n1 := (HS7.out.st.k1.alloc (.cells #[.string ⟨#[]⟩, .slice none 0 0, .string (bst v), .slice none 0 0] 25)).fr (row_fr hgrow) (fun e => by
                    rcases e with e | e
                    · have := HS7.out.st.k1.lt; simp at e; omega
                    · exact (HS7.out.kd.2.1 _ e).2.2.2 rfl)
                  have y3 := n1.cell 3
                  have fz := n1.frozen
                  clear n1 hown2 hgrow hat2 hlt2 hatR
                  refine hK.out _ _ trivial (fun hHeld => ?_)
                  clear hK K
                  try simp only [Act.put, List.getElem_toArray, List.getElem_cons_zero, List.getElem_cons_succ, List.setIfInBounds_toArray, List.set_cons_zero, List.set_cons_succ]
                  refine wpAnyH_take (i := 7) (v := ?_) rfl (by kernel_rfl) (by kernel_rfl) (by kernel_rfl) (fun _ _ _ h => h) (Or.inl ⟨by rfl, ?_⟩) trivial ?_
                  rotate_left
                  · intro w hSw
                    go_simp
                    try with_reducible rfl
                  try simp only [Act.put, List.getElem_toArray, List.getElem_cons_zero, List.getElem_cons_succ, List.setIfInBounds_toArray, List.set_cons_zero, List.set_cons_succ]
                  refine wpAnyH_ready (rs := [8]) (by kernel_rfl) (by simp) (AllReadyH.cons rfl (fun K hK => ?_) AllReadyH.nil)
                  go_simp
                  refine hK.out _ _ trivial (fun hHeld => ?_)
                  clear hK K
                  try simp only [Act.put, List.getElem_toArray, List.getElem_cons_zero, List.getElem_cons_succ, List.setIfInBounds_toArray, List.set_cons_zero, List.set_cons_succ]
                  refine wpAnyH_done (by kernel_rfl) ?_ _
                  go_wp2_with fail
                  go_roundg (if bd2 then 0 else s.size - j + 1)
                  case rel => exact ⟨ks ++ [(XEl.mk [] [] v [], .slice none 0 0, .slice none 0 0)], _, _, _, _, j, bd2, rfl, HSN.out, by omega, fun h => by have := HLT.out h; rw [List.length_append, List.length_singleton]; omega, Lib.hid (by rw [HDD.out]; exact HK2.out.step hks' HC1.out HIT.out HLT.out)⟩
                  case measure =>
                    have h1 := HG.out
                    have h2 := HLT.out
                    simp only [Bool.false_eq_true, if_false] at h1
                    cases bd2 with
                    | true =>
                      clear h2
                      simp only [if_true]
                      omega
                    | false =>
                      have h3 := h2 rfl
                      clear h2
                      simp only [Bool.false_eq_true, if_false]
                      omega
                · go_simp
                  refine hK.out _ _ trivial (fun hHeld => ?_)
                  clear hK K
                  try simp only [Act.put, List.getElem_toArray, List.getElem_cons_zero, List.getElem_cons_succ, List.setIfInBounds_toArray, List.set_cons_zero, List.set_cons_succ]
                  refine wpAnyH_ready (rs := [1]) (by kernel_rfl) (by simp) (AllReadyH.cons rfl (fun K hK => ?_) AllReadyH.nil)
                  go_simp
                  refine hK.out _ _ trivial (fun hHeld => ?_)
                  clear hK K
                  try simp only [Act.put, List.getElem_toArray, List.getElem_cons_zero, List.getElem_cons_succ, List.setIfInBounds_toArray, List.set_cons_zero, List.set_cons_succ]
                  refine wpAnyH_ready (rs := [6]) (by kernel_rfl) (by simp) (AllReadyH.cons rfl (fun K hK => ?_) AllReadyH.nil)
                  refine step_append_lies _ (by rfl) _ _ _ (by rfl) 0 25 i25 _ 4 80 Tryz.underlying23 hi25 hz25a hz25b hz25c rfl (by decide) _ _ _ (by kernel_rfl) (HOWN.out.alloc _) ⟨w7.heap.size, 0, none⟩ 1 1 [.string ⟨#[]⟩, .slice none 0 0, .string (bst v), .slice none 0 0] (by kernel_rfl) (by rfl) (World.news_of_block (cs := #[.string ⟨#[]⟩, .slice none 0 0, .string (bst v), .slice none 0 0]) (t := 25) (fr := (0, 0)) (heap_alloc_new w7 _)) (by simp [Value.oneCell']) (by decide) (by unfold maxLen; omega) (by omega) (Nat.zero_le _) (w7.heap.size + 1) (by simp) ?_
                  intro gg cap w10 hown2 hgrow hat2 hlt2
                  have hatR : RowAt (w7.alloc (.cells #[.string ⟨#[]⟩, .slice none 0 0, .string (bst v), .slice none 0 0] 25)) (.slice kp kn kc) (.slice (some ⟨gg, 0, none⟩) (ks.length + 1) cap) := by
                    rcases hat2 with e | e
                    · exact .inl e.symm
                    · exact .inr ⟨gg, rfl, by rw [e]; simp⟩
                  have HSN := Lib.hid ((HS7.out.alloc (.cells #[.string ⟨#[]⟩, .slice none 0 0, .string (bst v), .slice none 0 0] 25)).kid (p := (XEl.mk [] [] v [], .slice none 0 0, .slice none 0 0)) (ElM.mk _ [] v [] [] _ _ (AttrsT.nil _ _) (fun g hg => by simp [Value.ownBlock] at hg) ⟨rfl, .inl ⟨rfl, rfl⟩⟩ (fun g hg => by simp [Value.ownBlock] at hg) (fun k hk => by simp at hk)) hown2 hgrow hatR (fun x hx => (HS7.out.kd.2.1 x hx).2.2))
                  have n1 := (HS7.out.st.k1.alloc (.cells #[.string ⟨#[]⟩, .slice none 0 0, .string (bst v), .slice none 0 0] 25)).fr (row_fr hgrow) (fun e => by
                    rcases e with e | e
                    · have := HS7.out.st.k1.lt; simp at e; omega
                    · exact (HS7.out.kd.2.1 _ e).2.2.2 rfl)
                  have y3 := n1.cell 3
                  have fz := n1.frozen
                  clear n1 hown2 hgrow hat2 hlt2 hatR
                  refine hK.out _ _ trivial (fun hHeld => ?_)
                  clear hK K
                  try simp only [Act.put, List.getElem_toArray, List.getElem_cons_zero, List.getElem_cons_succ, List.setIfInBounds_toArray, List.set_cons_zero, List.set_cons_succ]
                  refine wpAnyH_take (i := 7) (v := ?_) rfl (by kernel_rfl) (by kernel_rfl) (by kernel_rfl) (fun _ _ _ h => h) (Or.inl ⟨by rfl, ?_⟩) trivial ?_
                  rotate_left
                  · intro w hSw
                    go_simp
                    try with_reducible rfl
                  try simp only [Act.put, List.getElem_toArray, List.getElem_cons_zero, List.getElem_cons_succ, List.setIfInBounds_toArray, List.set_cons_zero, List.set_cons_succ]
                  refine wpAnyH_ready (rs := [8]) (by kernel_rfl) (by simp) (AllReadyH.cons rfl (fun K hK => ?_) AllReadyH.nil)
                  go_simp
                  refine hK.out _ _ trivial (fun hHeld => ?_)
                  clear hK K
                  try simp only [Act.put, List.getElem_toArray, List.getElem_cons_zero, List.getElem_cons_succ, List.setIfInBounds_toArray, List.set_cons_zero, List.set_cons_succ]
                  refine wpAnyH_done (by kernel_rfl) ?_ _
                  go_wp2_with fail
                  go_roundg (if bd2 then 0 else s.size - j + 1)
                  case rel => exact ⟨ks ++ [(XEl.mk [] [] v [], .slice none 0 0, .slice none 0 0)], _, _, _, _, j, bd2, rfl, HSN.out, by omega, fun h => by have := HLT.out h; rw [List.length_append, List.length_singleton]; omega, Lib.hid (by rw [HDD.out]; exact HK2.out.step hks' HC1.out HIT.out HLT.out)⟩
                  case measure =>
                    have h1 := HG.out
                    have h2 := HLT.out
                    simp only [Bool.false_eq_true, if_false] at h1
                    cases bd2 with
                    | true =>
                      clear h2
                      simp only [if_true]
                      omega
                    | false =>
                      have h3 := h2 rfl
                      clear h2
                      simp only [Bool.false_eq_true, if_false]
                      omega

end Go.Proofs.YtlljphipglgjiaaGreatDoor
