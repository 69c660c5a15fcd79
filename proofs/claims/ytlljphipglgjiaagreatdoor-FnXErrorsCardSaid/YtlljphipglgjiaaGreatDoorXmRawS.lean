/-
  zxml's Decoder.rawToken: an element's start.
-/
import Derived.Test.YtlljphipglgjiaaGreatDoorXmRaw
import Derived.Test.YtlljphipglgjiaaGreatDoorXmSans
import Derived.Deep.RegionHeld3
import Derived.Deep.AppendLies
namespace Go.Proofs.YtlljphipglgjiaaGreatDoor
open Go.RowKit Go.Lib

theorem Tryz.info204 : (Tryz.prog.info? 204).map (fun i => (i.zero, i.size, i.bytes)) = some (some (.agg #[.string ⟨#[]⟩, .string ⟨#[]⟩, .string ⟨#[]⟩]), 3, 48) := by kernel_rfl

/-- The contract of text. -/
def TextC (L : LS) (s : ByteArray) : Prop := ∀ (q : UInt8) (qv : Int) (je : Nat) (fe : Bool) (j : Nat) (M : Nat → Prop) (w : World) (i : Nat) (f : Bool) (bs v r : List UInt8),
    ((q = 60 ∧ qv = -1 ∧ je = j ∧ fe = false) ∨ ((q = 34 ∨ q = 39) ∧ qv = (q.toNat : Int) ∧ je = j + 1 ∧ fe = true)) → LowB M w L s i f bs → Utf8Tabs 4 5 w → ¬ M 4 ∧ ¬ M 5 → TxP q 0 0 (s.data.toList.drop i) v r → GoodT v → s.data.toList.drop j = r → j ≤ s.size → v ≠ [] →
    Calls Tryz.prog 153 #[.pointer (some ⟨L.p, 0, none⟩), .int .i64 qv, .bool false] w (TxPost M w L s je fe v)

def StartPost (M : Nat → Prop) (w : World) (L : LS) (s : ByteArray) (sp lo : ByteArray) (av : List AttrS) (em : Bool) (j : Nat) (e : Ending) (w' : World) : Prop :=
  ∃ (ga cap : Nat) (cur : Array Value) (f : Bool) (bs : List UInt8), e = .returned (.tuple #[.iface 62 (.agg #[.string sp, .string lo, .slice (some ⟨ga, 0, none⟩) av.length cap]), .nilIface]) ∧ Blk w' ga 204 cur ∧ RowA cur cap av ∧ w.heap.size ≤ ga ∧
    LowB M w' (if em then { L with nc := true, tcS := sp, tcL := lo } else L) s j f bs ∧ Fr M w w'

set_option maxRecDepth 100000 in
set_option maxHeartbeats 8000000 in
/-- An element's start. -/
theorem raw_start (M : Nat → Prop) (w : World) (L : LS) (s : ByteArray) (i : Nat) (f : Bool) (bs nm t : List UInt8) (av : List AttrS) (em : Bool) (r : List UInt8) (h : LowB M w L s i f bs) (hnc : L.nc = false) (hl : s.data.toList.drop i = 60 :: (nm ++ t)) (hN : GoodN nm) (hA : AttrsR t av em r)
    (hT : Utf8Tabs 4 5 w) (hT4 : ¬ M 4 ∧ ¬ M 5) (htx : TextC L s) :
    Calls Tryz.prog 117 #[.pointer (some ⟨L.p, 0, none⟩)] w (StartPost M w L s (bst (halvesL nm).1) (bst (halvesL nm).2) av em (s.size - r.length)) := by
  obtain ⟨sp, hsp⟩ : ∃ x, (halvesL nm).1 = x := ⟨_, rfl⟩
  obtain ⟨lo, hlo⟩ : ∃ x, (halvesL nm).2 = x := ⟨_, rfl⟩
  obtain ⟨q0, e0, hl1⟩ := at_cons hl
  obtain ⟨p1, q1, n1, n2, n3, n4, n5, n6, n7⟩ := name_at hN hl1 (attrs_head hA)
  have hns : ∀ (M' : Nat → Prop) (w' : World) (f' : Bool) (bs' : List UInt8), LowB M' w' L s (i + 1) f' bs' → Calls Tryz.prog 155 #[.pointer (some ⟨L.p, 0, none⟩)] w' fun e w2 => e = .returned (.tuple #[.agg #[.string (bst sp), .string (bst lo)], .bool true]) ∧ LowB M' w2 L s (i + 1 + nm.length) false nm ∧ Fr M' w' w2 := by
    intro M' w' f' bs' h'
    have := nsnameB (i + 1 + nm.length) (halvesL nm).1 (halvesL nm).2 h' p1 q1 n1 n2 n3 n4 n5
    rw [n6, hsp, hlo] at this
    exact this
  rw [hsp, hlo]
  obtain ⟨J, hJ⟩ : ∃ J, s.size - r.length = J := ⟨_, rfl⟩
  rw [hJ]
  obtain ⟨post, hpost⟩ : ∃ post : Ending → World → Prop, StartPost M w L s (bst sp) (bst lo) av em J = post := ⟨_, rfl⟩
  have hfin : ∀ (ga cap : Nat) (cur : Array Value) (f' : Bool) (bs' : List UInt8) (w' : World), Blk w' ga 204 cur → RowA cur cap av → w.heap.size ≤ ga → LowB M w' (if em then { L with nc := true, tcS := bst sp, tcL := bst lo } else L) s J f' bs' → Fr M w w' →
      post (.returned (.tuple #[.iface 62 (.agg #[.string (bst sp), .string (bst lo), .slice (some ⟨ga, 0, none⟩) av.length cap]), .nilIface])) w' := by
    intro ga cap cur f' bs' w' h1 h2 h0 h3 h4
    rw [← hpost]
    exact ⟨ga, cap, cur, f', bs', rfl, h1, h2, h0, h3, h4⟩
  rw [hpost]
  have HFIN := Lib.hid hfin
  have hss := h.parts.2.2.2.1
  obtain ⟨c17, c13, c0⟩ := h.plain hnc
  have hg1 := getcB h q0
  rw [show ((s[i]'q0).toNat : Int) = 60 by rw [e0]; rfl] at hg1
  have HG1 := Lib.hid hg1
  obtain ⟨b1, hb1⟩ : ∃ b, s[i + 1]'(by omega) = b := ⟨_, rfl⟩
  have hfb : firstB b1 = true := by rw [← hb1]; exact n2
  have hu : ∀ (w' : World) (bs' : List UInt8), LowB M w' L s (i + 1) true bs' → Calls Tryz.prog 154 #[.pointer (some ⟨L.p, 0, none⟩)] w' fun e w2 => e = .returned (.tuple #[.int .u8 b1.toNat, .bool true]) ∧ LowB M w2 L s (i + 1 + 1) true bs' ∧ Fr M w' w2 := by
    intro w' bs' h'
    have := mustgetcB h' (by omega : i + 1 < s.size)
    rw [hb1] at this
    exact this
  have hun : ∀ (w' : World) (bs' : List UInt8), LowB M w' L s (i + 1 + 1) true bs' → Calls Tryz.prog 152 #[.pointer (some ⟨L.p, 0, none⟩), .int .u8 b1.toNat] w' fun e w2 => e = .returned (.tuple #[]) ∧ LowB M w2 L s (i + 1) false bs' ∧ Fr M w' w2 := by
    intro w' bs' h'
    have := ungetcB h' (by omega : i + 1 < s.size)
    rw [hb1] at this
    exact this
  have g47 : ((b1.toNat : Int) == 47) = false := u8_ne 47 rfl (fun e => by rw [e] at hfb; exact absurd hfb (by decide))
  have g63 : ((b1.toNat : Int) == 63) = false := u8_ne 63 rfl (fun e => by rw [e] at hfb; exact absurd hfb (by decide))
  have g33 : ((b1.toNat : Int) == 33) = false := u8_ne 33 rfl (fun e => by rw [e] at hfb; exact absurd hfb (by decide))
  have HU := Lib.hid hu
  have HUN := Lib.hid hun
  have HNS := Lib.hid hns
  have HA := Lib.hid hA
  have HT := Lib.hid hT
  have HT4 := Lib.hid hT4
  have HTX := Lib.hid htx
  have HJ := Lib.hid hJ
  have HL7 := Lib.hid n7
  have HQ1 := Lib.hid q1
  have hN0 := h.parts.2.2.1
  have HN0 := Lib.hid hN0
  clear hN0
  clear h hnc hl hN hA hT hT4 htx hsp hlo e0 hl1 p1 n1 n2 n3 n4 n5 n6 n7 hns hJ hpost hfin hg1 hb1 hfb hu hun q0 q1
  go_enter Tryz.func117, Tryz.ntmps117
  go_wp2_with fail
  refine HG1.out.mono ?_
  rintro e w1 ⟨rfl, h1, hf1⟩
  have H1 := Lib.hid h1
  have F1 := Lib.hid hf1
  clear h1 hf1
  go_wp2_with fail
  refine (HU.out _ _ H1.out).mono ?_
  rintro e w2 ⟨rfl, h1, hf1⟩
  have H2 := Lib.hid h1
  have F2 := Lib.hid (F1.out.trans hf1)
  clear h1 hf1 H1 F1
  go_wp2_with fail
  refine (HUN.out _ _ H2.out).mono ?_
  rintro e w3 ⟨rfl, h1, hf1⟩
  have H3 := Lib.hid h1
  have F3 := Lib.hid (F2.out.trans hf1)
  clear h1 hf1 H2 F2
  have h3 : LowB (Sans M [w3.heap.size]) (w3.alloc (.cells #[.string ⟨#[]⟩, .string ⟨#[]⟩] 59)) L s (i + 1) false bs := by
    refine (H3.out.below ((Below.refl _ _).alloc (Nat.le_refl _) _)).sans _ fun x hx => ?_
    rw [List.mem_singleton] at hx
    subst hx
    exact Alien.mk (Blk.new w3 59 _) (by decide)
  have HN3 := Lib.hid (HNS.out _ _ _ _ h3)
  clear h3
  go_wp2_with fail
  refine HN3.out.mono ?_
  rintro e w4 ⟨rfl, h1, hf1⟩
  have hnb := (Blk.new w3 59 #[.string ⟨#[]⟩, .string ⟨#[]⟩]).fr hf1 (not_Sans (by simp))
  have k0 := hnb.cell 0
  have k1 := hnb.cell 1
  have kf := hnb.frozen
  have HNB := Lib.hid hnb
  have H4 := Lib.hid h1
  have F4 : Hid (Fr M w w4) := Lib.hid ((F3.out.trans (Fr.below ((Below.refl w3.heap.size w3).alloc (Nat.le_refl _) _) (Nat.le_refl _) H3.out.parts.2.2.1)).trans (hf1.mono fun x hx => hx.1))
  clear h1 hf1 hnb
  go_wp2_with fail
  obtain ⟨i204, hi204, hz204a, hz204b, hz204c⟩ := info_parts Tryz.info204
  have hnbM : M w3.heap.size := H3.out.parts.2.2.1 _ (Nat.le_refl _)
  have hst0 : StA M w (((w4.setCell ⟨w3.heap.size, 0, none⟩ (.string (bst sp))).setCell ⟨w3.heap.size, 1, none⟩ (.string (bst lo))).alloc (.cells #[] 204)) L s (i + 1 + nm.length) false nm [(w4.heap.size, 204, #[]), (w3.heap.size, 59, #[.string (bst sp), .string (bst lo)])] := by
    have h0 : StA M w w4 L s (i + 1 + nm.length) false nm [(w3.heap.size, 59, #[.string ⟨#[]⟩, .string ⟨#[]⟩])] := ⟨H4.out.mono fun _ hx => hx.1, F4.out, fun x hx => by
      rw [List.mem_singleton] at hx
      subst hx
      exact ⟨HNB.out, (by decide : (59 : TypeId) ≠ 197 ∧ (59 : TypeId) ≠ 190 ∧ (59 : TypeId) ≠ 5)⟩⟩
    have h1 := ((h0.set (by simp) hnbM 0 (.string (bst sp))).set (by simp) hnbM 1 (.string (bst lo))).alloc 204 #[] (by decide)
    simpa [World.setCell] using h1
  have hsz4 : w.heap.size ≤ w4.heap.size := F4.out.size
  have hnb3 : w.heap.size ≤ w3.heap.size := F3.out.size
  have hne4 : w4.heap.size ≠ w3.heap.size := by have := HNB.out.lt; omega
  obtain ⟨W, hW⟩ : ∃ W, ((w4.setCell ⟨w3.heap.size, 0, none⟩ (.string (bst sp))).setCell ⟨w3.heap.size, 1, none⟩ (.string (bst lo))).alloc (.cells #[] 204) = W := ⟨_, rfl⟩
  obtain ⟨nb, hnbe⟩ : ∃ nb, w3.heap.size = nb := ⟨_, rfl⟩
  rw [hW] at hst0 ⊢
  rw [hnbe] at hst0 hnbM hnb3 hne4 ⊢
  have HST0 := Lib.hid hst0
  clear hW hst0 k0 k1 kf HN3 H4 F4 HNB H3 F3 hnbe HNS HU HUN HG1 g47 g63 g33
  go_loopg [4, 5, 29, 30] (s.size - (i + 1 + nm.length)) (fun g bv okv emv atv wr => ∃ (p : Nat) (f' : Bool) (bs' : List UInt8) (al rest : List AttrS) (ga cap : Nat) (cur : Array Value) (b : UInt8), g = s.size - p ∧ bv = .int .u8 b.toNat ∧ okv = .bool true ∧ emv = .bool false ∧ atv = .slice (some ⟨ga, 0, none⟩) al.length cap ∧
    p ≤ s.size ∧ al.length ≤ p ∧ w.heap.size ≤ ga ∧ ga ≠ nb ∧ StA M w wr L s p f' bs' [(ga, 204, cur), (nb, 59, #[.string (bst sp), .string (bst lo)])] ∧ RowA cur cap al ∧ Hid (AttrsR (s.data.toList.drop p) rest em r ∧ av = al ++ rest))
  case atStart => exact ⟨i + 1 + nm.length, false, nm, [], av, w4.heap.size, 0, #[], b1, rfl, rfl, rfl, rfl, rfl, Nat.le_of_lt HQ1.out, by simp, hsz4, hne4, HST0.out, ⟨Nat.le_refl _, by decide, rfl, rfl⟩, Lib.hid ⟨by rw [HL7.out]; exact HA.out, rfl⟩⟩
  case round =>
    obtain ⟨p, f', bs', al, rest, ga, cap, cur, b, hg, rfl, rfl, rfl, rfl, hps, halp, hga, hgn, hst, hrow, HR⟩ := hrel
    have HG := Lib.hid hg
    have HST := Lib.hid hst
    have HROW := Lib.hid hrow
    clear hg hst hrow HST0 hsz4 hne4
    rcases HR.out.1.inv with ⟨bl, hb, hl, hrest, hem⟩ | ⟨bl, hb, hl, hrest, hem⟩ | ⟨bl, n2, q, t2, v, r2, av2, hb, hbne, hN2, hq, htp, hgd, har, hl, hrest⟩
    · obtain ⟨d1, d2, _, d4⟩ := at_app hl (List.cons_ne_nil _ _)
      obtain ⟨x1, x2, x3⟩ := at_cons d1
      obtain ⟨y1, y2, y3⟩ := at_cons x3
      have hJ2 : p + bl.length + 1 + 1 = J := by rw [← HJ.out]; exact drop_len y3 (by omega)
      have HSP := Lib.hid (spaceB (p + bl.length) HST.out.low (Nat.le_add_right _ _) d2 (fun k hk h1 h2 => blank_B (hb _ (d4 k hk h1 h2))) (by rw [x2]; unfold Blank; decide))
      have HX2 := Lib.hid x2
      have HY2 := Lib.hid y2
      have HREST := Lib.hid hrest
      have HEM := Lib.hid hem
      have HJ2 := Lib.hid hJ2
      clear hb hl hrest hem d1 d2 d4 x2 x3 y2 y3 hJ2
      go_wp2_with fail
      refine HSP.out.mono ?_
      rintro e w5 ⟨rfl, h5, hf5⟩
      have HS5 := Lib.hid (HST.out.after h5 hf5)
      have hm := mustgetcB HS5.out.low x1
      rw [show ((s[p + bl.length]'x1).toNat : Int) = 47 by rw [HX2.out]; rfl] at hm
      have HM := Lib.hid hm
      clear h5 hf5 hm HSP
      go_wp2_with fail
      refine HM.out.mono ?_
      rintro e w6 ⟨rfl, h5, hf5⟩
      have HS6 := Lib.hid (HS5.out.after h5 hf5)
      have hm := mustgetcB HS6.out.low y1
      rw [show ((s[p + bl.length + 1]'y1).toNat : Int) = 62 by rw [HY2.out]; rfl] at hm
      have HM := Lib.hid hm
      clear h5 hf5 hm HS5
      go_wp2_with fail
      refine HM.out.mono ?_
      rintro e w7 ⟨rfl, h5, hf5⟩
      have HS7 := Lib.hid (HS6.out.after h5 hf5)
      clear h5 hf5 HM HS6
      have hnbk : Blk w7 nb 59 #[.string (bst sp), .string (bst lo)] := (HS7.out.2.2 (nb, 59, #[.string (bst sp), .string (bst lo)]) (by simp)).1
      have hgak : Blk w7 ga 204 cur := (HS7.out.2.2 (ga, 204, cur) (by simp)).1
      obtain ⟨hMp, _, _, _, _, buf, ⟨lr, nbx, ri, pr, line, ls, off, q1, _⟩, _⟩ := HS7.out.1
      have hpn : L.p ≠ nb := q1.ne hnbk (by decide)
      have hpg : L.p ≠ ga := q1.ne hgak (by decide)
      have k0 := hnbk.cell 0
      have k1 := hnbk.cell 1
      have kf := hnbk.frozen
      have pf := q1.frozen
      have u13 := q1.cell 13
      have u14 := q1.cell 14
      have u15 := q1.cell 15
      unfold lcells at u13 u14 u15
      have HQ1 := Lib.hid q1
      have HNB := Lib.hid hnbk
      have HGA := Lib.hid hgak
      clear q1 hnbk hgak
      go_wp2_with fail
      have hav : av = al := by rw [HR.out.2, HREST.out, List.append_nil]
      have hgb : ∀ (g : Nat) (T : TypeId) (cs : Array Value), w7.heap[g]? = some (Obj.cells cs T (0, 0)) → T ≠ 197 → (((w7.setCell ⟨L.p, 13, none⟩ (.bool true)).setCell ⟨L.p, 14, none⟩ (.string (bst sp))).setCell ⟨L.p, 15, none⟩ (.string (bst lo))).heap[g]? = some (Obj.cells cs T (0, 0)) := by
        intro g T cs hg hT
        have hgp : L.p ≠ g := HQ1.out.ne (t' := T) (cs' := cs) hg (Ne.symm hT)
        rw [Below.heap_setCell _ _ _ _ (Ne.symm hgp), Below.heap_setCell _ _ _ _ (Ne.symm hgp), Below.heap_setCell _ _ _ _ (Ne.symm hgp)]
        exact hg
      rw [← hav]
      refine HFIN.out ga cap cur true bs' _ ?_ ?_ hga ?_ (((HS7.out.2.1.setCell (p := ⟨L.p, 13, none⟩) hMp _).setCell (p := ⟨L.p, 14, none⟩) hMp _).setCell (p := ⟨L.p, 15, none⟩) hMp _)
      · exact hgb ga 204 cur HGA.out (by decide)
      · rw [hav]
        exact HROW.out
      · rw [HEM.out, ← HJ2.out, if_pos rfl]
        exact HS7.out.1.turn (L' := { L with nc := true, tcS := bst sp, tcL := bst lo }) rfl rfl (fun buf lr nb line ls off q => (((q.set 13 _).set 14 _).set 15 _).eq rfl) ((((Fr.refl _ _).setCell (p := ⟨L.p, 13, none⟩) hMp _).setCell (p := ⟨L.p, 14, none⟩) hMp _).setCell (p := ⟨L.p, 15, none⟩) hMp _)
          (fun g T cs hg hT => hgb g T cs hg (by rcases hT with rfl | rfl <;> decide))
    · obtain ⟨d1, d2, _, d4⟩ := at_app hl (List.cons_ne_nil _ _)
      obtain ⟨x1, x2, x3⟩ := at_cons d1
      have hJ2 : p + bl.length + 1 = J := by rw [← HJ.out]; exact drop_len x3 (by omega)
      have HSP := Lib.hid (spaceB (p + bl.length) HST.out.low (Nat.le_add_right _ _) d2 (fun k hk h1 h2 => blank_B (hb _ (d4 k hk h1 h2))) (by rw [x2]; unfold Blank; decide))
      have HX2 := Lib.hid x2
      have HREST := Lib.hid hrest
      have HEM := Lib.hid hem
      have HJ2 := Lib.hid hJ2
      clear hb hl hrest hem d1 d2 d4 x2 x3 hJ2
      go_wp2_with fail
      refine HSP.out.mono ?_
      rintro e w5 ⟨rfl, h5, hf5⟩
      have HS5 := Lib.hid (HST.out.after h5 hf5)
      have hm := mustgetcB HS5.out.low x1
      rw [show ((s[p + bl.length]'x1).toNat : Int) = 62 by rw [HX2.out]; rfl] at hm
      have HM := Lib.hid hm
      clear h5 hf5 hm HSP
      go_wp2_with fail
      refine HM.out.mono ?_
      rintro e w6 ⟨rfl, h5, hf5⟩
      have HS6 := Lib.hid (HS5.out.after h5 hf5)
      clear h5 hf5 HS5 HM
      have hnbk : Blk w6 nb 59 #[.string (bst sp), .string (bst lo)] := (HS6.out.2.2 (nb, 59, #[.string (bst sp), .string (bst lo)]) (by simp)).1
      have hgak : Blk w6 ga 204 cur := (HS6.out.2.2 (ga, 204, cur) (by simp)).1
      have k0 := hnbk.cell 0
      have k1 := hnbk.cell 1
      have HGA := Lib.hid hgak
      clear hnbk hgak
      go_wp2_with fail
      have hav : av = al := by rw [HR.out.2, HREST.out, List.append_nil]
      rw [← hav]
      refine HFIN.out ga cap cur true bs' _ HGA.out ?_ hga ?_ HS6.out.2.1
      · rw [hav]
        exact HROW.out
      · rw [HEM.out, ← HJ2.out, if_neg (by decide)]
        exact HS6.out.1
    · obtain ⟨d1, d2, _, d4⟩ := at_app hl (by obtain ⟨c, t, e, _⟩ := hN2.first; rw [e]; exact List.cons_ne_nil _ _)
      obtain ⟨P, hP⟩ : ∃ P, p + bl.length = P := ⟨_, rfl⟩
      rw [hP] at d1 d2
      obtain ⟨z1, z2, z3, z4, z5, z6, z7, z8, z9⟩ := name_at hN2 d1 ⟨61, _, rfl, by decide, by decide⟩
      obtain ⟨y1, y2, y3⟩ := at_cons z9
      obtain ⟨x1, x2, x3⟩ := at_cons y3
      have HSP := Lib.hid (spaceB P HST.out.low (by omega) d2 (fun k hk h1 h2 => blank_B (hb _ (d4 k hk h1 (by rw [hP]; exact h2)))) (first_blank z4))
      obtain ⟨c, hc⟩ : ∃ c, s[P]'d2 = c := ⟨_, rfl⟩
      have hcf : firstB c = true := by rw [← hc]; exact z4
      have HNS2 : Hid (∀ (M' : Nat → Prop) (w' : World) (f' : Bool) (bs' : List UInt8), LowB M' w' L s P f' bs' → Calls Tryz.prog 155 #[.pointer (some ⟨L.p, 0, none⟩)] w' fun e w2 => e = .returned (.tuple #[.agg #[.string (bst (halvesL n2).1), .string (bst (halvesL n2).2)], .bool true]) ∧ LowB M' w2 L s (P + n2.length) false n2 ∧ Fr M' w' w2) :=
        Lib.hid (fun M' w' f' bs' h' => by
          have := nsnameB (P + n2.length) (halvesL n2).1 (halvesL n2).2 h' z1 z2 z3 z4 z5 z6 z7
          rw [z8] at this
          exact this)
      obtain ⟨hs, hhs⟩ : ∃ x, bst (halvesL n2).1 = x := ⟨_, rfl⟩
      obtain ⟨hlo, hhl⟩ : ∃ x, bst (halvesL n2).2 = x := ⟨_, rfl⟩
      rw [hhs, hhl] at HNS2
      have HAO : Hid (attrOf n2 v = ⟨hs, hlo, bst v⟩) := Lib.hid (by unfold attrOf; rw [hhs, hhl])
      have HC := Lib.hid hc
      have HY2 := Lib.hid y2
      have HX2 := Lib.hid x2
      have HX3 := Lib.hid x3
      have HQ := Lib.hid hq
      have HTP := Lib.hid htp
      have HGD := Lib.hid hgd
      have HAR := Lib.hid har
      have HREST := Lib.hid hrest
      have hn2 : n2 ≠ [] := by obtain ⟨c, t, e, _⟩ := hN2.first; rw [e]; exact List.cons_ne_nil _ _
      have HN2 := Lib.hid hn2
      have hpP : p + 1 ≤ P := by have := List.length_pos_iff.2 hbne; omega
      have HZ4 := Lib.hid (first_blank hcf)
      obtain ⟨f47, f62, f63, f33⟩ := first_not hcf
      have g47 : ((c.toNat : Int) == 47) = false := u8_ne 47 rfl f47
      have g62 : ((c.toNat : Int) == 62) = false := u8_ne 62 rfl f62
      clear hb hl hrest hN2 hq htp hgd har hbne d1 d4 z1 z3 z4 z5 z6 z7 z8 z9 y2 y3 x2 x3 hc hcf hhs hhl hn2 f47 f62 f63 f33 hP
      go_wp2_with fail
      refine HSP.out.mono ?_
      rintro e w5 ⟨rfl, h5, hf5⟩
      have HS5 := Lib.hid (HST.out.after h5 hf5)
      have hm := mustgetcB HS5.out.low d2
      rw [HC.out] at hm
      have HM := Lib.hid hm
      clear h5 hf5 hm HSP
      go_wp2_with fail
      refine HM.out.mono ?_
      rintro e w6 ⟨rfl, h5, hf5⟩
      have HS6 := Lib.hid (HS5.out.after h5 hf5)
      have hm := ungetcB HS6.out.low d2
      rw [HC.out] at hm
      have HM := Lib.hid hm
      clear h5 hf5 hm HS5
      go_wp2_with fail
      refine HM.out.mono ?_
      rintro e w7 ⟨rfl, h5, hf5⟩
      have HS7 := Lib.hid (HS6.out.after h5 hf5)
      have HS8 := Lib.hid (HS7.out.alloc 204 #[.string ⟨#[]⟩, .string ⟨#[]⟩, .string ⟨#[]⟩] (by decide))
      have HM := Lib.hid (HNS2.out _ _ _ _ HS8.out.low)
      clear h5 hf5 HS6
      go_wp2_with fail
      refine HM.out.mono ?_
      rintro e w9 ⟨rfl, h5, hf5⟩
      have hs9 := HS8.out.after h5 hf5
      have habM : M w7.heap.size := HS7.out.1.parts.2.2.1 _ (Nat.le_refl _)
      have habl : ∀ x ∈ [ga, nb], x < w7.heap.size := by
        intro x hx
        exact HS7.out.lt x (by simpa using hx)
      have habw : w.heap.size ≤ w7.heap.size := HS7.out.2.1.size
      obtain ⟨ab, habe⟩ : ∃ ab, w7.heap.size = ab := ⟨_, rfl⟩
      rw [habe] at hs9 habM habl habw
      have habn : ab ∉ [ga, nb] := fun h => Nat.lt_irrefl _ (habl ab h)
      have HS9 := Lib.hid hs9
      have hbk := (hs9.2.2 (ab, 204, #[.string ⟨#[]⟩, .string ⟨#[]⟩, .string ⟨#[]⟩]) (by simp)).1
      have a0 := hbk.cell 0
      have a1 := hbk.cell 1
      have af := hbk.frozen
      have HS10 := Lib.hid ((hs9.set (by simpa using habn) habM 0 (.string hs)).set (by simpa using habn) habM 1 (.string hlo))
      have hsp2 := spaceB (P + n2.length) HS10.out.low (Nat.le_refl _) y1 (fun k hk h1 h2 => by omega) (by rw [HY2.out]; unfold Blank; decide)
      have HSP := Lib.hid hsp2
      clear h5 hf5 hs9 hbk hsp2 HM HS8 HS7
      rw [habe]
      go_wp2_with fail
      refine HSP.out.mono ?_
      rintro e w10 ⟨rfl, h5, hf5⟩
      have HS11 := Lib.hid (HS10.out.after h5 hf5)
      have hm := mustgetcB HS11.out.low y1
      rw [show ((s[P + n2.length]'y1).toNat : Int) = 61 by rw [HY2.out]; rfl] at hm
      have HM := Lib.hid hm
      clear h5 hf5 hm HSP HS10 a0 a1 af
      go_wp2_with fail
      refine HM.out.mono ?_
      rintro e w11 ⟨rfl, h5, hf5⟩
      have HS12 := Lib.hid (HS11.out.after h5 hf5)
      have hsp2 := spaceB (P + n2.length + 1) HS12.out.low (Nat.le_refl _) x1 (fun k hk h1 h2 => by omega) (by rw [HX2.out]; rcases HQ.out with rfl | rfl <;> (unfold Blank; decide))
      have HSP := Lib.hid hsp2
      clear h5 hf5 hsp2 HM HS11
      go_wp2_with fail
      refine HSP.out.mono ?_
      rintro e w12 ⟨rfl, h5, hf5⟩
      have hs13 := HS12.out.after h5 hf5
      obtain ⟨sfx, hsfx⟩ := txp_suffix HTP.out
      have hx3 := HX3.out
      rw [hsfx] at hx3
      obtain ⟨hJ1, hJ2⟩ := drop_suffix hx3 x1
      obtain ⟨hj3, hj4, hj5⟩ := at_cons hJ1
      have hje : s.size - (q :: r2).length + 1 = s.size - r2.length := by have h9 := hJ2; simp only [List.length_cons] at h9 hj3 ⊢; omega
      rw [hje] at hj5
      obtain ⟨je, hjeq⟩ : ∃ je, s.size - r2.length = je := ⟨_, rfl⟩
      rw [hjeq] at hje hj5
      have hjP : P + n2.length + 2 ≤ je ∧ je ≤ s.size := by omega
      have hav : Calls Tryz.prog 165 #[.pointer (some ⟨L.p, 0, none⟩)] w12 (TxPost (Sans M [ab, ga, nb]) w12 L s je true v) := by
        refine attrval_any q (Sans M [ab, ga, nb]) w12 L s (P + n2.length + 1) je false n2 v HQ.out hs13.low x1 HX2.out (fun w' hl' hf' => ?_)
        by_cases hv : v = []
        · have hjj : P + n2.length + 1 + 1 + 1 = je := by
            have := txp_nil (hv ▸ HTP.out)
            have hx4 := HX3.out
            rw [this] at hx4
            obtain ⟨w1, _, w3⟩ := at_cons hx4
            rw [← hjeq]
            exact drop_len w3 (by omega)
          have hx5 : s[P + n2.length + 1 + 1]'(by omega) = q := by
            have := txp_nil (hv ▸ HTP.out)
            have hx4 := HX3.out
            rw [this] at hx4
            exact (at_cons hx4).2.1
          rw [hv, ← hjj]
          exact text_empty q _ w' L s _ true n2 HQ.out hl' HN2.out (by omega) hx5
        · have hT' : Utf8Tabs 4 5 w' := utf8_fr HT.out (hs13.2.1.trans (hf'.mono fun x hx => hx.1)) HT4.out
          exact HTX.out q _ je true (s.size - (q :: r2).length) _ w' _ true n2 v (q :: r2) (.inr ⟨HQ.out, rfl, hje.symm, rfl⟩) hl' hT' ⟨fun h => HT4.out.1 h.1, fun h => HT4.out.2 h.1⟩ (by rw [HX3.out]; exact HTP.out) HGD.out hJ1 (by omega) hv
      have HS13 := Lib.hid hs13
      have HAV := Lib.hid hav
      have HJ5 := Lib.hid hj5
      clear h5 hf5 hs13 hsfx hx3 hJ1 hJ2 hj3 hj4 hj5 hje hjeq hav HSP HS12
      have hnil : ∀ (W : World) (g cap : Nat), (binOp .eql 77 (.slice (some ⟨g, 0, none⟩) v.length cap) (.slice none 0 0)).run Tryz.prog W = .ok (.bool false) W := fun W g cap => Lib.run_eql_slice_some_nil W _ _ _ Tryz.underlying77
      go_wp2_with fail
      refine HAV.out.mono ?_
      rintro e w13 ⟨g, gcap, rfl, hbuf, h5, hf5⟩
      have hs14 := HS13.out.after h5 hf5
      have hbk := (hs14.2.2 (ab, 204, #[.string hs, .string hlo, .string ⟨#[]⟩]) (by simp)).1
      have a0 := hbk.cell 0
      have a1 := hbk.cell 1
      have a2 := hbk.cell 2
      have af := hbk.frozen
      have hconv : (convert 77 9 (.slice (some ⟨g, 0, none⟩) v.length gcap)).run Tryz.prog w13 = .ok (.string (bst v)) w13 := by
        rcases hbuf.cases with ⟨h1, _⟩ | ⟨g', cap', cur', h1, hg', _, _, _, ht'⟩
        · cases h1
        · cases h1
          exact run_piece_string (off := 0) hg' ht' (by simp) (Nat.zero_le _) rfl
      have HS14 := Lib.hid hs14
      clear h5 hf5 hs14 hbuf hbk HAV HS13
      clear a0 a1
      go_upto_region 195 with fail
      obtain ⟨V, hV⟩ : ∃ V, w13.setCell ⟨ab, 2, none⟩ (.string (bst v)) = V := ⟨_, rfl⟩
      have hs15 : StA M w V L s je true v [(ab, 204, #[.string hs, .string hlo, .string (bst v)]), (ga, 204, cur), (nb, 59, #[.string (bst sp), .string (bst lo)])] := by rw [← hV]; exact HS14.out.set (by simpa using habn) habM 2 _
      rw [hV]
      have hbk := (hs15.2.2 (ab, 204, #[.string hs, .string hlo, .string (bst v)]) (by simp)).1
      have a0 := hbk.cell 0
      have a1 := hbk.cell 1
      have a2 := hbk.cell 2
      have HOWN : Hid (V.ownsRow 0 204 3 (.slice (some ⟨ga, 0, none⟩) al.length cap) al.length (al.flatMap AttrS.cells)) := Lib.hid (HROW.out.attrs (hs15.2.2 (ga, 204, cur) (by simp)).1)
      have HS15 := Lib.hid hs15
      have hall : al.length ≤ 1000000 := by have := HS15.out.1.parts.2.2.2.1; omega
      clear hs15 hbk hV HS14
      go_wp2_with ((at_builtin; refine wpList_append_where _ rfl _ _ 60 rfl 0 204 i204 (.agg #[.string ⟨#[]⟩, .string ⟨#[]⟩, .string ⟨#[]⟩]) 3 48 Tryz.underlying60 hi204 hz204a hz204b hz204c rfl (by decide) _ _ _ rfl (HOWN.out.alloc _) ⟨V.heap.size, 0, none⟩ 1 1 [.string hs, .string hlo, .string (bst v)] rfl rfl ?c1 ?c2 ?c3 ?c4 ?c5 ?_))
      case c2 => simp [Value.oneCell']
      case c3 => unfold maxLen; omega
      case c4 => omega
      intro v2 w14 hown2 hgrow hat2
      have hsU := (HS15.out.alloc 204 #[.string hs, .string hlo, .string (bst v)] (by decide))
      obtain ⟨g2, cap2, cur2, rfl, hs16, hr16, hg2, hgn2⟩ := StA.grow (X := [_, _]) hsU HN0.out hga hgn (a := ⟨hs, hlo, bst v⟩) hown2 hgrow hat2
      have HS16 := Lib.hid hs16
      have HR16 := Lib.hid hr16
      clear hs16 hr16 hown2 hgrow hat2 hsU a0 a1 a2
      go_wp2_with fail
      go_roundg (s.size - je)
      case rel => exact ⟨je, true, v, al ++ [⟨hs, hlo, bst v⟩], av2, g2, cap2, cur2, 61, rfl, rfl, rfl, rfl, rfl, hjP.2, by rw [List.length_append, List.length_singleton]; omega, hg2, hgn2, HS16.out, HR16.out, Lib.hid ⟨by rw [HJ5.out]; exact HAR.out, by rw [HR.out.2, HREST.out, HAO.out]; simp⟩⟩
      case measure => have := HG.out; omega
end Go.Proofs.YtlljphipglgjiaaGreatDoor
