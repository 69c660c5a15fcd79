/-
  zxml's Decoder.rawToken: character data, over a contract of text.
  zxml's Decoder.Token as its callers see it: texts, comments, ends.
  zxml's Decoder.Token as its callers see it: an element's start.
  One token in an element, and what is left: what a decoder's callers go by.
  zxml's Decoder.Skip: it passes over what stands in an element, and its end.
  restoreAttrNamespaces: the row of attributes alone may turn.
-/
import Derived.Test.YtlljphipglgjiaaGreatDoorXmRaw
import Derived.Test.YtlljphipglgjiaaGreatDoorXmDec
import Derived.Test.YtlljphipglgjiaaGreatDoorXmAssert
import Derived.Test.YtlljphipglgjiaaGreatDoorXmRawS
import Derived.Test.YtlljphipglgjiaaGreatDoorXmTokS
import Derived.Deep.LoopGhost
namespace Go.Proofs.YtlljphipglgjiaaGreatDoor
open Go.RowKit Go.Lib

set_option maxRecDepth 100000 in
set_option maxHeartbeats 4000000 in
/-- Text. -/
theorem raw_text (M : Nat → Prop) (w : World) (L : LS) (s : ByteArray) (i je : Nat) (f : Bool) (bs v : List UInt8) (h : LowB M w L s i f bs) (hnc : L.nc = false) (hi : i < s.size) (h60 : s[i] ≠ 60)
    (htx : ∀ w' : World, LowB M w' L s i false bs → Fr M w w' → Calls Tryz.prog 153 #[.pointer (some ⟨L.p, 0, none⟩), .int .i64 (-1), .bool false] w' (TxPost M w' L s je false v)) :
    Calls Tryz.prog 117 #[.pointer (some ⟨L.p, 0, none⟩)] w fun e w' => ∃ g cap, e = .returned (.tuple #[.iface 135 (.slice (some ⟨g, 0, none⟩) v.length cap), .nilIface]) ∧ BufH w' (.slice (some ⟨g, 0, none⟩) v.length cap) v ∧ LowB M w' L s je false v ∧ Fr M w w' := by
  obtain ⟨post, hpost⟩ : ∃ post : Ending → World → Prop, (fun e w' => ∃ g cap, e = .returned (.tuple #[.iface 135 (.slice (some ⟨g, 0, none⟩) v.length cap), .nilIface]) ∧ BufH w' (.slice (some ⟨g, 0, none⟩) v.length cap) v ∧ LowB M w' L s je false v ∧ Fr M w w') = post := ⟨_, rfl⟩
  have hfin : ∀ (g cap : Nat) (w1 w' : World), Fr M w w1 → BufH w' (.slice (some ⟨g, 0, none⟩) v.length cap) v → LowB M w' L s je false v → Fr M w1 w' → post (.returned (.tuple #[.iface 135 (.slice (some ⟨g, 0, none⟩) v.length cap), .nilIface])) w' := by
    intro g cap w1 w' h1 h2 h3 h4
    rw [← hpost]
    exact ⟨g, cap, rfl, h2, h3, h1.trans h4⟩
  rw [hpost]
  have HFIN := Lib.hid hfin
  obtain ⟨c17, c13, c0⟩ := h.plain hnc
  have H := Lib.hid h
  have HTX := Lib.hid htx
  have e60 : ((s[i].toNat : Int) != 60) = true := by
    rw [bne_iff_ne]
    intro e
    exact h60 (UInt8.toNat_inj.1 (by have h2 : (60 : UInt8).toNat = 60 := rfl; omega))
  have hnil : ∀ (W : World) (g cap : Nat), (binOp .eql 77 (.slice (some ⟨g, 0, none⟩) v.length cap) (.slice none 0 0)).run Tryz.prog W = .ok (.bool false) W := fun W g cap => Lib.run_eql_slice_some_nil W _ _ _ Tryz.underlying77
  clear hpost hfin h hnc h60 htx
  go_enter Tryz.func117, Tryz.ntmps117
  go_wp2_with fail
  refine (getcB H.out hi).mono ?_
  rintro e w1 ⟨rfl, h1, hf1⟩
  have H1 := Lib.hid h1
  have F1 := Lib.hid hf1
  clear h1 hf1
  go_wp2_with fail
  refine (ungetcB H1.out hi).mono ?_
  rintro e w2 ⟨rfl, h1, hf1⟩
  have HT := Lib.hid (HTX.out w2 h1 (F1.out.trans hf1))
  have F2 := Lib.hid (F1.out.trans hf1)
  clear h1 hf1
  go_wp2_with fail
  refine HT.out.mono ?_
  rintro e w3 ⟨g, cap, rfl, hb, hl, hf⟩
  have HP := Lib.hid (HFIN.out g cap w2 w3 F2.out hb hl hf)
  clear hb hl hf
  go_wp2_with fail
  exact HP.out
end Go.Proofs.YtlljphipglgjiaaGreatDoor

namespace Go.Proofs.YtlljphipglgjiaaGreatDoor
open Go.RowKit Go.Lib

def TextAll (s : ByteArray) : Prop := ∀ L, TextC L s
section
variable {M : Nat → Prop} {w w' : World} {P m : Nat} {s : ByteArray} {i : Nat} {fr : List (ByteArray × ByteArray × NsF)} {F : NsF} {bud : Nat}
theorem DecW.size {owe : Option (ByteArray × ByteArray)} (h : DecW M w P m s i owe fr F bud) : s.size ≤ 1000000 := by
  obtain ⟨L, f, bs, st, fl, n, _, _, _, _, hd, _⟩ := h
  exact hd.1.parts.2.2.2.1
theorem DecW.new {owe : Option (ByteArray × ByteArray)} (h : DecW M w P m s i owe fr F bud) : New M w := by
  obtain ⟨L, f, bs, st, fl, n, _, _, _, _, hd, _⟩ := h
  exact hd.1.parts.2.2.1
theorem bare_sub {st fl : List (Nat × SRec)} {x : Nat} (h : Bare M st fl x) : M x := h.1
theorem StOk.drop {st : List (Nat × SRec)} (h : StOk st) : StOk (dropNs st) := fun p hp => h p ((List.dropWhile_sublist _).mem hp)

/-- A text. -/
theorem token_text (c : UInt8) (l v t : List UInt8) (h : DecW M w P m s i none fr F bud) (hT : Utf8Tabs 4 5 w) (hT4 : ¬ M 4 ∧ ¬ M 5) (htx : TextAll s) (hl : s.data.toList.drop i = c :: l) (hc : c ≠ 60) (htp : TxP 60 0 0 (c :: l) v (60 :: t)) (hg : GoodT v) (hv : v ≠ []) :
    Calls Tryz.prog 70 #[.pointer (some ⟨P, 0, none⟩)] w fun e w' => ∃ x, e = .returned (.tuple #[.iface 135 x, .nilIface]) ∧ (DecW M w' P m s (s.size - (60 :: t).length) none fr F bud ∧ Fr M w w' ∧ ∃ g cap, x = .slice (some ⟨g, 0, none⟩) v.length cap ∧ BufH w' x v) := by
  obtain ⟨L, f, bs, st, fl, n, rfl, hm, hnc, howe, hd, hns, hmM, hst, hfr, hbud⟩ := h
  obtain ⟨hi, hsi, _⟩ := at_cons hl
  obtain ⟨a, ha⟩ := txp_suffix htp
  obtain ⟨j1, j2⟩ := drop_suffix (hl.trans ha) (Nat.le_of_lt hi)
  have hT4' : ¬ Bare M st fl 4 ∧ ¬ Bare M st fl 5 := ⟨fun h => hT4.1 h.1, fun h => hT4.2 h.1⟩
  refine token_plain w L.p L.stk 135 (.inl rfl) _ (hd.tokAt hfr) ((raw_text (Bare M st fl) w L s i (s.size - (60 :: t).length) f bs v hd.bare hnc hi (by rw [hsi]; exact hc) fun w2 h2 hf2 => ?_).mono ?_)
  · exact htx L 60 (-1) _ false (s.size - (60 :: t).length) _ w2 i false bs v (60 :: t) (.inl ⟨rfl, rfl, rfl, rfl⟩) h2 (utf8_fr hT hf2 hT4') hT4' (by rw [hl]; exact htp) hg j1 (Nat.sub_le _ _) hv
  · rintro e w2 ⟨g, cap, rfl, hb, h2, hf2⟩
    exact ⟨_, rfl, ⟨⟨L, false, v, st, fl, n, rfl, hm, hnc, howe, hd.back h2 hf2 rfl rfl rfl, hns.fr hf2 fun h => hmM h.1, hmM, hst, hfr, hbud⟩, hf2.mono fun _ h => h.1, g, cap, rfl, hb⟩, (h2.plain hnc).2.2⟩
/-- A comment. -/
theorem token_com (c t : List UInt8) (h : DecW M w P m s i none fr F bud) (hl : s.data.toList.drop i = 60 :: 33 :: 45 :: 45 :: (c ++ 45 :: 45 :: 62 :: t)) (hc : ComOK c) :
    Calls Tryz.prog 70 #[.pointer (some ⟨P, 0, none⟩)] w fun e w' => ∃ x, e = .returned (.tuple #[.iface 259 x, .nilIface]) ∧ (DecW M w' P m s (s.size - t.length) none fr F bud ∧ Fr M w w') := by
  obtain ⟨L, f, bs, st, fl, n, rfl, hm, hnc, howe, hd, hns, hmM, hst, hfr, hbud⟩ := h
  obtain ⟨hi, _, _⟩ := at_cons hl
  obtain ⟨_, j2⟩ := drop_suffix (a := 60 :: 33 :: 45 :: 45 :: (c ++ [45, 45, 62])) (r := t) (hl.trans (by simp)) (Nat.le_of_lt hi)
  refine token_plain w L.p L.stk 259 (.inr (.inl rfl)) _ (hd.tokAt hfr) ((raw_com (Bare M st fl) w L s i f bs c t hd.bare hnc hl hc).mono ?_)
  rintro e w2 ⟨v, rfl, ⟨bs2, h2⟩, hf2⟩
  have e1 : i + c.length + 7 = s.size - t.length := by rw [← j2]; simp; omega
  rw [e1] at h2
  exact ⟨_, rfl, ⟨⟨L, true, bs2, st, fl, n, rfl, hm, hnc, howe, hd.back h2 hf2 rfl rfl rfl, hns.fr hf2 fun h => hmM h.1, hmM, hst, hfr, hbud⟩, hf2.mono fun _ h => h.1⟩, (h2.plain hnc).2.2⟩

/-- Behind an end, as callers see it. -/
def EndW (M : Nat → Prop) (w : World) (P m : Nat) (s : ByteArray) (j : Nat) (fr : List (ByteArray × ByteArray × NsF)) (F F0 : NsF) (bud : Nat) (sp lo : ByteArray) (e : Ending) (w' : World) : Prop :=
  e = .returned (.tuple #[.iface 128 (.agg #[.string (xlate F true sp lo), .string lo]), .nilIface]) ∧ DecW M w' P m s j none fr F0 bud ∧ Fr (fun y => M y ∨ y = m) w w'
/-- An element's end. -/
theorem token_end (nm b r : List UInt8) (F0 : NsF) (h : DecW M w P m s i none ((bst (halvesL nm).1, bst (halvesL nm).2, F0) :: fr) F bud) (hb : bud < maxLen) (hN : GoodN nm) (hbl : Blanks b) (hl : s.data.toList.drop i = 60 :: 47 :: (nm ++ (b ++ 62 :: r))) :
    Calls Tryz.prog 70 #[.pointer (some ⟨P, 0, none⟩)] w (EndW M w P m s (s.size - r.length) fr F F0 bud (bst (halvesL nm).1) (bst (halvesL nm).2)) := by
  have hss := h.size
  obtain ⟨L, f, bs, st, fl, n, rfl, hm, hnc, howe, hd, hns, hmM, hst, hfr, hbud⟩ := h
  obtain ⟨hi, h60, hl1⟩ := at_cons hl
  obtain ⟨hi1, h47, hl2⟩ := at_cons hl1
  obtain ⟨p1, q1, n1, n2, n3, n4, n5, n6, n7⟩ := name_at hN hl2 (head_not_name hbl ⟨by decide, by decide⟩)
  obtain ⟨d1, d2, _, d4⟩ := at_app n7 (List.cons_ne_nil _ _)
  obtain ⟨x1, x2, x3⟩ := at_cons d1
  obtain ⟨bk, ok, st', rfl, hun, hfr'⟩ := hfr
  simp only [List.length_cons] at hbud
  have hsp : (bst (halvesL nm).1).size ≤ maxLen := by
    have h1 := (halves_le nm).1
    rw [bst_size]
    unfold maxLen
    omega
  refine (token_pop M w L.p L.stk s L (i + 1 + 1 + nm.length + b.length + 1) true (sub s (i + 1 + 1) (i + 1 + 1 + nm.length)) bk st' fl m n F (bst (halvesL nm).1) (bst (halvesL nm).2) ok (hd.tokAt (fr := (bst (halvesL nm).1, bst (halvesL nm).2, F0) :: fr) ⟨bk, ok, st', rfl, hun, hfr'⟩)
    hd.1.parts.2.2.1 rfl hm hmM hsp (fun p hp => hst p (by simp [hp])) (by omega) ((raw_end (Bare M ((bk, ⟨0, bst (halvesL nm).1, bst (halvesL nm).2, ok⟩) :: st') fl) w L s i (i + 1 + 1 + nm.length) (i + 1 + 1 + nm.length + b.length) f bs _ _ hd.bare hnc p1 (Nat.le_add_right _ _) x1 h60 h47 n1 n2 n3 n4 n5
      (fun k hk h1 h2 => blank_B (hbl _ (d4 k hk h1 h2))) x2).mono ?_)).mono ?_
  · rintro e w1 ⟨rfl, h2, hf2⟩
    exact ⟨rfl, hd.back h2 hf2 rfl rfl rfl, hns.fr hf2 fun h => hmM h.1, hf2.mono fun _ h => h.1⟩
  · rintro e w2 ⟨rfl, fl', stk, free, n', g1, g2, g3, g4⟩
    have e1 : i + 1 + 1 + nm.length + b.length + 1 = s.size - r.length := drop_len x3 (by omega)
    rw [e1] at g1
    rw [hun] at g2
    exact ⟨rfl, ⟨{ L with stk := stk, free := free }, true, _, _, fl', n', rfl, hm, hnc, howe, g1, g2, hmM, StOk.drop (fun p hp => hst p (by simp [hp])), hfr', by omega⟩, g4⟩
/-- The second half of an empty element. -/
theorem token_close (sp lo : ByteArray) (F0 : NsF) (h : DecW M w P m s i (some (sp, lo)) ((sp, lo, F0) :: fr) F bud) (hb : bud < maxLen) (hsp : sp.size ≤ maxLen) :
    Calls Tryz.prog 70 #[.pointer (some ⟨P, 0, none⟩)] w (EndW M w P m s i fr F F0 bud sp lo) := by
  obtain ⟨L, f, bs, st, fl, n, rfl, hm, hnc, howe, hd, hns, hmM, hst, hfr, hbud⟩ := h
  obtain ⟨bk, ok, st', rfl, hun, hfr'⟩ := hfr
  obtain ⟨t1, t2⟩ := howe (sp, lo) rfl
  simp only [List.length_cons] at hbud
  refine (token_pop M w L.p L.stk s { L with nc := false } i f bs bk st' fl m n F sp lo ok (hd.tokAt (fr := (sp, lo, F0) :: fr) ⟨bk, ok, st', rfl, hun, hfr'⟩) hd.1.parts.2.2.1 rfl hm hmM hsp (fun p hp => hst p (by simp [hp])) (by omega)
    ((raw_close (Bare M ((bk, ⟨0, sp, lo, ok⟩) :: st') fl) w L s i f bs sp lo hd.bare hnc t1 t2).mono ?_)).mono ?_
  · rintro e w1 ⟨rfl, h2, hf2⟩
    have hf3 : Fr (Bare M ((bk, ⟨0, sp, lo, ok⟩) :: st') fl) w w1 := hf2.mono fun x hx => by rw [hx]; exact hd.bare.parts.1
    exact ⟨rfl, hd.back h2 hf3 rfl rfl rfl, hns.fr hf3 fun h => hmM h.1, hf3.mono fun _ h => h.1⟩
  · rintro e w2 ⟨rfl, fl', stk, free, n', g1, g2, g3, g4⟩
    rw [hun] at g2
    exact ⟨rfl, ⟨{ L with nc := false, stk := stk, free := free }, f, bs, _, fl', n', rfl, hm, rfl, (fun p hp => nomatch hp), g1, g2, hmM, StOk.drop (fun p hp => hst p (by simp [hp])), hfr', by omega⟩, g4⟩
end
end Go.Proofs.YtlljphipglgjiaaGreatDoor

namespace Go.Proofs.YtlljphipglgjiaaGreatDoor
open Go.RowKit Go.Lib

theorem entR_len {nm o : List UInt8} (h : EntR nm o) : o.length ≤ 4 := by
  cases h with
  | name => simp
  | dec => exact enc_len _
  | hex => exact enc_len _
theorem txp_len {q b0 b1 : UInt8} {l v r : List UInt8} (h : TxP q b0 b1 l v r) : v.length + 4 * r.length ≤ 4 * l.length := by
  induction h with
  | stop => simp
  | byte => simp only [List.length_cons] at *; omega
  | ref _ _ t o t2 v r _ h2 _ ih =>
    obtain ⟨nm, rfl, _, he⟩ := ref_inv h2
    have := entR_len he
    simp only [List.length_cons, List.length_append] at *
    omega
theorem attrs_suffix {t : List UInt8} {av : List AttrS} {em : Bool} {r : List UInt8} (h : AttrsR t av em r) : ∃ a, t = a ++ r ∧ av.length + 1 ≤ a.length := by
  induction h with
  | empty b r => exact ⟨b ++ [47, 62], by simp, by simp⟩
  | close b r => exact ⟨b ++ [62], by simp, by simp⟩
  | attr b nm q t v r2 av em r _ hb _ _ htp _ _ ih =>
    obtain ⟨a, rfl, h2⟩ := ih
    obtain ⟨a2, rfl⟩ := txp_suffix htp
    exact ⟨b ++ (nm ++ 61 :: q :: (a2 ++ q :: a)), by simp, by simp; omega⟩
theorem attrs_small {t : List UInt8} {av : List AttrS} {em : Bool} {r : List UInt8} (h : AttrsR t av em r) : ∀ a ∈ av, a.sp.size ≤ 4 * t.length ∧ a.loc.size ≤ 4 * t.length ∧ a.val.size ≤ 4 * t.length := by
  induction h with
  | empty => intro a ha; cases ha
  | close => intro a ha; cases ha
  | attr b nm q t v r2 av em r _ hb _ _ htp _ har ih =>
    intro a ha
    have hl := txp_len htp
    obtain ⟨a2, ha2⟩ := txp_suffix htp
    have hlen := congrArg List.length ha2
    have hh := halves_le nm
    simp only [List.length_cons, List.length_append] at *
    rcases List.mem_cons.1 ha with rfl | ha
    · unfold attrOf
      dsimp only
      rw [bst_size, bst_size, bst_size]
      omega
    · have := ih a ha
      omega

section
variable {M : Nat → Prop} {w w' : World} {P m : Nat} {s : ByteArray} {i : Nat} {fr : List (ByteArray × ByteArray × NsF)} {F : NsF} {bud : Nat}
/-- Behind a start, as callers see it. -/
def StartW (M : Nat → Prop) (w : World) (P m : Nat) (s : ByteArray) (j : Nat) (fr : List (ByteArray × ByteArray × NsF)) (F : NsF) (bud : Nat) (sp lo : ByteArray) (av : List AttrS) (em : Bool) (e : Ending) (w' : World) : Prop :=
  ∃ (ga cap : Nat) (cur : Array Value), e = .returned (.tuple #[.iface 62 (.agg #[.string (xlate (nsAll F av) true sp lo), .string lo, .slice (some ⟨ga, 0, none⟩) av.length cap]), .nilIface]) ∧ Blk w' ga 204 cur ∧ RowS cur cap av.length ∧ w.heap.size ≤ ga ∧
    DecW (Sans M [ga]) w' P m s j (if em then some (sp, lo) else none) ((sp, lo, F) :: fr) (nsAll F av) (bud + 2 * av.length + 1) ∧ Fr (fun y => M y ∨ y = m) w w'
theorem token_start (nm t : List UInt8) (av : List AttrS) (em : Bool) (r : List UInt8) (h : DecW M w P m s i none fr F bud) (hb : bud + 2 * av.length + 1 < maxLen) (hT : Utf8Tabs 4 5 w) (hT4 : ¬ M 4 ∧ ¬ M 5) (htx : TextAll s) (hl : s.data.toList.drop i = 60 :: (nm ++ t)) (hN : GoodN nm) (hA : AttrsR t av em r) :
    Calls Tryz.prog 70 #[.pointer (some ⟨P, 0, none⟩)] w (StartW M w P m s (s.size - r.length) fr F bud (bst (halvesL nm).1) (bst (halvesL nm).2) av em) := by
  have hss := h.size
  have hlen := congrArg List.length hl
  rw [List.length_drop, list_size] at hlen
  simp only [List.length_cons, List.length_append] at hlen
  have hsm : ∀ a ∈ av, a.small := fun a ha => by
    have := attrs_small hA a ha
    unfold AttrS.small maxLen
    omega
  have hh := halves_le nm
  obtain ⟨sp, hsp⟩ : ∃ x, bst (halvesL nm).1 = x := ⟨_, rfl⟩
  obtain ⟨lo, hlo⟩ : ∃ x, bst (halvesL nm).2 = x := ⟨_, rfl⟩
  have hsp1 : sp.size ≤ maxLen := by rw [← hsp, bst_size]; unfold maxLen; omega
  have hlo1 : lo.size ≤ maxLen := by rw [← hlo, bst_size]; unfold maxLen; omega
  obtain ⟨L, f, bs, st, fl, n, rfl, hm, hnc, howe, hd, hns, hmM, hst, hfr, hbud⟩ := h
  have hraw := raw_start (Bare M st fl) w L s i f bs nm t av em r hd.bare hnc hl hN hA hT ⟨fun h => hT4.1 h.1, fun h => hT4.2 h.1⟩ (htx L)
  rw [hsp, hlo] at hraw ⊢
  obtain ⟨L1, hL1⟩ : ∃ L1 : LS, (if em then { L with nc := true, tcS := sp, tcL := lo } else L) = L1 := ⟨_, rfl⟩
  have e1 : L1.p = L.p ∧ L1.stk = L.stk ∧ L1.free = L.free ∧ L1.nsb = L.nsb ∧ L1.nc = (if em then some (sp, lo) else none).isSome ∧ ∀ p, (if em then some (sp, lo) else none) = some p → L1.tcS = p.1 ∧ L1.tcL = p.2 := by
    subst hL1
    cases em with
    | true =>
      refine ⟨rfl, rfl, rfl, rfl, rfl, fun p hp => ?_⟩
      cases hp
      exact ⟨rfl, rfl⟩
    | false => exact ⟨rfl, rfl, rfl, rfl, hnc, (fun p hp => nomatch hp)⟩
  obtain ⟨x1, x2, x3, x4, x5, x6⟩ := e1
  have hexi : ∃ (f1 : Bool) (bs1 : List UInt8), True := ⟨true, [], trivial⟩
  clear hexi
  unfold StartPost at hraw
  rw [hL1] at hraw
  -- the bytes and the flag are known only behind the call: the walk of Token takes them as they come
  refine (token_push' M w L.p L.stk s L1 (s.size - r.length) st fl m n F sp lo av (hd.tokAt hfr) hd.1.parts.2.2.1 x1 (x4.trans hm) hsp1 hlo1 hsm hst (by omega) (hraw.mono ?_)).mono ?_
  · rintro e w1 ⟨ga, cap, cur, f1, bs1, rfl, hblk, hrow, hga, hlow, hf⟩
    refine ⟨ga, cap, cur, f1, bs1, rfl, ⟨hd.back hlow hf x1 x2 x3, hns.fr hf fun h => hmM h.1, hf.mono fun _ h => .inl h.1, fun x hx => ?_, hmM⟩, hrow, hga⟩
    rw [List.mem_singleton] at hx
    subst hx
    exact ⟨hblk, (by decide : (204 : TypeId) ≠ 197 ∧ (204 : TypeId) ≠ 190 ∧ (204 : TypeId) ≠ 5 ∧ (204 : TypeId) ≠ 200)⟩
  · rintro e w2 ⟨f1, bs1, ga, cap, cur, rfl, b, ok, st', fl', stk, free, n', hsd, hun, hdr, hst', hbd, hrs, hga⟩
    obtain ⟨t1, t2⟩ := hfr.top
    refine ⟨ga, cap, cur, rfl, (hsd.ok (ga, 204, cur) (by simp)).1, hrs, hga, ⟨{ L1 with stk := stk, free := free }, f1, bs1, _, fl', n', x1, x4.trans hm, x5, x6, hsd.decS, hsd.ns, fun h => hmM h.1, fun p hp => ?_, ⟨b, ok, st', rfl, hun.trans t2, by rw [hdr, t1]; exact hfr⟩, by simp only [List.length_cons]; omega⟩, hsd.fr⟩
    rcases List.mem_cons.1 hp with rfl | hp
    · exact ⟨.inl rfl, hsp1, hlo1⟩
    · exact hst' p hp
end
end Go.Proofs.YtlljphipglgjiaaGreatDoor

namespace Go.Proofs.YtlljphipglgjiaaGreatDoor
open Go.RowKit Go.Lib

abbrev Fram := ByteArray × ByteArray × NsF
/-- The decoder at place i; its budget goes by the place. -/
def DecV (M : Nat → Prop) (w : World) (P m : Nat) (s : ByteArray) (i : Nat) (owe : Option (ByteArray × ByteArray)) (fr : List Fram) (F : NsF) : Prop := DecW M w P m s i owe fr F (2 * i)
def frOf (nm : List UInt8) (F : NsF) : Fram := (bst (halvesL nm).1, bst (halvesL nm).2, F)
/-- In an element of this name, its kids ahead; rest: what stands behind it. -/
def Inside (s : ByteArray) (i : Nat) (owe : Option (ByteArray × ByteArray)) (nm : List UInt8) (ks : List XEl) (rest : List UInt8) : Prop :=
  i ≤ s.size ∧ ((owe = some (bst (halvesL nm).1, bst (halvesL nm).2) ∧ ks = [] ∧ s.data.toList.drop i = rest ∧ nm.length ≤ 1000000) ∨ (owe = none ∧ Cont (s.data.toList.drop i) nm ks rest))
/-- The tables of utf8 stand, and what turns are none of them. -/
structure Env (M : Nat → Prop) (m : Nat) (w : World) : Prop where
  tabs : Utf8Tabs 4 5 w
  m4 : ¬ M 4 ∧ ¬ M 5
  n4 : m ≠ 4 ∧ m ≠ 5
theorem Env.fr {M : Nat → Prop} {m : Nat} {w w' : World} (h : Env M m w) (hf : Fr (fun y => M y ∨ y = m) w w') : Env M m w' :=
  ⟨utf8_fr h.tabs hf ⟨fun e => by rcases e with e | e; exact h.m4.1 e; exact h.n4.1 e.symm, fun e => by rcases e with e | e; exact h.m4.2 e; exact h.n4.2 e.symm⟩, h.m4, h.n4⟩

section
variable {M : Nat → Prop} {w w' : World} {P m : Nat} {s : ByteArray} {i j : Nat} {owe : Option (ByteArray × ByteArray)} {fr : List Fram} {F : NsF}
theorem DecW.more {bud bud' : Nat} (h : DecW M w P m s i owe fr F bud) (hb : bud ≤ bud') : DecW M w P m s i owe fr F bud' := by
  obtain ⟨L, f, bs, st, fl, n, h1, h2, h3, h4, h5, h6, h7, h8, h9, h10⟩ := h
  exact ⟨L, f, bs, st, fl, n, h1, h2, h3, h4, h5, h6, h7, h8, h9, Nat.le_trans h10 hb⟩
theorem DecW.wide {M' : Nat → Prop} {bud : Nat} (h : DecW M w P m s i owe fr F bud) (hM : ∀ k, M k → M' k) (hm : ¬ M' m) : DecW M' w P m s i owe fr F bud := by
  obtain ⟨L, f, bs, st, fl, n, h1, h2, h3, h4, h5, h6, h7, h8, h9, h10⟩ := h
  exact ⟨L, f, bs, st, fl, n, h1, h2, h3, h4, h5.mono hM, h6, hm, h8, h9, h10⟩
theorem DecW.notM {bud : Nat} (h : DecW M w P m s i owe fr F bud) : ¬ M m := by
  obtain ⟨L, f, bs, st, fl, n, h1, h2, h3, h4, h5, h6, h7, _⟩ := h
  exact h7
/-- What other things turn leaves it. -/
theorem DecW.other {bud : Nat} {M' : Nat → Prop} (h : DecW M w P m s i owe fr F bud) (hf : Fr M' w w') (hd : ∀ x, (M x ∨ x = m) → x < w.heap.size → ¬ M' x) : DecW M w' P m s i owe fr F bud := by
  obtain ⟨L, f, bs, st, fl, n, h1, h2, h3, h4, h5, h6, h7, h8, h9, h10⟩ := h
  exact ⟨L, f, bs, st, fl, n, h1, h2, h3, h4, h5.other hf fun x hx => hd x (.inl hx), h6.fr hf (hd m (.inr rfl) h6.lt), h7, h8, h9, h10⟩
theorem DecW.below {bud : Nat} (h : DecW M w P m s i owe fr F bud) (hb : Below w.heap.size w w') : DecW M w' P m s i owe fr F bud :=
  h.other (Fr.below hb (Nat.le_refl _) fun _ h => h : Fr (fun x => w.heap.size ≤ x) w w') fun _ _ hx => Nat.not_le.2 hx

/-- What a token in an element is. -/
inductive KidTok (M : Nat → Prop) (w : World) (P m : Nat) (s : ByteArray) (i : Nat) (b : Bool) (fr : List Fram) (F F0 : NsF) (nm : List UInt8) (rest : List UInt8) : List XEl → Ending → World → Prop
  | done (w' : World) (j : Nat) : i ≤ j → (b = true ∨ i < j) → j ≤ s.size → s.data.toList.drop j = rest → DecV M w' P m s j none fr F0 → Fr (fun y => M y ∨ y = m) w w' →
      KidTok M w P m s i b fr F F0 nm rest [] (.returned (.tuple #[.iface 128 (.agg #[.string (xlate F true (bst (halvesL nm).1) (bst (halvesL nm).2)), .string (bst (halvesL nm).2)]), .nilIface])) w'
  | text (w' : World) (j : Nat) (v : List UInt8) (ks : List XEl) (g cap : Nat) : i < j → Inside s j none nm ks rest → v ≠ [] → DecV M w' P m s j none (frOf nm F0 :: fr) F → Fr (fun y => M y ∨ y = m) w w' → BufH w' (.slice (some ⟨g, 0, none⟩) v.length cap) v →
      KidTok M w P m s i b fr F F0 nm rest (.mk [] [] v [] :: ks) (.returned (.tuple #[.iface 135 (.slice (some ⟨g, 0, none⟩) v.length cap), .nilIface])) w'
  | com (w' : World) (j : Nat) (c : List UInt8) (ks : List XEl) (v : Value) : i < j → Inside s j none nm ks rest → DecV M w' P m s j none (frOf nm F0 :: fr) F → Fr (fun y => M y ∨ y = m) w w' →
      KidTok M w P m s i b fr F F0 nm rest (.mk [33] [] c [] :: ks) (.returned (.tuple #[.iface 259 v, .nilIface])) w'
  | start (w' : World) (j : Nat) (n2 : List UInt8) (av : List AttrS) (k2 ks : List XEl) (rest2 : List UInt8) (owe : Option (ByteArray × ByteArray)) (ga cap : Nat) (cur : Array Value) : i < j → GoodN n2 → Inside s j owe n2 k2 rest2 → Cont rest2 nm ks rest →
      DecV (Sans M [ga]) w' P m s j owe (frOf n2 F :: frOf nm F0 :: fr) (nsAll F av) → Fr (fun y => M y ∨ y = m) w w' → Blk w' ga 204 cur → RowS cur cap av.length → w.heap.size ≤ ga →
      KidTok M w P m s i b fr F F0 nm rest (.mk n2 av [] k2 :: ks) (.returned (.tuple #[.iface 62 (.agg #[.string (xlate (nsAll F av) true (bst (halvesL n2).1) (bst (halvesL n2).2)), .string (bst (halvesL n2).2), .slice (some ⟨ga, 0, none⟩) av.length cap]), .nilIface])) w'

theorem drop_le {s : ByteArray} {i : Nat} {a r : List UInt8} (h : s.data.toList.drop i = a ++ r) (hi : i ≤ s.size) : s.data.toList.drop (s.size - r.length) = r ∧ i + a.length = s.size - r.length ∧ s.size - r.length ≤ s.size := by
  obtain ⟨h1, h2⟩ := drop_suffix h hi
  exact ⟨h1, h2, Nat.sub_le _ _⟩
theorem small_bud (h : s.size ≤ 1000000) (hi : i ≤ s.size) (k : Nat) (hk : k ≤ s.size) : 2 * i + 2 * k + 1 < maxLen := by unfold maxLen; omega

/-- One token in an element. -/
theorem kid_tok {nm : List UInt8} {ks : List XEl} {rest : List UInt8} {F0 : NsF} (htx : TextAll s) (h : DecV M w P m s i owe (frOf nm F0 :: fr) F) (hE : Env M m w) (hI : Inside s i owe nm ks rest) :
    Calls Tryz.prog 70 #[.pointer (some ⟨P, 0, none⟩)] w (KidTok M w P m s i owe.isSome fr F F0 nm rest ks) := by
  have hss := DecW.size h
  obtain ⟨hi, ⟨rfl, rfl, hr, hnl⟩ | ⟨rfl, hC⟩⟩ := hI
  · have hh := halves_le nm
    have hsp : (bst (halvesL nm).1).size ≤ maxLen := by rw [bst_size]; unfold maxLen; omega
    refine (token_close _ _ F0 h (by have := small_bud hss hi 0 (Nat.zero_le _); omega) hsp).mono ?_
    rintro e w2 ⟨rfl, h1, h2⟩
    exact .done w2 i (Nat.le_refl _) (.inl rfl) hi hr h1 h2
  · generalize hl : s.data.toList.drop i = l at hC
    cases hC with
    | done nm b r hN hb =>
      obtain ⟨j1, j2, j3⟩ := drop_le (a := 60 :: 47 :: (nm ++ (b ++ [62]))) (r := rest) (hl.trans (by simp)) hi
      refine (token_end nm b rest F0 h (by have := small_bud hss hi 0 (Nat.zero_le _); omega) hN hb hl).mono ?_
      rintro e w2 ⟨rfl, h1, h2⟩
      exact .done w2 _ (by omega) (.inr (by simp only [List.length_cons] at j2; omega)) j3 j1 (h1.more (by omega)) h2
    | text c l nm v t ks r hc htp hg hv hC =>
      obtain ⟨a, ha⟩ := txp_suffix htp
      obtain ⟨j1, j2, j3⟩ := drop_le (hl.trans ha) hi
      have hne : a ≠ [] := by
        rintro rfl
        rw [List.nil_append] at ha
        injection ha with e1
        exact hc e1
      have hlt := List.length_pos_iff.2 hne
      refine (token_text c l v t h hE.tabs hE.m4 htx hl hc htp hg hv).mono ?_
      rintro e w2 ⟨x, rfl, h1, h2, g, cap, rfl, h3⟩
      exact .text w2 _ v ks g cap (by omega) ⟨j3, .inr ⟨rfl, by rw [j1]; exact hC⟩⟩ hv (h1.more (by omega)) (h2.mono fun _ h => .inl h) h3
    | com c t nm ks r hc hC =>
      obtain ⟨j1, j2, j3⟩ := drop_le (a := 60 :: 33 :: 45 :: 45 :: (c ++ [45, 45, 62])) (r := t) (hl.trans (by simp)) hi
      refine (token_com c t h hl hc).mono ?_
      rintro e w2 ⟨x, rfl, h1, h2⟩
      simp only [List.length_cons] at j2
      exact .com w2 _ c ks x (by omega) ⟨j3, .inr ⟨rfl, by rw [j1]; exact hC⟩⟩ (h1.more (by omega)) (h2.mono fun _ h => .inl h)
    | empty n2 t nm t2 av ks r hN hA hC =>
      obtain ⟨a, ha, hal⟩ := attrs_suffix hA
      obtain ⟨j1, j2, j3⟩ := drop_le (a := 60 :: (n2 ++ a)) (r := t2) (hl.trans (by rw [ha]; simp)) hi
      simp only [List.length_cons, List.length_append] at j2
      refine (token_start n2 t av true t2 h (small_bud hss hi _ (by omega)) hE.tabs hE.m4 htx hl hN hA).mono ?_
      rintro e w2 ⟨ga, cap, cur, rfl, h1, h2, h3, h4, h5⟩
      exact .start w2 _ n2 av [] ks t2 _ ga cap cur (by omega) hN ⟨j3, .inl ⟨rfl, rfl, j1, by omega⟩⟩ hC (h4.more (by omega)) h5 h1 h2 h3
    | elem n2 t nm t2 t3 av k2 ks r hN hA hC2 hC =>
      obtain ⟨a, ha, hal⟩ := attrs_suffix hA
      obtain ⟨j1, j2, j3⟩ := drop_le (a := 60 :: (n2 ++ a)) (r := t2) (hl.trans (by rw [ha]; simp)) hi
      simp only [List.length_cons, List.length_append] at j2
      refine (token_start n2 t av false t2 h (small_bud hss hi _ (by omega)) hE.tabs hE.m4 htx hl hN hA).mono ?_
      rintro e w2 ⟨ga, cap, cur, rfl, h1, h2, h3, h4, h5⟩
      exact .start w2 _ n2 av k2 ks t3 _ ga cap cur (by omega) hN ⟨j3, .inr ⟨rfl, by rw [j1]; exact hC2⟩⟩ hC (h4.more (by omega)) h5 h1 h2 h3
end
end Go.Proofs.YtlljphipglgjiaaGreatDoor

namespace Go.Proofs.YtlljphipglgjiaaGreatDoor
open Go.RowKit Go.Lib

/-- Elements within elements, d deep, up to behind the outermost. -/
def Nest (fr : List Fram) (Fb : NsF) (rest : List UInt8) : List UInt8 → List Fram → NsF → Nat → Prop
  | l, frs, F, 0 => l = rest ∧ frs = fr ∧ F = Fb
  | l, frs, _, d + 1 => ∃ nm F0 ks r1 frs', frs = frOf nm F0 :: frs' ∧ Cont l nm ks r1 ∧ Nest fr Fb rest r1 frs' F0 d
/-- In an element, d deep; mu falls. -/
def SkSt (M : Nat → Prop) (P m : Nat) (s : ByteArray) (fr : List Fram) (Fb : NsF) (rest : List UInt8) (i0 mu : Nat) (w : World) (d : Nat) : Prop :=
  ∃ (i : Nat) (owe : Option (ByteArray × ByteArray)) (F : NsF) (nm : List UInt8) (F0 : NsF) (ks : List XEl) (r1 : List UInt8) (frs : List Fram), i0 ≤ i ∧ mu = 2 * (s.size - i) + (if owe.isSome then 1 else 0) ∧ DecV M w P m s i owe (frOf nm F0 :: frs) F ∧ Inside s i owe nm ks r1 ∧ Nest fr Fb rest r1 frs F0 d ∧ d ≤ i
/-- Behind the element. -/
def AfterEl (M : Nat → Prop) (P m : Nat) (s : ByteArray) (fr : List Fram) (Fb : NsF) (rest : List UInt8) (i0 : Nat) (w : World) : Prop := ∃ j, i0 ≤ j ∧ j ≤ s.size ∧ s.data.toList.drop j = rest ∧ DecV M w P m s j none fr Fb

inductive SkTok (M : Nat → Prop) (P m : Nat) (s : ByteArray) (fr : List Fram) (Fb : NsF) (rest : List UInt8) (i0 mu : Nat) (w : World) (d : Nat) : Ending → World → Prop
  | start (v : Value) (w' : World) (mu' : Nat) : mu' < mu → SkSt M P m s fr Fb rest i0 mu' w' (d + 1) → Env M m w' → Fr (fun y => M y ∨ y = m) w w' → SkTok M P m s fr Fb rest i0 mu w d (.returned (.tuple #[.iface 62 v, .nilIface])) w'
  | last (v : Value) (w' : World) : d = 0 → AfterEl M P m s fr Fb rest i0 w' → Fr (fun y => M y ∨ y = m) w w' → SkTok M P m s fr Fb rest i0 mu w d (.returned (.tuple #[.iface 128 v, .nilIface])) w'
  | fin (v : Value) (w' : World) (d' mu' : Nat) : d = d' + 1 → mu' < mu → SkSt M P m s fr Fb rest i0 mu' w' d' → Env M m w' → Fr (fun y => M y ∨ y = m) w w' → SkTok M P m s fr Fb rest i0 mu w d (.returned (.tuple #[.iface 128 v, .nilIface])) w'
  | text (v : Value) (w' : World) (mu' : Nat) : mu' < mu → SkSt M P m s fr Fb rest i0 mu' w' d → Env M m w' → Fr (fun y => M y ∨ y = m) w w' → SkTok M P m s fr Fb rest i0 mu w d (.returned (.tuple #[.iface 135 v, .nilIface])) w'
  | com (v : Value) (w' : World) (mu' : Nat) : mu' < mu → SkSt M P m s fr Fb rest i0 mu' w' d → Env M m w' → Fr (fun y => M y ∨ y = m) w w' → SkTok M P m s fr Fb rest i0 mu w d (.returned (.tuple #[.iface 259 v, .nilIface])) w'

theorem skip_tok {M : Nat → Prop} {P m : Nat} {s : ByteArray} {fr : List Fram} {Fb : NsF} {rest : List UInt8} {i0 mu : Nat} {w : World} {d : Nat} (htx : TextAll s) (h : SkSt M P m s fr Fb rest i0 mu w d) (hE : Env M m w) :
    Calls Tryz.prog 70 #[.pointer (some ⟨P, 0, none⟩)] w (SkTok M P m s fr Fb rest i0 mu w d) := by
  obtain ⟨i, owe, F, nm, F0, ks, r1, frs, hi0, hmu, hD, hI, hN, hdi⟩ := h
  have hm := DecW.notM hD
  have hi := hI.1
  refine (kid_tok htx hD hE hI).mono ?_
  intro e w2 hk
  cases hk with
  | done _ j h1 h1' h2 h3 h4 h5 =>
    cases d with
    | zero =>
      obtain ⟨rfl, rfl, rfl⟩ := hN
      exact .last _ _ rfl ⟨j, by omega, h2, h3, h4⟩ h5
    | succ d =>
      obtain ⟨nm', F0', ks', r1', frs', rfl, hC, hN'⟩ := hN
      refine .fin _ _ d _ rfl ?_ ⟨j, none, F0, nm', F0', ks', r1', frs', by omega, rfl, h4, ⟨h2, .inr ⟨rfl, by rw [h3]; exact hC⟩⟩, hN', by omega⟩ (hE.fr h5) h5
      rw [hmu]
      rcases h1' with h | h
      · rw [h]; simp; omega
      · simp; split <;> omega
  | text _ j v ks' g cap h1 h2 h3 h4 h5 h6 =>
    have hb := h2.1
    refine .text _ _ _ ?_ ⟨j, none, F, nm, F0, ks', r1, frs, by omega, rfl, h4, h2, hN, by omega⟩ (hE.fr h5) h5
    rw [hmu]
    simp
    split <;> omega
  | com _ j c ks' v h1 h2 h3 h4 =>
    have hb := h2.1
    refine .com _ _ _ ?_ ⟨j, none, F, nm, F0, ks', r1, frs, by omega, rfl, h3, h2, hN, by omega⟩ (hE.fr h4) h4
    rw [hmu]
    simp
    split <;> omega
  | start _ j n2 av k2 ks' rest2 owe2 ga cap cur h1 hgn h2 h3 h4 h5 h6 h7 h8 =>
    have hb := h2.1
    refine .start _ _ _ ?_ ⟨j, owe2, nsAll F av, n2, F, k2, rest2, frOf nm F0 :: frs, by omega, rfl, h4.wide (fun k hk => hk.1) hm, h2, ⟨nm, F0, ks', r1, frs, rfl, h3, hN⟩, by omega⟩ (hE.fr h5) h5
    rw [hmu]
    split <;> split <;> omega

set_option maxRecDepth 100000 in
set_option maxHeartbeats 4000000 in
theorem skip_any {M : Nat → Prop} {P m : Nat} {s : ByteArray} {fr : List Fram} {F F0 : NsF} {rest nm : List UInt8} {i : Nat} {owe : Option (ByteArray × ByteArray)} {ks : List XEl} (w : World) (htx : TextAll s) (h : DecV M w P m s i owe (frOf nm F0 :: fr) F) (hI : Inside s i owe nm ks rest) (hE : Env M m w) :
    Calls Tryz.prog 34 #[.pointer (some ⟨P, 0, none⟩)] w fun e w' => e = .returned .nilIface ∧ (AfterEl M P m s fr F0 rest i w' ∧ Fr (fun y => M y ∨ y = m) w w') := by
  have hss := DecW.size h
  have hst : SkSt M P m s fr F0 rest i (2 * (s.size - i) + (if owe.isSome then 1 else 0)) w 0 := ⟨i, owe, F, nm, F0, ks, rest, fr, Nat.le_refl _, rfl, h, hI, ⟨rfl, rfl, rfl⟩, Nat.zero_le _⟩
  obtain ⟨mu, hmu⟩ : ∃ mu, 2 * (s.size - i) + (if owe.isSome then 1 else 0) = mu := ⟨_, rfl⟩
  rw [hmu] at hst
  have HST := Lib.hid hst
  have HE := Lib.hid hE
  have HTX := Lib.hid htx
  have a1 := ta62_62
  have a2 := ta62_135
  have a3 := ta62_259
  have a4 := ta62_128
  have a5 := ta128_135
  have a6 := ta128_259
  have a7 := ta128_128
  clear h hI hE htx hst hmu
  go_enter Tryz.func34, Tryz.ntmps34
  go_wp2_with fail
  go_loopg [3] mu (fun g dv wr => ∃ d : Nat, dv = .int .i64 d ∧ SkSt M P m s fr F0 rest i g wr d ∧ Env M m wr ∧ Fr (fun y => M y ∨ y = m) w wr)
  case atStart => exact ⟨0, rfl, HST.out, HE.out, Fr.refl _ _⟩
  case round =>
    obtain ⟨d, rfl, hs, he, hf⟩ := hrel
    have hd : d ≤ 1000000 := by
      obtain ⟨i', _, _, _, _, _, _, _, _, _, _, hI, _, hdi⟩ := hs
      have := hI.1
      omega
    have HTK := Lib.hid (skip_tok HTX.out hs he)
    have HF := Lib.hid hf
    clear hs he hf HST HE
    go_wp2_with fail
    refine HTK.out.mono ?_
    intro e w2 hk
    cases hk with
    | start v _ mu' h1 h2 h3 h4 =>
      have HL := Lib.hid h1
      have H2 := Lib.hid h2
      have H3 := Lib.hid h3
      have H4 := Lib.hid (HF.out.trans h4)
      clear h1 h2 h3 h4
      go_wp2_with fail
      go_roundg mu'
      case rel => exact ⟨d + 1, rfl, H2.out, H3.out, H4.out⟩
      case measure => exact HL.out
    | last v _ h1 h2 h3 =>
      subst h1
      have H2 := Lib.hid h2
      have H3 := Lib.hid (HF.out.trans h3)
      clear h2 h3
      go_wp2_with fail
      go_ret
      exact ⟨rfl, H2.out, H3.out⟩
    | fin v _ d' mu' h0 h1 h2 h3 h4 =>
      subst h0
      have g0 : (((d' + 1 : Nat) : Int) == 0) = false := by rw [beq_eq_false_iff_ne]; omega
      have HL := Lib.hid h1
      have H2 := Lib.hid h2
      have H3 := Lib.hid h3
      have H4 := Lib.hid (HF.out.trans h4)
      clear h1 h2 h3 h4
      go_wp2_with fail
      go_roundg mu'
      case rel => exact ⟨d', by simp, H2.out, H3.out, H4.out⟩
      case measure => exact HL.out
    | text v _ mu' h1 h2 h3 h4 =>
      have HL := Lib.hid h1
      have H2 := Lib.hid h2
      have H3 := Lib.hid h3
      have H4 := Lib.hid (HF.out.trans h4)
      clear h1 h2 h3 h4
      go_wp2_with fail
      go_roundg mu'
      case rel => exact ⟨d, rfl, H2.out, H3.out, H4.out⟩
      case measure => exact HL.out
    | com v _ mu' h1 h2 h3 h4 =>
      have HL := Lib.hid h1
      have H2 := Lib.hid h2
      have H3 := Lib.hid h3
      have H4 := Lib.hid (HF.out.trans h4)
      clear h1 h2 h3 h4
      go_wp2_with fail
      go_roundg mu'
      case rel => exact ⟨d, rfl, H2.out, H3.out, H4.out⟩
      case measure => exact HL.out
end Go.Proofs.YtlljphipglgjiaaGreatDoor

namespace Go.Proofs.YtlljphipglgjiaaGreatDoor
open Go.RowKit Go.Lib

section
variable {w wr w2 : World} {ga : Nat} {X : Known} {mb n n2 : Nat} {F F2 : NsF}
end

end Go.Proofs.YtlljphipglgjiaaGreatDoor
