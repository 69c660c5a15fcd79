/-
  zxml's Decoder.rawToken, road by road: the second half of an empty element.
  In a comment that spec.XRead takes no two hyphens stand together, and none at its end (plain).
  What stands in a document that spec.XRead takes, as a decoder meets it: relations over bytes (plain).
  Places in a text: what stands where, of a list that begins there (plain).
  zxml's Decoder.rawToken: a comment.
  zxml's Decoder as its callers see it: the place, what it owes, the open elements, the name spaces.
-/
import Derived.Test.YtlljphipglgjiaaGreatDoorXmNsM
import Derived.Deep.RegionHeld3
import Derived.Test.YtlljphipglgjiaaGreatDoorXmGram
import Derived.Test.YtlljphipglgjiaaGreatDoorXmTxR
import Derived.Test.YtlljphipglgjiaaGreatDoorXmStr
import Derived.Test.YtlljphipglgjiaaGreatDoorXmWrite2
import Derived.Test.YtlljphipglgjiaaGreatDoorXmRef2
import Derived.Test.YtlljphipglgjiaaGreatDoorXmDec
import Derived.Deep.LoopGhost
namespace Go.Proofs.YtlljphipglgjiaaGreatDoor
open Go.RowKit Go.Lib

set_option maxRecDepth 100000 in
set_option maxHeartbeats 4000000 in
theorem raw_close (M : Nat → Prop) (w : World) (L : LS) (s : ByteArray) (i : Nat) (f : Bool) (bs : List UInt8) (sp lo : ByteArray) (h : LowB M w L s i f bs) (hnc : L.nc = true) (hsp : L.tcS = sp) (hlo : L.tcL = lo) :
    Calls Tryz.prog 117 #[.pointer (some ⟨L.p, 0, none⟩)] w fun e w' => e = .returned (.tuple #[.iface 128 (.agg #[.string sp, .string lo]), .nilIface]) ∧ (LowB M w' { L with nc := false } s i f bs ∧ Fr (fun x => x = L.p) w w') := by
  have H := Lib.hid h
  obtain ⟨hMp, _, _, _, _, buf, ⟨lr, nb, ri, pr, line, ls, off, q1, _⟩, _⟩ := h
  have c13 := q1.cell 13
  have c14 := q1.cell 14
  have c15 := q1.cell 15
  have c17 := q1.cell 17
  have fz := q1.frozen
  unfold lcells at c13 c14 c15 c17
  rw [hnc] at c13
  rw [hsp] at c14
  rw [hlo] at c15
  have Q1 := Lib.hid q1
  clear q1 hnc hsp hlo
  go_enter Tryz.func117, Tryz.ntmps117
  go_wp2_with fail
  go_ret2
  refine ⟨rfl, ?_, (Fr.refl (fun x => x = L.p) w).setCell (p := ⟨L.p, 13, none⟩) rfl _⟩
  refine H.out.turn (L' := { L with nc := false }) rfl rfl (fun buf lr nb line ls off q => (q.set 13 _).eq rfl) ((Fr.refl _ _).setCell hMp _) ?_
  intro g T cs hg hT
  have hgp : L.p ≠ g := Q1.out.ne (t' := T) (cs' := cs) hg (by rcases hT with rfl | rfl <;> decide)
  rw [Below.heap_setCell _ _ _ _ (Ne.symm hgp)]
  exact hg

/-- What the roads behind the first byte share: the decoder has no error and owes nothing. -/
theorem LowB.plain {M : Nat → Prop} {w : World} {L : LS} {s : ByteArray} {i : Nat} {f : Bool} {bs : List UInt8} (h : LowB M w L s i f bs) (hnc : L.nc = false) :
    w.cell? ⟨L.p, 17, none⟩ = some .nilIface ∧ w.cell? ⟨L.p, 13, none⟩ = some (.bool false) ∧ w.cell? ⟨L.p, 0, none⟩ = some (.bool true) := by
  obtain ⟨_, _, _, _, _, buf, ⟨lr, nb, ri, pr, line, ls, off, q1, _⟩, _⟩ := h
  have c0 := q1.cell 0
  have c13 := q1.cell 13
  have c17 := q1.cell 17
  unfold lcells at c0 c13 c17
  rw [hnc] at c13
  exact ⟨c17, c13, c0⟩

set_option maxRecDepth 100000 in
set_option maxHeartbeats 4000000 in
/-- An element's end. -/
theorem raw_end (M : Nat → Prop) (w : World) (L : LS) (s : ByteArray) (i j j2 : Nat) (f : Bool) (bs sp lo : List UInt8) (h : LowB M w L s i f bs) (hnc : L.nc = false) (hij : i + 2 < j) (hj : j ≤ j2) (hj2 : j2 < s.size) (h60 : s[i] = 60) (h47 : s[i + 1] = 47)
    (hn : ∀ k (hk : k < s.size), i + 2 ≤ k → k < j → nameB s[k] = true) (hf : firstB (s[i + 2]'(by omega)) = true) (he : nameB (s[j]'(by omega)) = false) (hlt : (s[j]'(by omega)).toNat < 128) (hq : QName (sub s (i + 2) j) sp lo)
    (hbl : ∀ k (hk : k < s.size), j ≤ k → k < j2 → Blank s[k]) (h62 : s[j2] = 62) :
    Calls Tryz.prog 117 #[.pointer (some ⟨L.p, 0, none⟩)] w fun e w' => e = .returned (.tuple #[.iface 128 (.agg #[.string (bst sp), .string (bst lo)]), .nilIface]) ∧ (LowB M w' L s (j2 + 1) true (sub s (i + 2) j) ∧ Fr M w w') := by
  obtain ⟨c17, c13, c0⟩ := h.plain hnc
  have H := Lib.hid h
  have hg1 := getcB h (by omega : i < s.size)
  rw [show ((s[i]'(by omega)).toNat : Int) = 60 by rw [h60]; rfl] at hg1
  have HG1 := Lib.hid hg1
  have HS47 := Lib.hid h47
  have HS62 := Lib.hid h62
  have HNM : Hid (∀ (M' : Nat → Prop) (w' : World) (f' : Bool) (bs' : List UInt8), LowB M' w' L s (i + 2) f' bs' → Calls Tryz.prog 155 #[.pointer (some ⟨L.p, 0, none⟩)] w' fun e w2 => e = .returned (.tuple #[.agg #[.string (bst sp), .string (bst lo)], .bool true]) ∧ LowB M' w2 L s j false (sub s (i + 2) j) ∧ Fr M' w' w2) :=
    Lib.hid (fun M' w' f' bs' h' => nsnameB j sp lo h' hij (by omega) hn hf he hlt hq)
  have HBL := Lib.hid hbl
  have HNB : Hid (¬ Blank s[j2]) := Lib.hid (by rw [h62]; unfold Blank; decide)
  clear h hg1 h60 h47 hn hf he hlt hq hbl h62 hnc
  go_enter Tryz.func117, Tryz.ntmps117
  go_wp2_with fail
  refine HG1.out.mono ?_
  rintro e w1 ⟨rfl, h1, hf1⟩
  have H1 := Lib.hid h1
  have F1 := Lib.hid hf1
  clear h1 hf1
  go_wp2_with fail
  have hm2 := mustgetcB H1.out (by omega : i + 1 < s.size)
  rw [show ((s[i + 1]'(by omega)).toNat : Int) = 47 by rw [HS47.out]; rfl] at hm2
  refine hm2.mono ?_
  rintro e w2 ⟨rfl, h1, hf1⟩
  have H2 := Lib.hid h1
  have F2 := Lib.hid (F1.out.trans hf1)
  clear h1 hf1 hm2
  have hN2 := H2.out.parts.2.2.1
  have hb0 : Below w2.heap.size w2 (w2.alloc (.cells #[.string ⟨#[]⟩, .string ⟨#[]⟩] 59)) := (Below.refl _ _).alloc (Nat.le_refl _) _
  have HQ := Lib.hid (HNM.out _ _ _ _ (H2.out.out hb0))
  have q0 : ¬ Out M w2.heap.size (w2.alloc (Obj.cells #[Value.string { data := #[] }, Value.string { data := #[] }] 59)).heap.size w2.heap.size := not_Out (Nat.le_refl _) (by simp)
  have HB0 := Lib.hid hb0
  clear hb0
  go_wp2_with fail
  refine HQ.out.mono ?_
  rintro e w3 ⟨rfl, h3, hf3⟩
  have hblk : Blk w3 w2.heap.size 59 #[.string ⟨#[]⟩, .string ⟨#[]⟩] := (Blk.new w2 59 _).fr hf3 q0
  have k0 := hblk.cell 0
  have k1 := hblk.cell 1
  have kf := hblk.frozen
  have HBK := Lib.hid hblk
  have H3 := Lib.hid h3
  have F3 := Lib.hid ((F2.out.trans (Fr.below HB0.out (Nat.le_refl _) hN2)).trans (hf3.mono fun k hk => hk.sub))
  have hb4 : Blk ((w3.setCell ⟨w2.heap.size, 0, none⟩ (.string (bst sp))).setCell ⟨w2.heap.size, 1, none⟩ (.string (bst lo))) w2.heap.size 59 #[.string (bst sp), .string (bst lo)] := ((hblk.set 0 _).set 1 _).eq rfl
  have HB4 := Lib.hid hb4
  clear hblk h3 hf3 hb4
  go_wp2_with fail
  obtain ⟨W4, hW4⟩ : ∃ W, (w3.setCell ⟨w2.heap.size, 0, none⟩ (.string (bst sp))).setCell ⟨w2.heap.size, 1, none⟩ (.string (bst lo)) = W := ⟨_, rfl⟩
  have h4 := (H3.out.setOther (q := ⟨w2.heap.size, 0, none⟩) q0 (.string (bst sp))).setOther (q := ⟨w2.heap.size, 1, none⟩) q0 (.string (bst lo))
  have hb4 := HB4.out
  rw [hW4] at h4 hb4
  have F4 : Hid (Fr M w W4) := Lib.hid (by rw [← hW4]; exact (F3.out.setCell (p := ⟨w2.heap.size, 0, none⟩) (hN2 _ (Nat.le_refl _)) _).setCell (p := ⟨w2.heap.size, 1, none⟩) (hN2 _ (Nat.le_refl _)) _)
  rw [hW4]
  clear hW4 k0 k1 kf
  have hsp := spaceB j2 h4 hj hj2 HBL.out HNB.out
  have HB4 := Lib.hid hb4
  clear h4 hb4
  refine hsp.mono ?_
  rintro e w5 ⟨rfl, h5, hf5⟩
  have HB5 := Lib.hid (HB4.out.fr hf5 q0)
  have F5 := Lib.hid (F4.out.trans (hf5.mono fun k hk => hk.sub))
  have hm6 := mustgetcB h5 hj2
  rw [show ((s[j2]'hj2).toNat : Int) = 62 by rw [HS62.out]; rfl] at hm6
  have HM6 := Lib.hid hm6
  clear h5 hf5 hm6 hsp
  go_wp2_with fail
  refine HM6.out.mono ?_
  rintro e w6 ⟨rfl, h6, hf6⟩
  have hb6 := HB5.out.fr hf6 q0
  have k0 := hb6.cell 0
  have k1 := hb6.cell 1
  have H6 := Lib.hid h6
  have F6 := Lib.hid (F5.out.trans (hf6.mono fun k hk => hk.sub))
  clear h6 hf6 hb6
  go_wp2_with fail
  go_ret2
  exact ⟨rfl, H6.out.mono fun k hk => hk.sub, F6.out⟩
end Go.Proofs.YtlljphipglgjiaaGreatDoor

namespace Go.Proofs.YtlljphipglgjiaaGreatDoor
open Go.Lib

theorem com_dash : ∀ (f : Nat) (c : List UInt8), c.length < f → comOk f c = true → ∀ j : Nat, c[j]? = some 45 → ∃ b : UInt8, c[j + 1]? = some b ∧ b ≠ 45
  | 0, c, h, _, _, _ => by omega
  | f + 1, [], _, _, j, hj => by simp at hj
  | f + 1, x :: t, hlen, h, j, hj => by
    simp only [comOk, Bool.and_eq_true, Bool.not_eq_true', Bool.or_eq_false_iff, Bool.and_eq_false_imp] at h
    obtain ⟨⟨⟨⟨h1, _⟩, _⟩, _⟩, h5⟩ := h
    have hw := decodeL_width (x :: t)
    by_cases hjn : j < (decodeL (x :: t)).2
    · by_cases hn : (decodeL (x :: t)).2 = 1
      · obtain rfl : j = 0 := by omega
        simp only [List.getElem?_cons_zero, Option.some.injEq] at hj
        have h2 := h1 (by rw [hj]; rfl)
        cases t with
        | nil => simp at h2
        | cons y r =>
          refine ⟨y, by simp, ?_⟩
          rintro rfl
          simp at h2
      · exfalso
        have hm : (45 : UInt8) ∈ (x :: t).take (decodeL (x :: t)).2 := by
          have : ((x :: t).take (decodeL (x :: t)).2)[j]? = some 45 := by rw [List.getElem?_take_of_lt hjn]; exact hj
          exact List.mem_of_getElem? this
        have := high_bytes (x :: t) hn 45 hm
        exact absurd this (by decide)
    · have hle : ((x :: t).drop (decodeL (x :: t)).2).length < f := by
        rw [List.length_drop]
        simp only [List.length_cons] at hlen ⊢
        omega
      have e1 : ((x :: t).drop (decodeL (x :: t)).2)[j - (decodeL (x :: t)).2]? = some 45 := by
        rw [List.getElem?_drop, show (decodeL (x :: t)).2 + (j - (decodeL (x :: t)).2) = j by omega]
        exact hj
      obtain ⟨b, hb, hb2⟩ := com_dash f _ hle h5 _ e1
      rw [List.getElem?_drop, show (decodeL (x :: t)).2 + (j - (decodeL (x :: t)).2 + 1) = j + 1 by omega] at hb
      exact ⟨b, hb, hb2⟩

end Go.Proofs.YtlljphipglgjiaaGreatDoor

namespace Go.Proofs.YtlljphipglgjiaaGreatDoor
open Go.Lib

/-- A name as the decoder takes it. -/
structure GoodN (nm : List UInt8) : Prop where
  all : ∀ b ∈ nm, nameB b = true
  first : ∃ c t, nm = c :: t ∧ firstB c = true
  q : QName nm (halvesL nm).1 (halvesL nm).2
def Blanks (b : List UInt8) : Prop := ∀ x ∈ b, blankB x = true
/-- A comment's inside: behind a hyphen stands another byte. -/
def ComOK (c : List UInt8) : Prop := ∀ j : Nat, c[j]? = some 45 → ∃ b : UInt8, c[j + 1]? = some b ∧ b ≠ 45
def attrOf (nm v : List UInt8) : AttrS := ⟨bst (halvesL nm).1, bst (halvesL nm).2, bst v⟩
/-- Attributes up to a start's end; true: it is an empty element. -/
inductive AttrsR : List UInt8 → List AttrS → Bool → List UInt8 → Prop
  | empty (b r : List UInt8) : Blanks b → AttrsR (b ++ 47 :: 62 :: r) [] true r
  | close (b r : List UInt8) : Blanks b → AttrsR (b ++ 62 :: r) [] false r
  | attr (b nm : List UInt8) (q : UInt8) (t v r2 : List UInt8) (av : List AttrS) (em : Bool) (r : List UInt8) : Blanks b → b ≠ [] → GoodN nm → (q = 34 ∨ q = 39) → TxP q 0 0 t v (q :: r2) → GoodT v → AttrsR r2 av em r →
      AttrsR (b ++ (nm ++ 61 :: q :: t)) (attrOf nm v :: av) em r
/-- What stands in an element of this name, up to behind its end. -/
inductive Cont : List UInt8 → List UInt8 → List XEl → List UInt8 → Prop
  | done (nm b r : List UInt8) : GoodN nm → Blanks b → Cont (60 :: 47 :: (nm ++ (b ++ 62 :: r))) nm [] r
  | text (c : UInt8) (l nm v t : List UInt8) (ks : List XEl) (r : List UInt8) : c ≠ 60 → TxP 60 0 0 (c :: l) v (60 :: t) → GoodT v → v ≠ [] → Cont (60 :: t) nm ks r → Cont (c :: l) nm (.mk [] [] v [] :: ks) r
  | com (c t nm : List UInt8) (ks : List XEl) (r : List UInt8) : ComOK c → Cont t nm ks r → Cont (60 :: 33 :: 45 :: 45 :: (c ++ 45 :: 45 :: 62 :: t)) nm (.mk [33] [] c [] :: ks) r
  | empty (n2 t nm t2 : List UInt8) (av : List AttrS) (ks : List XEl) (r : List UInt8) : GoodN n2 → AttrsR t av true t2 → Cont t2 nm ks r → Cont (60 :: (n2 ++ t)) nm (.mk n2 av [] [] :: ks) r
  | elem (n2 t nm t2 t3 : List UInt8) (av : List AttrS) (k2 ks : List XEl) (r : List UInt8) : GoodN n2 → AttrsR t av false t2 → Cont t2 n2 k2 t3 → Cont t3 nm ks r → Cont (60 :: (n2 ++ t)) nm (.mk n2 av [] k2 :: ks) r
/-- What stands ahead of the root; the second: what stands behind the root's first sign. -/
inductive Prol : List UInt8 → List UInt8 → Prop
  | here (t : List UInt8) : Prol (60 :: t) t
  | text (c : UInt8) (l v t r : List UInt8) : c ≠ 60 → TxP 60 0 0 (c :: l) v (60 :: t) → GoodT v → v ≠ [] → Prol (60 :: t) r → Prol (c :: l) r
  | com (c t r : List UInt8) : ComOK c → Prol t r → Prol (60 :: 33 :: 45 :: 45 :: (c ++ 45 :: 45 :: 62 :: t)) r

theorem isPre_eq {wd l : List UInt8} (h : isPre wd l = true) : l = wd ++ l.drop wd.length := by
  unfold isPre at h
  have h1 : l.take wd.length = wd := by simpa using h
  conv => lhs; rw [← List.take_append_drop wd.length l, h1]
theorem mem_tw {p : UInt8 → Bool} {l : List UInt8} {x : UInt8} (h : x ∈ l.takeWhile p) : p x = true :=
  List.all_eq_true.1 (List.all_takeWhile (p := p) (l := l)) x h
theorem blanks_tw (l : List UInt8) : Blanks (l.takeWhile blankB) := fun _ h => mem_tw h
theorem name_C {c : UInt8} (h : nameC c = true) : nameB c = true := by
  unfold nameC letterB at h
  unfold nameB
  simp only [Bool.or_eq_true, Bool.and_eq_true, decide_eq_true_eq, beq_iff_eq, Bool.not_false, true_and] at h ⊢
  have h58 : c = 58 → c.toNat = 58 := fun e => by rw [e]; rfl
  rcases h with ((((h | h) | h) | h) | h)
  · exact .inl (.inl (.inl (.inl (.inl (.inr h)))))
  · exact .inl (.inl (.inl (.inl (.inl (.inl h)))))
  · exact .inl (.inl (.inl (.inr h)))
  · rcases h with (h | h) | h
    · exact .inl (.inl (.inl (.inl (.inr h))))
    · exact .inr h
    · exact .inl (.inr h)
  · exact .inl (.inl (.inr (h58 h)))
theorem letter_first {c : UInt8} (h : letterB c true = true) : firstB c = true := by
  unfold letterB at h
  unfold firstB
  simp only [Bool.or_eq_true, Bool.and_eq_true, decide_eq_true_eq, beq_iff_eq, Bool.not_true, Bool.false_eq_true, false_and, or_false] at h ⊢
  rcases h with (h | h) | h
  · exact .inl (.inl (.inr h))
  · exact .inl (.inl (.inl h))
  · exact .inl (.inr h)
theorem letter_58 {f : Bool} : letterB 58 f = false := by cases f <;> decide
theorem plain_no58 {l : List UInt8} (h : plainB l = true) : (58 : UInt8) ∉ l := by
  intro hm
  cases l with
  | nil => cases hm
  | cons c t =>
    simp only [plainB, Bool.and_eq_true, List.all_eq_true] at h
    rcases List.mem_cons.1 hm with e | hm
    · rw [← e, letter_58] at h
      exact absurd h.1 (by decide)
    · have := h.2 _ hm
      rw [letter_58] at this
      cases this
theorem plain_first {l : List UInt8} (h : plainB l = true) : ∃ c t, l = c :: t ∧ firstB c = true := by
  cases l with
  | nil => cases h
  | cons c t =>
    simp only [plainB, Bool.and_eq_true] at h
    exact ⟨c, t, rfl, letter_first h.1⟩
theorem goodN_of {nm : List UInt8} (hall : ∀ b ∈ nm, nameC b = true) (h : goodName nm = true) : GoodN nm := by
  unfold goodName at h
  simp only [Bool.and_eq_true, Bool.or_eq_true, Bool.not_eq_true', beq_iff_eq] at h
  obtain ⟨⟨h1, h2⟩, h3⟩ := h
  have hall' : ∀ b ∈ nm, nameB b = true := fun b hb => name_C (hall b hb)
  by_cases h58 : (58 : UInt8) ∈ nm
  · have hh : halvesL nm = (nm.takeWhile (· != 58), nm.drop ((nm.takeWhile (· != 58)).length + 1)) := by unfold halvesL; rw [if_pos h58]
    have hs := take_bne 58 nm h58
    rw [hh] at h1 h2
    dsimp only at h1 h2
    have hne : nm.takeWhile (· != 58) ≠ [] := by
      intro e
      rw [e] at hs
      rw [hs] at h3
      simp at h3
    have hp : plainB (nm.takeWhile (· != 58)) = true := by
      rcases h2 with h2 | h2
      · exact absurd h2 hne
      · exact h2
    refine ⟨hall', ?_, ?_⟩
    · obtain ⟨c, t, e, hc⟩ := plain_first hp
      rw [e] at hs
      exact ⟨c, _, hs, hc⟩
    · rw [hh]
      refine .inr ⟨hne, ?_, hs, plain_no58 hp, plain_no58 h1⟩
      obtain ⟨c, t, e, _⟩ := plain_first h1
      rw [e]
      exact List.cons_ne_nil _ _
  · have hh : halvesL nm = ([], nm) := by unfold halvesL; rw [if_neg h58]
    rw [hh] at h1
    exact ⟨hall', plain_first h1, by rw [hh]; exact .inl ⟨rfl, rfl, h58⟩⟩

theorem until_split (wd : List UInt8) : ∀ (l a r : List UInt8), untilL wd l = some (a, r) → l = a ++ (wd ++ r)
  | [], _, _, h => by cases h
  | c :: t, a, r, h => by
    unfold untilL at h
    split at h
    · rename_i hp
      cases Option.some.inj h
      exact isPre_eq hp
    · cases hu : untilL wd t with
      | none => rw [hu] at h; cases h
      | some p =>
        rw [hu] at h
        simp only [Option.map_some, Option.some.injEq, Prod.mk.injEq] at h
        obtain ⟨rfl, rfl⟩ := h
        have := until_split wd t p.1 p.2 hu
        rw [List.cons_append, ← this]
theorem comment_of {l c r : List UInt8} (h : commentL l = some (c, r)) : l = c ++ 45 :: 45 :: 62 :: r ∧ ComOK c := by
  unfold commentL at h
  split at h
  · cases h
  · rename_i p hp
    split at h
    · rename_i hok
      cases Option.some.inj h
      exact ⟨until_split _ _ _ _ hp, com_dash _ _ (Nat.lt_succ_self _) hok⟩
    · cases h
theorem enc_ne (n : Int) : encodeRune n ≠ [] := by
  unfold encodeRune
  rw [ne_eq, List.map_eq_nil_iff]
  unfold encodeRuneZ
  repeat' split
  all_goals exact List.cons_ne_nil _ _
theorem ent_ne {nm o : List UInt8} (h : EntR nm o) : o ≠ [] := by
  cases h with
  | name => exact List.cons_ne_nil _ _
  | dec => exact enc_ne _
  | hex => exact enc_ne _
theorem txp_ne {q b0 b1 c : UInt8} {l v r : List UInt8} (hc : c ≠ q) (h : TxP q b0 b1 (c :: l) v r) : v ≠ [] := by
  cases h with
  | stop => exact absurd rfl hc
  | byte => exact List.cons_ne_nil _ _
  | ref _ _ _ o _ _ _ _ h2 _ =>
    obtain ⟨nm, _, _, he⟩ := ref_inv h2
    intro e
    exact ent_ne he (List.append_eq_nil_iff.1 e).1

theorem attrs_of : ∀ (f : Nat) (l : List UInt8) (av : List AttrS) (em : Bool) (r : List UInt8), attrF f l = some (av, em, r) → AttrsR l av em r
  | 0, _, _, _, _, h => by cases h
  | f + 1, l, av, em, r, h => by
    have hl : l = l.takeWhile blankB ++ l.dropWhile blankB := (List.takeWhile_append_dropWhile).symm
    have hb := blanks_tw l
    unfold attrF at h
    split at h
    · rename_i hp
      cases Option.some.inj h
      have e := AttrsR.empty _ ((l.dropWhile blankB).drop 2) hb
      rw [show 47 :: 62 :: (l.dropWhile blankB).drop 2 = l.dropWhile blankB from (isPre_eq hp).symm, ← hl] at e
      exact e
    split at h
    · rename_i hp
      cases Option.some.inj h
      have e := AttrsR.close _ ((l.dropWhile blankB).drop 1) hb
      rw [show 62 :: (l.dropWhile blankB).drop 1 = l.dropWhile blankB from (isPre_eq hp).symm, ← hl] at e
      exact e
    split at h
    · cases h
    rename_i hg
    simp only [Bool.or_eq_true, Bool.not_eq_true', beq_iff_eq, not_or, Bool.not_eq_false] at hg
    have hD : l.dropWhile blankB = (l.dropWhile blankB).takeWhile nameC ++ (l.dropWhile blankB).dropWhile nameC := (List.takeWhile_append_dropWhile).symm
    have hN := goodN_of (fun _ hx => mem_tw hx) hg.1
    have hbn : l.takeWhile blankB ≠ [] := by
      intro e
      rw [e, List.nil_append] at hl
      exact hg.2 (by rw [← hl])
    split at h
    · rename_i q t hq
      split at h
      · rename_i hqq
        split at h
        · rename_i v c r2 ht
          cases ha : attrF f r2 with
          | none => rw [ha] at h; cases h
          | some p =>
            rw [ha] at h
            simp only [Option.map_some, Option.some.injEq, Prod.mk.injEq] at h
            obtain ⟨rfl, h2⟩ := h
            obtain ⟨av2, em2, r3⟩ := p
            simp only [Prod.mk.injEq] at h2
            obtain ⟨rfl, rfl⟩ := h2
            have ht2 := txt_ok (by rcases hqq with rfl | rfl <;> simp) ht (List.cons_ne_nil _ _)
            obtain ⟨k1, k2, k3⟩ := ht2
            have hc : c = q := by simpa using k3
            subst hc
            have := attrs_of f r2 av2 em2 r3 ha
            have e := AttrsR.attr _ _ _ _ _ _ _ _ _ hb hbn hN hqq k1 k2 this
            rw [← hq, ← hD, ← hl] at e
            exact e
        · cases h
      · cases h
    · cases h

/-- What an element's reading says. -/
def ElOk (el : List UInt8 → Option (XEl × List UInt8)) : Prop := ∀ l e r, el l = some (e, r) → ∃ nm av em t r1, l = nm ++ t ∧ GoodN nm ∧ AttrsR t av em r1 ∧ ((em = true ∧ e = .mk nm av [] [] ∧ r = r1) ∨ (em = false ∧ ∃ ks, e = .mk nm av [] ks ∧ Cont r1 nm ks r))
theorem kids_cont {el : List UInt8 → Option (XEl × List UInt8)} (hel : ElOk el) (nm : List UInt8) : ∀ (f : Nat) (l : List UInt8) (ks : List XEl) (r : List UInt8), kidsF el nm f l = some (ks, r) → Cont l nm ks r
  | 0, _, _, _, h => by cases h
  | f + 1, l, ks, r, h => by
    unfold kidsF at h
    split at h
    · cases h
    rename_i hne
    split at h
    · rename_i hp
      have hl := isPre_eq hp
      split at h
      · rename_i hc
        cases Option.some.inj h
        obtain ⟨h1, h2, h3⟩ := hc
        have hN := goodN_of (fun _ hx => mem_tw hx) h2
        have e3 := isPre_eq h3
        have e1 : l.drop 2 = (l.drop 2).takeWhile nameC ++ (l.drop 2).dropWhile nameC := (List.takeWhile_append_dropWhile).symm
        have e2 : (l.drop 2).dropWhile nameC = ((l.drop 2).dropWhile nameC).takeWhile blankB ++ ((l.drop 2).dropWhile nameC).dropWhile blankB := (List.takeWhile_append_dropWhile).symm
        rw [h1] at hN e1
        have := Cont.done nm _ ((((l.drop 2).dropWhile nameC).dropWhile blankB).drop 1) hN (blanks_tw ((l.drop 2).dropWhile nameC))
        rw [show (62 :: (((l.drop 2).dropWhile nameC).dropWhile blankB).drop 1) = ((l.drop 2).dropWhile nameC).dropWhile blankB from e3.symm, ← e2, ← e1] at this
        rw [hl]
        exact this
      · cases h
    rename_i hp1
    split at h
    · rename_i hp
      have hl := isPre_eq hp
      split at h
      · cases h
      · rename_i p hc
        obtain ⟨k1, k2⟩ := comment_of (c := p.1) (r := p.2) hc
        cases hk : kidsF el nm f p.2 with
        | none => rw [hk] at h; cases h
        | some q =>
          rw [hk] at h
          simp only [Option.map_some, Option.some.injEq, Prod.mk.injEq] at h
          obtain ⟨rfl, rfl⟩ := h
          have := Cont.com p.1 p.2 nm q.1 q.2 k2 (kids_cont hel nm f p.2 q.1 q.2 hk)
          rw [← k1] at this
          rw [hl]
          exact this
    split at h
    · rename_i hp
      have hl := isPre_eq hp
      split at h
      · cases h
      · rename_i p he
        cases hk : kidsF el nm f p.2 with
        | none => rw [hk] at h; cases h
        | some q =>
          rw [hk] at h
          simp only [Option.map_some, Option.some.injEq, Prod.mk.injEq] at h
          obtain ⟨rfl, rfl⟩ := h
          have ih := kids_cont hel nm f p.2 q.1 q.2 hk
          obtain ⟨n2, av, em, t, r1, e1, hN, hA, hh⟩ := hel _ p.1 p.2 he
          rw [hl]
          have e1' : List.drop [(60 : UInt8)].length l = n2 ++ t := e1
          rw [e1']
          rcases hh with ⟨rfl, e2, e3⟩ | ⟨rfl, k2, e2, hC⟩
          · rw [e2]
            rw [e3] at ih
            exact .empty _ _ _ _ _ _ _ hN hA ih
          · rw [e2]
            exact .elem _ _ _ _ _ _ _ _ _ hN hA hC ih
    rename_i hp3
    split at h
    · cases h
    · rename_i p ht
      cases hk : kidsF el nm f p.2 with
      | none => rw [hk] at h; cases h
      | some q =>
        rw [hk] at h
        simp only [Option.map_some, Option.some.injEq, Prod.mk.injEq] at h
        obtain ⟨rfl, rfl⟩ := h
        have ih := kids_cont hel nm f p.2 q.1 q.2 hk
        have hr : p.2 ≠ [] := by
          intro e
          rw [e] at hk
          cases f with
          | zero => cases hk
          | succ f => unfold kidsF at hk; rw [if_pos rfl] at hk; cases hk
        obtain ⟨k1, k2, k3⟩ := txt_ok (v := p.1) (r := p.2) (.inl rfl) ht hr
        cases l with
        | nil => exact absurd rfl hne
        | cons c t =>
          have hc : c ≠ 60 := by
            rintro rfl
            exact hp3 rfl
          cases hp2 : p.2 with
          | nil => exact absurd hp2 hr
          | cons d t2 =>
            rw [hp2] at k1 k3 ih
            have hd : d = 60 := by simpa using k3
            subst hd
            exact .text _ _ _ _ _ _ _ hc k1 k2 (txp_ne hc k1) ih
theorem elemC_ok {kids : List UInt8 → List UInt8 → Option (List XEl × List UInt8)} (hk : ∀ nm l ks r, kids nm l = some (ks, r) → Cont l nm ks r) : ElOk (elemC kids) := by
  intro l e r h
  unfold elemC at h
  split at h
  · cases h
  rename_i hg
  simp only [Bool.not_eq_true', Bool.not_eq_false] at hg
  have hl : l = l.takeWhile nameC ++ l.dropWhile nameC := (List.takeWhile_append_dropWhile).symm
  have hN := goodN_of (fun _ hx => mem_tw hx) hg
  split at h
  · cases h
  · rename_i av r1 ha
    cases Option.some.inj h
    exact ⟨_, _, _, _, _, hl, hN, attrs_of _ _ _ _ _ ha, .inl ⟨rfl, rfl, rfl⟩⟩
  · rename_i av r1 ha
    cases hq : kids (l.takeWhile nameC) r1 with
    | none => rw [hq] at h; cases h
    | some q =>
      rw [hq] at h
      simp only [Option.map_some, Option.some.injEq, Prod.mk.injEq] at h
      obtain ⟨rfl, rfl⟩ := h
      exact ⟨_, _, _, _, _, hl, hN, attrs_of _ _ _ _ _ ha, .inr ⟨rfl, _, rfl, hk _ _ _ _ hq⟩⟩
theorem elemL_ok : ∀ d : Nat, ElOk (elemL d)
  | 0 => elemC_ok (fun _ _ _ _ h => by cases h)
  | d + 1 => elemC_ok (fun nm l ks r h => kids_cont (elemL_ok d) nm _ l ks r h)

theorem blank_dec {c : UInt8} (h : blankB c = true) : c = 32 ∨ c = 9 ∨ c = 10 := by
  unfold blankB at h
  simpa [or_assoc] using h
theorem blanks_txp : ∀ (b : List UInt8) (b0 b1 : UInt8) (t : List UInt8), Blanks b → TxP 60 b0 b1 (b ++ 60 :: t) b (60 :: t)
  | [], _, _, _, _ => .stop _ _ _
  | c :: b, b0, b1, t, h => by
    have hc := blank_dec (h c (by simp))
    refine .byte _ _ _ _ _ _ ?_ ?_ ?_ ?_ ?_ (blanks_txp b b1 c t fun x hx => h x (by simp [hx]))
    all_goals rcases hc with rfl | rfl | rfl
    all_goals first | decide | (rintro ⟨_, _, h⟩; exact absurd h (by decide))
theorem blanks_good : ∀ b : List UInt8, Blanks b → GoodT b
  | [], _ => .nil
  | c :: b, h => by
    have hc := blank_dec (h c (by simp))
    have h128 : c.toNat < 128 := by rcases hc with rfl | rfl | rfl <;> decide
    have hd : decodeL (c :: b) = (c.toNat, 1) := decode_ascii c b h128
    refine .cons _ (List.cons_ne_nil _ _) ?_ ?_ ?_
    · rw [hd]; rcases hc with rfl | rfl | rfl <;> decide
    · rw [hd]; rintro ⟨e, _⟩; dsimp only at e; omega
    · rw [hd]; exact blanks_good b fun x hx => h x (by simp [hx])
theorem dw_dw : ∀ l : List UInt8, (l.dropWhile blankB).dropWhile blankB = l.dropWhile blankB
  | [] => rfl
  | c :: t => by
    cases hc : blankB c with
    | true => rw [List.dropWhile_cons, if_pos hc]; exact dw_dw t
    | false => rw [List.dropWhile_cons, if_neg (by rw [hc]; decide), List.dropWhile_cons, if_neg (by rw [hc]; decide)]
theorem prol_head {f : Nat} {l t : List UInt8} (h : prologF f l = some (60 :: t)) (hb : l.dropWhile blankB = l) : ∃ t2, l = 60 :: t2 := by
  cases f with
  | zero => cases h
  | succ f =>
    unfold prologF at h
    rw [hb] at h
    split at h
    · omega
    split at h
    · rename_i hp
      exact ⟨_, isPre_eq hp⟩
    · cases Option.some.inj h
      exact ⟨_, rfl⟩
theorem prol_of : ∀ (f : Nat) (l t : List UInt8), prologF f l = some (60 :: t) → Prol l t
  | 0, _, _, h => by cases h
  | f + 1, l, t, h => by
    have hl : l = l.takeWhile blankB ++ l.dropWhile blankB := (List.takeWhile_append_dropWhile).symm
    unfold prologF at h
    split at h
    · rename_i hlt
      have ih := prol_of f _ t h
      have hb := blanks_tw l
      have hne : l.takeWhile blankB ≠ [] := by
        intro e
        rw [e, List.nil_append] at hl
        rw [← hl] at hlt
        omega
      have hd : ∃ t2, l.dropWhile blankB = 60 :: t2 := prol_head h (dw_dw l)
      obtain ⟨t2, hd⟩ := hd
      rw [hd] at ih hl
      cases hbb : l.takeWhile blankB with
      | nil => exact absurd hbb hne
      | cons c b =>
        rw [hbb] at hl hb
        rw [hl, List.cons_append]
        have hc := blank_dec (hb c (by simp))
        exact .text _ _ _ _ _ (by rcases hc with rfl | rfl | rfl <;> decide) (blanks_txp (c :: b) 0 0 t2 hb) (blanks_good _ hb) (List.cons_ne_nil _ _) ih
    split at h
    · rename_i hp
      have hl := isPre_eq hp
      split at h
      · cases h
      · rename_i p hc
        obtain ⟨k1, k2⟩ := comment_of (c := p.1) (r := p.2) hc
        have := Prol.com p.1 p.2 t k2 (prol_of f p.2 t h)
        rw [← k1] at this
        rw [hl]
        exact this
    · cases Option.some.inj h
      exact .here _

/-- A document that spec.XRead takes. -/
theorem xread_doc {l : List UInt8} {e : XEl} (h : xreadL l = some e) : ∃ l2 t nm av em t2 r1 ks r, (l = declL ++ l2 ∨ l = l2) ∧ Prol l2 t ∧ t = nm ++ t2 ∧ GoodN nm ∧ AttrsR t2 av em r1 ∧ e = .mk nm av [] ks ∧ ((em = true ∧ ks = []) ∨ (em = false ∧ Cont r1 nm ks r)) := by
  unfold xreadL at h
  split at h
  · rename_i t hp
    split at h
    · rename_i e2 r he
      split at h
      · cases Option.some.inj h
        have hP := prol_of _ _ _ hp
        obtain ⟨nm, av, em, t2, r1, h1, h2, h3, h4⟩ := elemL_ok 40 _ _ _ he
        have hpre : ∃ l2, (l = declL ++ l2 ∨ l = l2) ∧ (if isPre declL l then l.drop declL.length else l) = l2 := by
          by_cases hd : isPre declL l = true
          · exact ⟨_, .inl (isPre_eq hd), by rw [if_pos hd]⟩
          · exact ⟨_, .inr rfl, by rw [if_neg hd]⟩
        obtain ⟨l2, q1, q2⟩ := hpre
        rw [q2] at hP
        rcases h4 with ⟨rfl, rfl, rfl⟩ | ⟨rfl, ks, rfl, hC⟩
        · exact ⟨l2, t, nm, av, true, t2, r, [], r, q1, hP, h1, h2, h3, rfl, .inl ⟨rfl, rfl⟩⟩
        · exact ⟨l2, t, nm, av, false, t2, r1, ks, r, q1, hP, h1, h2, h3, rfl, .inr ⟨rfl, hC⟩⟩
      · cases h
    · cases h
  · cases h
end Go.Proofs.YtlljphipglgjiaaGreatDoor

namespace Go.Proofs.YtlljphipglgjiaaGreatDoor
open Go.Lib

theorem at_cons {s : ByteArray} {i : Nat} {x : UInt8} {l : List UInt8} (h : s.data.toList.drop i = x :: l) : ∃ hi : i < s.size, s[i] = x ∧ s.data.toList.drop (i + 1) = l := by
  have hi : i < s.size := by
    rcases Nat.lt_or_ge i s.size with h1 | h1
    · exact h1
    · rw [List.drop_of_length_le (by rw [list_size]; exact h1)] at h
      cases h
  rw [drop_cons s i hi] at h
  injection h with h1 h2
  exact ⟨hi, h1, h2⟩
theorem at_app {s : ByteArray} {i : Nat} {a l : List UInt8} (h : s.data.toList.drop i = a ++ l) (hl : l ≠ []) :
    s.data.toList.drop (i + a.length) = l ∧ i + a.length < s.size ∧ sub s i (i + a.length) = a ∧ ∀ k (hk : k < s.size), i ≤ k → k < i + a.length → s[k] ∈ a := by
  have h1 : s.data.toList.drop (i + a.length) = l := by rw [← List.drop_drop, h, List.drop_left' rfl]
  have h2 : i + a.length < s.size := by
    rcases Nat.lt_or_ge (i + a.length) s.size with h2 | h2
    · exact h2
    · rw [List.drop_of_length_le (by rw [list_size]; exact h2)] at h1
      exact absurd h1.symm hl
  have h3 : sub s i (i + a.length) = a := by
    unfold sub
    rw [h, Nat.add_sub_cancel_left, List.take_left' rfl]
  refine ⟨h1, h2, h3, fun k hk hik hka => ?_⟩
  have h4 : (s.data.toList.drop i)[k - i]? = some (s[k]) := by
    rw [List.getElem?_drop, show i + (k - i) = k by omega, List.getElem?_eq_getElem (by rw [list_size]; exact hk)]
    rfl
  rw [h, List.getElem?_append_left (by omega)] at h4
  exact List.mem_of_getElem? h4
theorem drop_len {s : ByteArray} {i : Nat} {l : List UInt8} (h : s.data.toList.drop i = l) (hi : i ≤ s.size) : i = s.size - l.length := by
  have := congrArg List.length h
  rw [List.length_drop, list_size] at this
  omega
theorem blank_B {c : UInt8} (h : blankB c = true) : Blank c := by
  rcases blank_dec h with rfl | rfl | rfl <;> (unfold Blank; decide)

/-- Behind which place does a comment's end stand? -/
theorem com_end {c : List UInt8} (hc : ComOK c) {k : Nat} (hk : k < c.length + 3) (h0 : (0 :: 0 :: (c ++ [45, 45, 62] : List UInt8))[k]? = some 45) (h1 : (0 :: 0 :: (c ++ [45, 45, 62] : List UInt8))[k + 1]? = some 45) : k = c.length + 2 := by
  match k, h0 with
  | 0, h0 => exact absurd h0 (by simp)
  | 1, h0 => exact absurd h0 (by simp)
  | j + 2, h0 =>
    simp only [List.getElem?_cons_succ] at h0 h1
    rcases Nat.lt_or_ge j c.length with hj | hj
    · rw [List.getElem?_append_left hj] at h0
      obtain ⟨b, hb, hb2⟩ := hc j h0
      have hj1 : j + 1 < c.length := by
        rcases Nat.lt_or_ge (j + 1) c.length with h | h
        · exact h
        · rw [List.getElem?_eq_none h] at hb; cases hb
      rw [List.getElem?_append_left hj1, hb] at h1
      exact absurd (Option.some.inj h1) hb2
    · rw [List.getElem?_append_right (by omega)] at h1
      have : j + 1 - c.length = 1 ∨ j + 1 - c.length = 2 ∨ 3 ≤ j + 1 - c.length := by omega
      rcases this with h | h | h
      · omega
      · rw [h] at h1; exact absurd h1 (by decide)
      · omega
/-- At its end stand three signs. -/
theorem com_there (c : List UInt8) : (0 :: 0 :: (c ++ [45, 45, 62] : List UInt8))[c.length + 2]? = some 45 ∧ (0 :: 0 :: (c ++ [45, 45, 62] : List UInt8))[c.length + 3]? = some 45 ∧ (0 :: 0 :: (c ++ [45, 45, 62] : List UInt8))[c.length + 4]? = some 62 := by
  refine ⟨?_, ?_, ?_⟩
  · simp
  · show ((c ++ [45, 45, 62] : List UInt8))[c.length + 1]? = some 45
    rw [List.getElem?_append_right (by omega)]
    simp
  · show ((c ++ [45, 45, 62] : List UInt8))[c.length + 2]? = some 62
    rw [List.getElem?_append_right (by omega)]
    simp

/-- Names as they are met: a slash, a sign, a blank end them. -/
theorem head_not_name {b r : List UInt8} {c : UInt8} (hb : Blanks b) (hc : nameB c = false ∧ c.toNat < 128) : ∃ d t, b ++ c :: r = d :: t ∧ nameB d = false ∧ d.toNat < 128 := by
  cases b with
  | nil => exact ⟨c, r, rfl, hc⟩
  | cons x b =>
    refine ⟨x, _, rfl, ?_⟩
    rcases blank_dec (hb x (by simp)) with rfl | rfl | rfl <;> exact ⟨by decide, by decide⟩
theorem attrs_head {t : List UInt8} {av : List AttrS} {em : Bool} {r : List UInt8} (h : AttrsR t av em r) : ∃ d t2, t = d :: t2 ∧ nameB d = false ∧ d.toNat < 128 := by
  cases h with
  | empty b r hb => exact head_not_name hb ⟨by decide, by decide⟩
  | close b r hb => exact head_not_name hb ⟨by decide, by decide⟩
  | attr b nm q t v r2 av em r hb hne =>
    cases b with
    | nil => exact absurd rfl hne
    | cons x b =>
      refine ⟨x, _, rfl, ?_⟩
      rcases blank_dec (hb x (by simp)) with rfl | rfl | rfl <;> exact ⟨by decide, by decide⟩
/-- A name at a place: what readers of names ask. -/
theorem name_at {s : ByteArray} {i : Nat} {nm l : List UInt8} (hN : GoodN nm) (h : s.data.toList.drop i = nm ++ l) (hl : ∃ d t, l = d :: t ∧ nameB d = false ∧ d.toNat < 128) :
    i < i + nm.length ∧ ∃ hj : i + nm.length < s.size, (∀ k (hk : k < s.size), i ≤ k → k < i + nm.length → nameB s[k] = true) ∧ firstB (s[i]'(by omega)) = true ∧ nameB (s[i + nm.length]'hj) = false ∧ (s[i + nm.length]'hj).toNat < 128 ∧
      QName (sub s i (i + nm.length)) (halvesL nm).1 (halvesL nm).2 ∧ sub s i (i + nm.length) = nm ∧ s.data.toList.drop (i + nm.length) = l := by
  obtain ⟨d, t, rfl, h1, h2⟩ := hl
  obtain ⟨q1, q2, q3, q4⟩ := at_app h (List.cons_ne_nil _ _)
  obtain ⟨_, q5, _⟩ := at_cons q1
  obtain ⟨c, t2, e, hc⟩ := hN.first
  have hpos : 0 < nm.length := by rw [e]; simp
  have hs : s[i]'(by omega) = c := by
    rw [e, List.cons_append] at h
    exact (at_cons h).2.1
  refine ⟨by omega, q2, fun k hk h1 h2 => hN.all _ (q4 k hk h1 h2), by rw [hs]; exact hc, by rw [q5]; exact h1, by rw [q5]; exact h2, by rw [q3]; exact hN.q, q3, q1⟩
end Go.Proofs.YtlljphipglgjiaaGreatDoor

namespace Go.Proofs.YtlljphipglgjiaaGreatDoor
open Go.RowKit Go.Lib

theorem com_get {s : ByteArray} {p : Nat} {c t : List UInt8} (h : s.data.toList.drop p = c ++ 45 :: 45 :: 62 :: t) : p + c.length + 3 ≤ s.size ∧ ∀ k (hk : p + k < s.size), k < c.length + 3 → (0 :: 0 :: (c ++ [45, 45, 62] : List UInt8))[k + 2]? = some (s[p + k]'hk) := by
  have hlen := congrArg List.length h
  rw [List.length_drop, list_size, List.length_append] at hlen
  simp only [List.length_cons] at hlen
  refine ⟨by omega, fun k hk hk2 => ?_⟩
  have h4 : (s.data.toList.drop p)[k]? = some (s[p + k]'hk) := by
    rw [List.getElem?_drop, List.getElem?_eq_getElem (by rw [list_size]; exact hk)]
    rfl
  have e : s.data.toList.drop p = (c ++ [45, 45, 62]) ++ t := by rw [h, List.append_assoc]; rfl
  rw [e, List.getElem?_append_left (by rw [List.length_append]; exact hk2)] at h4
  exact h4

set_option maxRecDepth 100000 in
set_option maxHeartbeats 8000000 in
/-- A comment. -/
theorem raw_com (M : Nat → Prop) (w : World) (L : LS) (s : ByteArray) (i : Nat) (f : Bool) (bs c t : List UInt8) (h : LowB M w L s i f bs) (hnc : L.nc = false) (hl : s.data.toList.drop i = 60 :: 33 :: 45 :: 45 :: (c ++ 45 :: 45 :: 62 :: t)) (hc : ComOK c) :
    Calls Tryz.prog 117 #[.pointer (some ⟨L.p, 0, none⟩)] w fun e w' => ∃ v, e = .returned (.tuple #[.iface 259 v, .nilIface]) ∧ (∃ bs', LowB M w' L s (i + c.length + 7) true bs') ∧ Fr M w w' := by
  obtain ⟨post, hpost⟩ : ∃ post : Ending → World → Prop, (fun e w' => ∃ v, e = .returned (.tuple #[.iface 259 v, .nilIface]) ∧ (∃ bs', LowB M w' L s (i + c.length + 7) true bs') ∧ Fr M w w') = post := ⟨_, rfl⟩
  have hfin : ∀ (v : Value) (bs' : List UInt8) (w' : World), LowB M w' L s (i + c.length + 7) true bs' → Fr M w w' → post (.returned (.tuple #[.iface 259 v, .nilIface])) w' := by
    intro v bs' w' h1 h2
    rw [← hpost]
    exact ⟨v, rfl, ⟨bs', h1⟩, h2⟩
  rw [hpost]
  have HFIN := Lib.hid hfin
  have hss := h.parts.2.2.2.1
  obtain ⟨c17, c13, c0⟩ := h.plain hnc
  obtain ⟨q0, e0, hl1⟩ := at_cons hl
  obtain ⟨q1, e1, hl2⟩ := at_cons hl1
  obtain ⟨q2, e2, hl3⟩ := at_cons hl2
  obtain ⟨q3, e3, hl4⟩ := at_cons hl3
  obtain ⟨hle, hget⟩ := com_get hl4
  have HGET := Lib.hid hget
  have HC := Lib.hid hc
  have hg1 := getcB h q0
  rw [show ((s[i]'q0).toNat : Int) = 60 by rw [e0]; rfl] at hg1
  have HG1 := Lib.hid hg1
  have hm1 : ∀ (w' : World) (f' : Bool) (bs' : List UInt8), LowB M w' L s (i + 1) f' bs' → Calls Tryz.prog 154 #[.pointer (some ⟨L.p, 0, none⟩)] w' fun e w2 => e = .returned (.tuple #[.int .u8 33, .bool true]) ∧ LowB M w2 L s (i + 1 + 1) true bs' ∧ Fr M w' w2 := by
    intro w' f' bs' h'
    have := mustgetcB h' q1
    rw [show ((s[i + 1]'q1).toNat : Int) = 33 by rw [e1]; rfl] at this
    exact this
  have hm2 : ∀ (w' : World) (f' : Bool) (bs' : List UInt8), LowB M w' L s (i + 1 + 1) f' bs' → Calls Tryz.prog 154 #[.pointer (some ⟨L.p, 0, none⟩)] w' fun e w2 => e = .returned (.tuple #[.int .u8 45, .bool true]) ∧ LowB M w2 L s (i + 1 + 1 + 1) true bs' ∧ Fr M w' w2 := by
    intro w' f' bs' h'
    have := mustgetcB h' q2
    rw [show ((s[i + 1 + 1]'q2).toNat : Int) = 45 by rw [e2]; rfl] at this
    exact this
  have hm3 : ∀ (w' : World) (f' : Bool) (bs' : List UInt8), LowB M w' L s (i + 1 + 1 + 1) f' bs' → Calls Tryz.prog 154 #[.pointer (some ⟨L.p, 0, none⟩)] w' fun e w2 => e = .returned (.tuple #[.int .u8 45, .bool true]) ∧ LowB M w2 L s (i + 1 + 1 + 1 + 1) true bs' ∧ Fr M w' w2 := by
    intro w' f' bs' h'
    have := mustgetcB h' q3
    rw [show ((s[i + 1 + 1 + 1]'q3).toNat : Int) = 45 by rw [e3]; rfl] at this
    exact this
  have HM1 := Lib.hid hm1
  have HM2 := Lib.hid hm2
  have HM3 := Lib.hid hm3
  clear h hnc hl hc hpost hfin hl1 hl2 hl3 hl4 e0 e1 e2 e3 q0 q1 q2 q3 hget hg1 hm1 hm2 hm3
  go_enter Tryz.func117, Tryz.ntmps117
  go_wp2_with fail
  refine HG1.out.mono ?_
  rintro e w1 ⟨rfl, h1, hf1⟩
  have H1 := Lib.hid h1
  have F1 := Lib.hid hf1
  clear h1 hf1
  go_wp2_with fail
  refine (HM1.out _ _ _ H1.out).mono ?_
  rintro e w2 ⟨rfl, h1, hf1⟩
  have H2 := Lib.hid h1
  have F2 := Lib.hid (F1.out.trans hf1)
  clear h1 hf1 H1 F1
  go_wp2_with fail
  refine (HM2.out _ _ _ H2.out).mono ?_
  rintro e w3 ⟨rfl, h1, hf1⟩
  have H3 := Lib.hid h1
  have F3 := Lib.hid (F2.out.trans hf1)
  clear h1 hf1 H2 F2
  go_wp2_with fail
  refine (HM3.out _ _ _ H3.out).mono ?_
  rintro e w4 ⟨rfl, h1, hf1⟩
  have H4 := Lib.hid h1
  have F4 := Lib.hid (F3.out.trans hf1)
  clear h1 hf1 H3 F3
  go_wp2_with fail
  refine (ResetB H4.out).mono ?_
  rintro e w5 ⟨rfl, h1, hf1⟩
  have H5 := Lib.hid h1
  have F5 := Lib.hid (F4.out.trans hf1)
  clear h1 hf1 H4 F4
  go_wp2_with fail
  go_loopg [4, 5, 16, 17] (c.length + 3) (fun g bv okv b0v b1v wr => ∃ (k : Nat) (b b0 b1 : UInt8) (acc : List UInt8), g = c.length + 3 - k ∧ k < c.length + 3 ∧ bv = .int .u8 b.toNat ∧ okv = .bool true ∧ b0v = .int .u8 b0.toNat ∧ b1v = .int .u8 b1.toNat ∧ acc.length = k ∧
    LowB M wr L s (i + 4 + k) true acc ∧ Fr M w wr ∧ Hid ((0 :: 0 :: (c ++ [45, 45, 62] : List UInt8))[k]? = some b0 ∧ (0 :: 0 :: (c ++ [45, 45, 62] : List UInt8))[k + 1]? = some b1))
  case atStart => exact ⟨0, 45, 0, 0, [], rfl, by omega, rfl, rfl, rfl, rfl, rfl, H5.out, F5.out, Lib.hid ⟨rfl, rfl⟩⟩
  case round =>
    obtain ⟨k, b, b0, b1, acc, hg, hk, rfl, rfl, rfl, rfl, hal, hlo, hfr, HZ⟩ := hrel
    have HG := Lib.hid hg
    have HL := Lib.hid hlo
    have HF := Lib.hid hfr
    clear hg hlo hfr
    have hks : i + 4 + k < s.size := by omega
    have hz2 := HGET.out k hks hk
    obtain ⟨d, hd⟩ : ∃ d, s[i + 4 + k]'hks = d := ⟨_, rfl⟩
    have hm := mustgetcB HL.out hks
    rw [hd] at hm hz2
    have HZ2 := Lib.hid hz2
    have HM := Lib.hid hm
    clear hz2 hm hd
    go_wp2_with fail
    refine HM.out.mono ?_
    rintro e w6 ⟨rfl, h1, hf1⟩
    have H6 := Lib.hid h1
    have F6 := Lib.hid (HF.out.trans hf1)
    clear h1 hf1 HM
    go_wp2_with fail
    refine (WriteByteB d H6.out (by omega)).mono ?_
    rintro e w7 ⟨rfl, h1, hf1⟩
    have H7 := Lib.hid h1
    have F7 := Lib.hid (F6.out.trans hf1)
    clear h1 hf1 H6 F6
    by_cases hend : k = c.length + 2
    · obtain ⟨z0, z1, z2⟩ := com_there c
      have d0 : b0 = 45 := by have := HZ.out.1; rw [hend, z0] at this; exact (Option.some.inj this).symm
      have d1 : b1 = 45 := by have := HZ.out.2; rw [hend, z1] at this; exact (Option.some.inj this).symm
      have d2 : d = 62 := by have := HZ2.out; rw [hend, z2] at this; exact (Option.some.inj this).symm
      have g0 : ((b0.toNat : Int) == 45) = true := u8_eq 45 rfl d0
      have g1 : ((b1.toNat : Int) == 45) = true := u8_eq 45 rfl d1
      have g2 : ((d.toNat : Int) != 62) = false := u8_bne 62 rfl d2
      clear d0 d1 d2 z0 z1 z2
      go_wp2_with fail
      refine (BytesB H7.out).mono ?_
      rintro e w8 ⟨buf, rfl, hlow, hbuf, h3, hf3⟩
      have H8 := Lib.hid h3
      have F8 := Lib.hid (F7.out.trans hf3)
      clear h3 hf3 hlow
      rcases hbuf.cases with ⟨rfl, hnil⟩ | ⟨g, cap, cur, rfl, hg, hlc, hm, hcs, ht⟩
      · simp at hnil
      have hm' := hm
      unfold maxLen at hm'
      have hlen : (acc ++ [d]).length = c.length + 3 := by rw [List.length_append, List.length_singleton]; omega
      rw [hlen] at hlc ⊢
      have q1 : IntKind.i64.wrap (((c.length + 3 : Nat) : Int) - 3) = (c.length : Int) := by rw [IntKind.wrap_i64]; omega
      clear hbuf hg hcs ht hm
      go_wp2_with fail
      exact HFIN.out _ _ _ (by rw [show i + c.length + 7 = i + 4 + k + 1 by omega]; exact H8.out) F8.out
    · have hne : ¬ (b0 = 45 ∧ b1 = 45) := fun ⟨d0, d1⟩ => hend (com_end HC.out hk (by rw [HZ.out.1, d0]) (by rw [HZ.out.2, d1]))
      by_cases d0 : b0 = 45
      · have g0 : ((b0.toNat : Int) == 45) = true := u8_eq 45 rfl d0
        have g1 : ((b1.toNat : Int) == 45) = false := u8_ne 45 rfl fun e => hne ⟨d0, e⟩
        clear d0 hne
        go_wp2_with fail
        go_roundg (c.length + 3 - (k + 1))
        case rel => exact ⟨k + 1, d, b1, d, acc ++ [d], rfl, by omega, rfl, rfl, rfl, rfl, by rw [List.length_append, List.length_singleton, hal], H7.out, F7.out, Lib.hid ⟨HZ.out.2, HZ2.out⟩⟩
        case measure => have := HG.out; omega
      · have g0 : ((b0.toNat : Int) == 45) = false := u8_ne 45 rfl d0
        clear d0 hne
        go_wp2_with fail
        go_roundg (c.length + 3 - (k + 1))
        case rel => exact ⟨k + 1, d, b1, d, acc ++ [d], rfl, by omega, rfl, rfl, rfl, rfl, by rw [List.length_append, List.length_singleton, hal], H7.out, F7.out, Lib.hid ⟨HZ.out.2, HZ2.out⟩⟩
        case measure => have := HG.out; omega
end Go.Proofs.YtlljphipglgjiaaGreatDoor

namespace Go.Proofs.YtlljphipglgjiaaGreatDoor
open Go.RowKit Go.Lib

/-- The open elements of a stack: the names as they stand (prefix, local part), the name spaces ahead of each. -/
def Frames : List (Nat × SRec) → NsF → List (ByteArray × ByteArray × NsF) → Prop
  | st, _, [] => st = []
  | st, F, p :: t => ∃ (b : Nat) (ok : Bool) (st' : List (Nat × SRec)), st = (b, ⟨0, p.1, p.2.1, ok⟩) :: st' ∧ undoNs st' F = p.2.2 ∧ Frames (dropNs st') p.2.2 t
def xmlnsB : ByteArray := ⟨#[120, 109, 108, 110, 115]⟩
/-- What an attribute does to the name spaces. -/
def nsAttr (F : NsF) (a : AttrS) : NsF :=
  if a.sp = xmlnsB then F.put a.loc (some a.val) else if a.sp = ⟨#[]⟩ ∧ a.loc = xmlnsB then F.put ⟨#[]⟩ (some a.val) else F
def nsAll (F : NsF) (av : List AttrS) : NsF := av.foldl nsAttr F

theorem put_undo (F : NsF) (lo v : ByteArray) : undo1 ⟨1, (F lo).getD ⟨#[]⟩, lo, (F lo).isSome⟩ (F.put lo (some v)) = F := by
  funext k
  unfold undo1 NsF.put
  dsimp only
  by_cases hk : k = lo
  · rw [if_pos hk, hk]
    cases F lo <;> rfl
  · rw [if_neg hk, if_neg hk]
/-- A record of name spaces on the top, and the set behind it: as it was. -/
theorem undo_push (b : Nat) (st : List (Nat × SRec)) (F : NsF) (lo v : ByteArray) : undoNs ((b, ⟨1, (F lo).getD ⟨#[]⟩, lo, (F lo).isSome⟩) :: st) (F.put lo (some v)) = undoNs st F := by
  rw [undoNs]
  exact congrArg (undoNs st) (put_undo F lo v)
theorem drop_push (b : Nat) (st : List (Nat × SRec)) (sp lo : ByteArray) (ok : Bool) : dropNs ((b, ⟨1, sp, lo, ok⟩) :: st) = dropNs st := by
  unfold dropNs
  rw [List.dropWhile_cons]
  rfl
theorem Frames.top {st : List (Nat × SRec)} {F : NsF} {fr : List (ByteArray × ByteArray × NsF)} (h : Frames st F fr) : dropNs st = st ∧ undoNs st F = F := by
  cases fr with
  | nil => rw [show st = [] from h]; exact ⟨rfl, rfl⟩
  | cons p t =>
    obtain ⟨b, ok, st', rfl, _⟩ := h
    refine ⟨?_, ?_⟩
    · unfold dropNs; rw [List.dropWhile_cons]; rfl
    · rw [undoNs]; rfl

/-- The decoder at P, its name spaces at block m, at place i of s; it owes an end; its open elements. -/
def DecW (M : Nat → Prop) (w : World) (P m : Nat) (s : ByteArray) (i : Nat) (owe : Option (ByteArray × ByteArray)) (fr : List (ByteArray × ByteArray × NsF)) (F : NsF) (bud : Nat) : Prop :=
  ∃ (L : LS) (f : Bool) (bs : List UInt8) (st fl : List (Nat × SRec)) (n : Nat), L.p = P ∧ L.nsb = m ∧ L.nc = owe.isSome ∧ (∀ p, owe = some p → L.tcS = p.1 ∧ L.tcL = p.2) ∧ DecM M w L s i f bs st fl ∧ NsM w m n F ∧ ¬ M m ∧ StOk st ∧ Frames st F fr ∧ n + st.length ≤ bud

section
variable {M : Nat → Prop} {w w' : World} {L : LS} {s : ByteArray} {i : Nat} {f : Bool} {bs : List UInt8} {st fl : List (Nat × SRec)}
/-- Without the blocks of the stack's records. -/
def Bare (M : Nat → Prop) (st fl : List (Nat × SRec)) (x : Nat) : Prop := M x ∧ x ∉ st.map (·.1) ++ fl.map (·.1)
theorem ChainM.blk {w : World} : ∀ {a : Option Addr} {l : List (Nat × SRec)}, ChainM w a l → ∀ b ∈ l.map (·.1), ∃ cs, Blk w b 200 cs
  | _, [], _, b, hb => by simp at hb
  | _, p :: t, ⟨_, nxt, h2, h3⟩, b, hb => by
    simp only [List.map_cons, List.mem_cons] at hb
    rcases hb with rfl | hb
    · exact ⟨_, h2⟩
    · exact h3.blk b hb
theorem DecM.bare (h : DecM M w L s i f bs st fl) : LowB (Bare M st fl) w L s i f bs := by
  obtain ⟨⟨h1, h2, h3, h4, h5, buf, ⟨lr, nb, ri, pr, line, ls, off, q1, q2, q3⟩, hB, hM⟩, hc1, hc2, _, _⟩ := h
  have hlt : ∀ b ∈ st.map (·.1) ++ fl.map (·.1), b < w.heap.size ∧ ∃ cs, Blk w b 200 cs := by
    intro b hb
    rcases List.mem_append.1 hb with hb | hb
    · exact ⟨hc1.lt b hb, hc1.blk b hb⟩
    · exact ⟨hc2.lt b hb, hc2.blk b hb⟩
  refine ⟨⟨h1, fun hm => ?_⟩, ⟨h2, fun hm => ?_⟩, fun k hk => ⟨h3 k hk, fun hm => ?_⟩, h4, h5, buf, ⟨lr, nb, ri, pr, line, ls, off, q1, q2, q3⟩, hB, fun g hg => ⟨⟨(hM g hg).1, fun hm => ?_⟩, (hM g hg).2⟩⟩
  · obtain ⟨cs, hb⟩ := (hlt _ hm).2
    exact q1.ne hb (by decide) rfl
  · obtain ⟨cs, hb⟩ := (hlt _ hm).2
    exact Blk.ne (show Blk w L.rb 190 _ from q2) hb (by decide) rfl
  · have := (hlt _ hm).1; omega
  · obtain ⟨cs, hb⟩ := (hlt _ hm).2
    rcases hB.cases with ⟨rfl, _⟩ | ⟨g', cap, cur, rfl, hg', _⟩
    · cases hg
    · cases hg
      exact Blk.ne (show Blk w g' 5 cur from hg') hb (by decide) rfl
theorem DecM.back {L' : LS} {j : Nat} {f' : Bool} {bs' : List UInt8} (h : DecM M w L s i f bs st fl) (h' : LowB (Bare M st fl) w' L' s j f' bs') (hf : Fr (Bare M st fl) w w') (hp : L'.p = L.p) (h1 : L'.stk = L.stk) (h2 : L'.free = L.free) : DecM M w' L' s j f' bs' st fl := by
  obtain ⟨_, q1, q2, q3, q4⟩ := h
  refine ⟨h'.mono fun k hk => hk.1, ?_, ?_, q3, fun b hb => by rw [hp]; exact q4 b hb⟩
  · rw [h1]; exact q1.fr hf fun b hb hm => hm.2 (List.mem_append_left _ hb)
  · rw [h2]; exact q2.fr hf fun b hb hm => hm.2 (List.mem_append_right _ hb)
end
end Go.Proofs.YtlljphipglgjiaaGreatDoor
