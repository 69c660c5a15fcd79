/-
  The decoder without blocks that are not its own.
  zxml's Decoder.text at once before its quote: nothing, but no nil.
  zxml's Decoder.attrval at a quote, over a contract of text.
  An element's start (plain): attributes, place by place.
-/
import Derived.Test.YtlljphipglgjiaaGreatDoorXmRaw
import Derived.Test.YtlljphipglgjiaaGreatDoorXmDec
import Derived.Deep.CutBlock
import Derived.Deep.DeepCutAuto
import Derived.Deep.RegionHeld3
import Derived.Test.YtlljphipglgjiaaGreatDoorXmCom
import Derived.Test.YtlljphipglgjiaaGreatDoorXmNsM
namespace Go.Proofs.YtlljphipglgjiaaGreatDoor
open Go.RowKit Go.Lib

/-- Without these blocks. -/
def Sans (M : Nat → Prop) (l : List Nat) (x : Nat) : Prop := M x ∧ x ∉ l
/-- A block that is none of the decoder's. -/
def Alien (w : World) (x : Nat) : Prop := ∃ (T : TypeId) (cs : Array Value), Blk w x T cs ∧ T ≠ 197 ∧ T ≠ 190 ∧ T ≠ 5
theorem Alien.mk {w : World} {x : Nat} {T : TypeId} {cs : Array Value} (h : Blk w x T cs) (hT : T ≠ 197 ∧ T ≠ 190 ∧ T ≠ 5) : Alien w x := ⟨T, cs, h, hT⟩
theorem LowB.sans {M : Nat → Prop} {w : World} {L : LS} {s : ByteArray} {i : Nat} {f : Bool} {bs : List UInt8} (h : LowB M w L s i f bs) (l : List Nat) (hl : ∀ x ∈ l, Alien w x) : LowB (Sans M l) w L s i f bs := by
  obtain ⟨h1, h2, h3, h4, h5, buf, ⟨lr, nb, ri, pr, line, ls, off, q1, q2, q3⟩, hB, hM⟩ := h
  refine ⟨⟨h1, fun hm => ?_⟩, ⟨h2, fun hm => ?_⟩, fun k hk => ⟨h3 k hk, fun hm => ?_⟩, h4, h5, buf, ⟨lr, nb, ri, pr, line, ls, off, q1, q2, q3⟩, hB, fun g hg => ⟨⟨(hM g hg).1, fun hm => ?_⟩, (hM g hg).2⟩⟩
  · obtain ⟨T, cs, hb, n1, n2, n3⟩ := hl _ hm
    exact q1.ne hb (Ne.symm n1) rfl
  · obtain ⟨T, cs, hb, n1, n2, n3⟩ := hl _ hm
    exact Blk.ne (show Blk w L.rb 190 _ from q2) hb (Ne.symm n2) rfl
  · obtain ⟨T, cs, hb, n1, n2, n3⟩ := hl _ hm
    have := hb.lt
    omega
  · obtain ⟨T, cs, hb, n1, n2, n3⟩ := hl _ hm
    rcases hB.cases with ⟨rfl, _⟩ | ⟨g', cap, cur, rfl, hg', _⟩
    · cases hg
    · cases hg
      exact Blk.ne (show Blk w g' 5 cur from hg') hb (Ne.symm n3) rfl
theorem Sans.sub {M : Nat → Prop} {l : List Nat} {x : Nat} (h : Sans M l x) : M x := h.1
theorem not_Sans {M : Nat → Prop} {l : List Nat} {x : Nat} (h : x ∈ l) : ¬ Sans M l x := fun hx => hx.2 h

/-- Blocks known whole beside the decoder. -/
abbrev Known := List (Nat × TypeId × Array Value)
def Known.ok (X : Known) (w : World) : Prop := ∀ x ∈ X, Blk w x.1 x.2.1 x.2.2 ∧ x.2.1 ≠ 197 ∧ x.2.1 ≠ 190 ∧ x.2.1 ≠ 5
/-- The decoder at place p, and these blocks; since w only M has turned. -/
def StA (M : Nat → Prop) (w wr : World) (L : LS) (s : ByteArray) (p : Nat) (f : Bool) (bs : List UInt8) (X : Known) : Prop := LowB M wr L s p f bs ∧ Fr M w wr ∧ X.ok wr
section
variable {M : Nat → Prop} {w wr w2 : World} {L : LS} {s : ByteArray} {p p' : Nat} {f f' : Bool} {bs bs' : List UInt8} {X : Known}
theorem Known.alien (h : X.ok wr) : ∀ x ∈ X.map (·.1), Alien wr x := by
  intro x hx
  obtain ⟨y, hy, rfl⟩ := List.mem_map.1 hx
  obtain ⟨h1, h2⟩ := h y hy
  exact Alien.mk h1 h2
theorem Known.fr {M' : Nat → Prop} (h : X.ok wr) (hf : Fr M' wr w2) (hn : ∀ x ∈ X.map (·.1), ¬ M' x) : X.ok w2 :=
  fun x hx => ⟨(h x hx).1.fr hf (hn _ (List.mem_map.2 ⟨x, hx, rfl⟩)), (h x hx).2⟩
theorem StA.low (h : StA M w wr L s p f bs X) : LowB (Sans M (X.map (·.1))) wr L s p f bs := h.1.sans _ (Known.alien h.2.2)
/-- Behind a callee. -/
theorem StA.after (h : StA M w wr L s p f bs X) (h2 : LowB (Sans M (X.map (·.1))) w2 L s p' f' bs') (hf : Fr (Sans M (X.map (·.1))) wr w2) : StA M w w2 L s p' f' bs' X :=
  ⟨h2.mono fun _ hx => hx.1, h.2.1.trans (hf.mono fun _ hx => hx.1), Known.fr h.2.2 hf fun _ hx => not_Sans hx⟩
theorem StA.wid (h : StA M w wr L s p f bs X) (hb : Below wr.heap.size wr w2) : StA M w w2 L s p f bs X :=
  ⟨h.1.below hb, h.2.1.trans (Fr.below hb (Nat.le_refl _) h.1.parts.2.2.1), fun x hx => ⟨(hb.block _ (h.2.2 x hx).1.lt).trans (h.2.2 x hx).1, (h.2.2 x hx).2⟩⟩
theorem StA.alloc (h : StA M w wr L s p f bs X) (T : TypeId) (cs : Array Value) (hT : T ≠ 197 ∧ T ≠ 190 ∧ T ≠ 5) : StA M w (wr.alloc (.cells cs T)) L s p f bs ((wr.heap.size, T, cs) :: X) := by
  have hb : Below wr.heap.size wr (wr.alloc (.cells cs T)) := (Below.refl _ _).alloc (Nat.le_refl _) _
  refine ⟨h.1.below hb, h.2.1.trans (Fr.below hb (Nat.le_refl _) h.1.parts.2.2.1), fun x hx => ?_⟩
  rcases List.mem_cons.1 hx with rfl | hx
  · exact ⟨Blk.new wr T cs, hT⟩
  · exact ⟨(hb.block _ (h.2.2 x hx).1.lt).trans (h.2.2 x hx).1, (h.2.2 x hx).2⟩
/-- The head block gets a cell. -/
theorem StA.set {b : Nat} {T : TypeId} {cs : Array Value} (h : StA M w wr L s p f bs ((b, T, cs) :: X)) (hb : b ∉ X.map (·.1)) (hw : M b) (k : Nat) (u : Value) : StA M w (wr.setCell ⟨b, k, none⟩ u) L s p f bs ((b, T, cs.setIfInBounds k u) :: X) := by
  refine ⟨((h.low).setOther (q := ⟨b, k, none⟩) (not_Sans (by simp)) u).mono fun _ hx => hx.1, h.2.1.setCell (p := ⟨b, k, none⟩) hw u, fun x hx => ?_⟩
  rcases List.mem_cons.1 hx with rfl | hx
  · exact ⟨(h.2.2 (b, T, cs) (by simp)).1.set k u, (h.2.2 (b, T, cs) (by simp)).2⟩
  · refine ⟨(h.2.2 x (by simp [hx])).1.far (p := ⟨b, k, none⟩) (fun e => hb (List.mem_map.2 ⟨x, hx, e⟩)) u, (h.2.2 x (by simp [hx])).2⟩
theorem StA.tail {x : Nat × TypeId × Array Value} (h : StA M w wr L s p f bs (x :: X)) : StA M w wr L s p f bs X := ⟨h.1, h.2.1, fun y hy => h.2.2 y (by simp [hy])⟩
theorem StA.lt (h : StA M w wr L s p f bs X) : ∀ x ∈ X.map (·.1), x < wr.heap.size := by
  intro x hx
  obtain ⟨y, hy, rfl⟩ := List.mem_map.1 hx
  exact (h.2.2 y hy).1.lt
end
end Go.Proofs.YtlljphipglgjiaaGreatDoor

namespace Go.Proofs.YtlljphipglgjiaaGreatDoor
open Go.RowKit Go.Lib

set_option maxHeartbeats 400000 in
/-- Reset keeps the buffer's row. -/
theorem buf_Reset_keep (M : Nat → Prop) (b o g cap : Nat) (T : TypeId) (cs cur : Array Value) (n : Nat) (lr : Int) (w : World)
    (hblk : Blk w b T ((cs.setIfInBounds o (.slice (some ⟨g, 0, none⟩) n cap)).setIfInBounds (o + 2) (.int .i8 lr))) (hs : o + 2 < cs.size) (h1 : cs[o + 1]? = some (.int .i64 0))
    (hg : w.heap[g]? = some (.cells cur 5 (0, 0))) (_hl : n ≤ cap) (_hm : cap ≤ maxLen) (hgb : g ≠ b) (hb : M b) :
    Calls Tryz.prog 158 #[.pointer (some ⟨b, o, none⟩)] w fun e w' => e = .returned (.tuple #[]) ∧ (∃ lr', Blk w' b T ((cs.setIfInBounds o (.slice (some ⟨g, 0, none⟩) 0 cap)).setIfInBounds (o + 2) (.int .i8 lr'))) ∧
      w'.heap[g]? = some (.cells cur 5 (0, 0)) ∧ Fr M w w' := by
  have c0 := buf_c0 hblk hs
  have c1 := buf_c1 hblk h1
  have c2 := buf_c2 hblk hs
  have hf := hblk.frozen
  have HB := Lib.hid hblk
  have H1 := Lib.hid h1
  have HG := Lib.hid hg
  unfold maxLen at _hm
  clear hblk h1 hg
  go_enter Tryz.func158, Tryz.ntmps158
  go_wp2_with fail
  go_end0
  refine ⟨rfl, ⟨_, buf_set2 (buf_set1 (buf_set0 HB.out _) H1.out) _⟩, ?_, (((Fr.refl _ _).setCell hb _).setCell hb _).setCell hb _⟩
  rw [Below.heap_setCell _ _ _ _ hgb, Below.heap_setCell _ _ _ _ hgb, Below.heap_setCell _ _ _ _ hgb]
  exact HG.out

section
variable {M : Nat → Prop} {w : World} {L : LS} {s : ByteArray} {i : Nat} {f : Bool} {bs : List UInt8}
theorem ResetK (h : LowB M w L s i f bs) (hbs : bs ≠ []) :
    Calls Tryz.prog 158 #[.pointer (some ⟨L.p, 10, none⟩)] w fun e w' => e = .returned (.tuple #[]) ∧ ∃ g cap, Low w' L s i f (.slice (some ⟨g, 0, none⟩) 0 cap) ∧ BufH w' (.slice (some ⟨g, 0, none⟩) 0 cap) [] ∧ (M g ∧ g ≠ L.p) ∧ LowB M w' L s i f [] ∧ Fr M w w' := by
  obtain ⟨hMp, hMr, hN, hss, hbl⟩ := h.parts
  obtain ⟨nb, ri, pr, line, ls, off, hb, h2, h3⟩ := h.toM
  have hne : L.p ≠ L.rb := by obtain ⟨_, _, _, _, _, _, hL, _⟩ := h; exact hL.ne
  obtain ⟨buf, lr, hblk, hsz, h1, hB, hM⟩ := buf_Mr hb h2
  rcases hB.cases with ⟨_, hx⟩ | ⟨g, cap, cur, rfl, hg, hlc, hm, hcs, ht⟩
  · exact absurd hx hbs
  refine (buf_Reset_keep (fun k => M k ∧ k ≠ L.rb) L.p 10 g cap 197 _ cur bs.length lr w hblk hsz h1 hg hlc hm (hM g rfl).2 ⟨hMp, hne⟩).mono ?_
  rintro e w' ⟨he, ⟨lr', q1⟩, q2, hf⟩
  have hf' : Fr M w w' := hf.mono fun x hx => hx.1
  have hbuf : BufH w' (.slice (some ⟨g, 0, none⟩) 0 cap) [] := BufH.mk (bs := []) q2 (Nat.zero_le _) hm hcs rfl
  have hbm : BufM M w' L.p 10 197 (lcells L (.slice none 0 0) 0 nb line ls off) [] := ⟨_, lr', q1, hsz, h1, hbuf, fun g' hg' => by cases hg'; exact ⟨(hM g rfl).1.1, (hM g rfl).2⟩⟩
  exact ⟨he, g, cap, ⟨lr', nb, ri, pr, line, ls, off, q1.eq rfl, h2.fr hf fun hx => hx.2 rfl, h3⟩, hbuf, ⟨(hM g rfl).1.1, (hM g rfl).2⟩, LowB.ofM hMp hMr (hN.fr hf') hss (by simp) hbm (h2.fr hf fun hx => hx.2 rfl) h3, hf'⟩
end

set_option maxRecDepth 100000 in
set_option maxHeartbeats 4000000 in
theorem text_empty (q : UInt8) (M : Nat → Prop) (w : World) (L : LS) (s : ByteArray) (i : Nat) (f : Bool) (bs : List UInt8) (hq : q = 34 ∨ q = 39)
    (h : LowB M w L s i f bs) (hbs : bs ≠ []) (hi : i < s.size) (hc : s[i] = q) :
    Calls Tryz.prog 153 #[.pointer (some ⟨L.p, 0, none⟩), .int .i64 (q.toNat : Int), .bool false] w (TxPost M w L s (i + 1) true []) := by
  have hss := h.parts.2.2.2.1
  obtain ⟨post, hpost⟩ : ∃ post, TxPost M w L s (i + 1) true [] = post := ⟨_, rfl⟩
  have hfin : ∀ (g cap : Nat) (w' : World), BufH w' (.slice (some ⟨g, 0, none⟩) 0 cap) [] → LowB M w' L s (i + 1) true [] → Fr M w w' → post (.returned (.slice (some ⟨g, 0, none⟩) 0 cap)) w' := by
    intro g cap w' h1 h2 h3
    rw [← hpost]
    exact ⟨g, cap, rfl, h1, h2, h3⟩
  rw [hpost]
  have HFIN := Lib.hid hfin
  have H := Lib.hid h
  have HBS := Lib.hid hbs
  have HSI := Lib.hid hc
  have hql := q.toNat_lt
  have qd : decide ((0 : Int) ≤ (q.toNat : Int)) = true := decide_eq_true (Int.natCast_nonneg _)
  have qn : decide ((q.toNat : Int) < 0) = false := decide_eq_false (by omega)
  have qw : IntKind.u8.wrap (q.toNat : Int) = (q.toNat : Int) := by rw [IntKind.wrap_u8]; omega
  have eq1 : ((q.toNat : Int) == 60) = false := u8_ne 60 rfl (by rcases hq with rfl | rfl <;> decide)
  clear hpost hfin h hbs hc hq
  go_enter Tryz.func153, Tryz.ntmps153
  go_wp2_with fail
  go_step3
  go_wp2_with fail
  refine (ResetK H.out HBS.out).mono ?_
  rintro e w1 ⟨rfl, g, cap, hlow, hbuf, hg, h1, hf1⟩
  have HLOW := Lib.hid hlow
  have HBUF := Lib.hid hbuf
  have H1 := Lib.hid h1
  have F1 := Lib.hid hf1
  have HGM := Lib.hid hg
  clear hlow hbuf h1 hf1 hg
  go_wp2_with fail
  go_step3
  go_wp2_with fail
  refine wp_loop_once ?_
  go_wp2_with fail
  have hgc := getc_low L s i f _ w1 HLOW.out hss hi
  rw [HSI.out] at hgc
  refine hgc.mono ?_
  rintro e w2 ⟨rfl, hlow2, hf2⟩
  obtain ⟨hMp, hMr, hN, _, hbl⟩ := H1.out.parts
  have h2 := LowB.step hMp hMr hN hss (by simp) HLOW.out hlow2 HBUF.out (fun g' hg' => by cases hg'; exact HGM.out) hf2
  have H2 := Lib.hid h2.1
  have F2 := Lib.hid (F1.out.trans h2.2)
  have HLOW2 := Lib.hid hlow2
  clear hgc hlow2 hf2 h2 hN hbl hMp hMr
  go_wp2_with fail
  obtain ⟨nb, ri, pr, line, ls, off, hbm, _, _⟩ := H2.out.toM
  have hsz : 10 + 2 < (lcells L (.slice none 0 0) 0 nb line ls off).size := by obtain ⟨_, _, _, h, _⟩ := hbm; exact h
  refine (buf_Bytes M L.p 10 197 _ [] w2 hbm (by simp)).mono ?_
  rintro e w3 ⟨buf, lr, rfl, hb3, hbh, nn, rfl⟩
  have e1 : some buf = some (.slice (some ⟨g, 0, none⟩) 0 cap) := (buf_c0 hb3 hsz).symm.trans HLOW2.out.cell10
  obtain rfl := Option.some.inj e1
  have HBH := Lib.hid hbh
  have HL3 := Lib.hid (LowB.below H2.out (w' := w2.drewN nn) ⟨rfl, rfl, rfl, Nat.le_refl _, fun _ _ => rfl⟩)
  have F3 := Lib.hid (F2.out.drewN nn)
  clear hbm hb3 hbh e1 hsz
  go_wp2_with fail
  refine wp_loop_once ?_
  go_wp2_with fail
  exact HFIN.out g cap _ HBH.out HL3.out F3.out
end Go.Proofs.YtlljphipglgjiaaGreatDoor

namespace Go.Proofs.YtlljphipglgjiaaGreatDoor
open Go.RowKit Go.Lib

set_option maxRecDepth 100000 in
set_option maxHeartbeats 4000000 in
theorem attrval_any (q : UInt8) (M : Nat → Prop) (w : World) (L : LS) (s : ByteArray) (i je : Nat) (f : Bool) (bs v : List UInt8) (hq : q = 34 ∨ q = 39)
    (h : LowB M w L s i f bs) (hi : i < s.size) (hc : s[i] = q)
    (htx : ∀ w' : World, LowB M w' L s (i + 1) true bs → Fr M w w' → Calls Tryz.prog 153 #[.pointer (some ⟨L.p, 0, none⟩), .int .i64 (q.toNat : Int), .bool false] w' (TxPost M w' L s je true v)) :
    Calls Tryz.prog 165 #[.pointer (some ⟨L.p, 0, none⟩)] w (TxPost M w L s je true v) := by
  have hss := h.parts.2.2.2.1
  obtain ⟨post, hpost⟩ : ∃ post, TxPost M w L s je true v = post := ⟨_, rfl⟩
  have hfin : ∀ (e : Ending) (w1 w' : World), Fr M w w1 → TxPost M w1 L s je true v e w' → post e w' := by
    rintro e w1 w' h1 ⟨g, cap, h2, h3, h4, h5⟩
    rw [← hpost]
    exact ⟨g, cap, h2, h3, h4, h1.trans h5⟩
  rw [hpost]
  have HFIN := Lib.hid hfin
  have H := Lib.hid h
  have HSI := Lib.hid hc
  have HTX := Lib.hid htx
  have hql := q.toNat_lt
  have hm := mustgetcB h hi
  rw [hc] at hm
  have HM := Lib.hid hm
  have HQ := Lib.hid hq
  clear hpost hfin h hc htx hm hq
  have walk : ∀ (c1 c2 : Bool), ((q.toNat : Int) == 34) = c1 → ((q.toNat : Int) == 39) = c2 → (c1 || c2) = true → Calls Tryz.prog 165 #[.pointer (some ⟨L.p, 0, none⟩)] w post := by
    intro c1 c2 e1 e2 e3
    have qw : IntKind.i64.wrap (q.toNat : Int) = (q.toNat : Int) := by rw [IntKind.wrap_i64]; omega
    cases c1 with
    | true =>
      clear e3
      have hq34 : q = 34 := UInt8.toNat_inj.1 (by have := beq_iff_eq.1 e1; have h : (34 : UInt8).toNat = 34 := rfl; omega)
      subst hq34
      clear e1 e2 qw
      go_enter Tryz.func165, Tryz.ntmps165
      go_wp2_with fail
      refine HM.out.mono ?_
      rintro e w2 ⟨rfl, h1, hf1⟩
      have HT := Lib.hid (HTX.out w2 h1 hf1)
      have HF := Lib.hid hf1
      clear h1 hf1
      go_wp2_with fail
      refine HT.out.mono ?_
      rintro e w3 h3
      have HP := Lib.hid (HFIN.out e w2 w3 HF.out h3)
      obtain ⟨g, cap, rfl, _⟩ := h3
      go_wp2_with fail
      first | (go_ret; exact HP.out) | exact HP.out
    | false =>
      have hq39 : q = 39 := by rcases HQ.out with rfl | rfl; (exact absurd e1 (by decide)); rfl
      subst hq39
      clear e1 e2 e3 qw
      go_enter Tryz.func165, Tryz.ntmps165
      go_wp2_with fail
      refine HM.out.mono ?_
      rintro e w2 ⟨rfl, h1, hf1⟩
      have HT := Lib.hid (HTX.out w2 h1 hf1)
      have HF := Lib.hid hf1
      clear h1 hf1
      go_wp2_with fail
      refine HT.out.mono ?_
      rintro e w3 h3
      have HP := Lib.hid (HFIN.out e w2 w3 HF.out h3)
      obtain ⟨g, cap, rfl, _⟩ := h3
      go_wp2_with fail
      first | (go_ret; exact HP.out) | exact HP.out
  rcases HQ.out with rfl | rfl
  · exact walk true false rfl rfl rfl
  · exact walk false true rfl rfl rfl

end Go.Proofs.YtlljphipglgjiaaGreatDoor

namespace Go.Proofs.YtlljphipglgjiaaGreatDoor
open Go.RowKit Go.Lib

theorem AttrsR.inv {l : List UInt8} {av : List AttrS} {em : Bool} {r : List UInt8} (h : AttrsR l av em r) :
    (∃ b, Blanks b ∧ l = b ++ 47 :: 62 :: r ∧ av = [] ∧ em = true) ∨ (∃ b, Blanks b ∧ l = b ++ 62 :: r ∧ av = [] ∧ em = false) ∨
    ∃ b nm q t v r2 av2, Blanks b ∧ b ≠ [] ∧ GoodN nm ∧ (q = 34 ∨ q = 39) ∧ TxP q 0 0 t v (q :: r2) ∧ GoodT v ∧ AttrsR r2 av2 em r ∧ l = b ++ (nm ++ 61 :: q :: t) ∧ av = attrOf nm v :: av2 := by
  cases h with
  | empty b r hb => exact .inl ⟨b, hb, rfl, rfl, rfl⟩
  | close b r hb => exact .inr (.inl ⟨b, hb, rfl, rfl, rfl⟩)
  | attr b nm q t v r2 av em r h1 h2 h3 h4 h5 h6 h7 => exact .inr (.inr ⟨b, nm, q, t, v, r2, av, h1, h2, h3, h4, h5, h6, h7, rfl, rfl⟩)
theorem first_blank {c : UInt8} (h : firstB c = true) : ¬ Blank c := by
  unfold firstB at h
  unfold Blank
  simp at h
  omega
theorem first_not {c : UInt8} (h : firstB c = true) : c ≠ 47 ∧ c ≠ 62 ∧ c ≠ 63 ∧ c ≠ 33 := by
  refine ⟨?_, ?_, ?_, ?_⟩ <;> (rintro rfl; exact absurd h (by decide))
theorem txp_nil {q b0 b1 : UInt8} {l r : List UInt8} (h : TxP q b0 b1 l [] r) : l = r := by
  generalize hv : ([] : List UInt8) = v at h
  cases h with
  | stop => rfl
  | byte => cases hv
  | ref _ _ _ o _ _ _ _ h2 _ =>
    obtain ⟨nm, _, _, he⟩ := ref_inv h2
    exact absurd (List.append_eq_nil_iff.1 hv.symm).1 (ent_ne he)
theorem txp_suffix {q : UInt8} {b0 b1 : UInt8} {l v r : List UInt8} (h : TxP q b0 b1 l v r) : ∃ a, l = a ++ r := by
  induction h with
  | stop => exact ⟨[], rfl⟩
  | byte _ _ c _ _ _ _ _ _ _ _ _ ih =>
    obtain ⟨a, rfl⟩ := ih
    exact ⟨c :: a, rfl⟩
  | ref _ _ t o t2 _ _ _ h2 _ ih =>
    obtain ⟨a, rfl⟩ := ih
    obtain ⟨nm, h, _⟩ := ref_inv h2
    exact ⟨38 :: (nm ++ 59 :: a), by rw [h]; simp⟩
theorem drop_suffix {s : ByteArray} {i : Nat} {a r : List UInt8} (h : s.data.toList.drop i = a ++ r) (hi : i ≤ s.size) : s.data.toList.drop (s.size - r.length) = r ∧ i + a.length = s.size - r.length := by
  have hl := congrArg List.length h
  rw [List.length_drop, list_size, List.length_append] at hl
  have e : s.size - r.length = i + a.length := by omega
  rw [e, ← List.drop_drop, h, List.drop_left' rfl]
  exact ⟨rfl, rfl⟩

/-- A row of attributes. -/
def RowA (cur : Array Value) (cap : Nat) (al : List AttrS) : Prop := al.length ≤ cap ∧ cap ≤ maxLen ∧ cur.size = cap * 3 ∧ cur.toList.take (al.length * 3) = al.flatMap AttrS.cells
theorem RowA.attrs {w : World} {ga : Nat} {cur : Array Value} {cap : Nat} {al : List AttrS} (h : RowA cur cap al) (hb : Blk w ga 204 cur) : AttrsT 204 w (.slice (some ⟨ga, 0, none⟩) al.length cap) al := by
  obtain ⟨h1, h2, h3, h4⟩ := h
  exact ⟨flatN_length 3 AttrS.cells (fun _ => rfl) al, .inr ⟨ga, cap, cur, rfl, Nat.zero_le _, hb, h1, h2, h3, h4⟩⟩
/-- The row has one attribute more. -/
theorem StA.grow {M : Nat → Prop} {w U w2 : World} {L : LS} {s : ByteArray} {p : Nat} {f : Bool} {bs : List UInt8} {ga nb n cap : Nat} {cur cn : Array Value} {Tn : TypeId} {X : Known} (h : StA M w U L s p f bs (X ++ [(ga, 204, cur), (nb, Tn, cn)])) (hN : New M w) (hga : w.heap.size ≤ ga) (hgn : ga ≠ nb)
    {a : AttrS} {al : List AttrS} {v2 : Value} (hown : w2.ownsRow 0 204 3 v2 (al.length + 1) (al.flatMap AttrS.cells ++ a.cells)) (hgrow : U.grownBy w2 (some ga)) (hat : RowAt U (.slice (some ⟨ga, 0, none⟩) n cap) v2) :
    ∃ (g2 cap2 : Nat) (cur2 : Array Value), v2 = .slice (some ⟨g2, 0, none⟩) (al ++ [a]).length cap2 ∧ StA M w w2 L s p f bs [(g2, 204, cur2), (nb, Tn, cn)] ∧ RowA cur2 cap2 (al ++ [a]) ∧ w.heap.size ≤ g2 ∧ g2 ≠ nb := by
  obtain ⟨hlen, ⟨_, h0⟩ | ⟨g2, cap2, cur2, rfl, _, hb2, k1, k2, k3, k4⟩⟩ := hown
  · omega
  have hf := grown_fr hgrow
  have hnb := h.2.2 (nb, Tn, cn) (by simp)
  have hnl := hnb.1.lt
  have hal : (al ++ [a]).length = al.length + 1 := by simp
  have hg2 : w.heap.size ≤ g2 ∧ g2 ≠ nb := by
    rcases hat with e | ⟨g3, e, hge⟩
    · have : g2 = ga := Option.some.inj e
      rw [this]; exact ⟨hga, hgn⟩
    · have : g2 = g3 := Option.some.inj e
      rw [this]
      have := h.2.1.size
      dsimp only at hnl
      exact ⟨by omega, by omega⟩
  refine ⟨g2, cap2, cur2, by rw [hal], ⟨?_, ?_, ?_⟩, ⟨by rw [hal]; exact k1, k2, k3, by rw [hal, k4]; simp⟩, hg2⟩
  · exact (h.low.other hf (fun x hx hlt e => by
      rcases e with e | e
      · omega
      · exact hx.2 (by simp [e]))).mono fun _ hx => hx.1
  · exact h.2.1.trans (hf.mono fun x hx => by
      rcases hx with hx | hx
      · exact h.1.parts.2.2.1 x hx
      · exact hN x (by omega))
  · intro x hx
    simp only [List.mem_cons, List.not_mem_nil, or_false] at hx
    rcases hx with rfl | rfl
    · exact ⟨hb2, (by decide : (204 : TypeId) ≠ 197 ∧ (204 : TypeId) ≠ 190 ∧ (204 : TypeId) ≠ 5)⟩
    · exact ⟨hnb.1.fr hf (fun e => by rcases e with e | e; (dsimp only at hnl e; omega); exact hgn e.symm), hnb.2⟩
end Go.Proofs.YtlljphipglgjiaaGreatDoor
