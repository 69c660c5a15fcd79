/-
  zzText: the texts that stand in an element, but for those of its elements.
  zzElements over a function that takes elements; zzComponents: code and message.
  An element of a document, at any depth, has few kids of short names (plain).
  spec.XFlatText and spec.XFault.
  zzComponents, and the function that takes an element Error.
  GetErrorResponseComponents and impl.XErrors on documents that spec.XRead takes.
-/
import Derived.Test.YtlljphipglgjiaaGreatDoorXmLoc
import Derived.LaidEql
namespace Go.Proofs.YtlljphipglgjiaaGreatDoor
open Go.RowKit Go.Lib

/-- The texts of an element, but for those of its elements. -/
def flatL : List XEl → List UInt8
  | [] => []
  | k :: t => (if k.name = [] then k.text else []) ++ flatL t

section
variable {M M' : Nat → Prop} {w w' wr w2 : World} {P m : Nat} {s : ByteArray} {i j : Nat} {owe owe2 : Option (ByteArray × ByteArray)} {fr fr2 : List Fram} {F F2 : NsF} {v v2 : Value} {done : List UInt8}
/-- What other things turn leaves the decoder; new blocks are none of its own. -/
theorem DecW.fresh2 {bud : Nat} {N : Nat → Prop} (h : DecW M w P m s i owe fr F bud) (hf : Fr N w w') (hd : ∀ x, (M x ∨ x = m) → x < w.heap.size → ¬ N x) (l : List Nat) (hl : ∀ x ∈ l, w.heap.size ≤ x ∧ x < w'.heap.size) : DecW (Sans M l) w' P m s i owe fr F bud := by
  obtain ⟨L, f, bs, st, fl, n, e1, e2, e3, e4, ⟨⟨h1, h2, h3, h4, h5, buf, ⟨lr, nb, ri, pr, line, ls, off, q1, q2, q3⟩, hB, hM⟩, c1, c2, c3, c4⟩, e6, e7, e8, e9, e10⟩ := h
  have hno : ∀ x, x < w.heap.size → x ∉ l := fun x hx hm => by have := (hl x hm).1; omega
  have hbl : ∀ x, (M x ∨ x = m) → x < w.heap.size → w'.heap[x]? = w.heap[x]? := fun x hx hlt => hf.block x (hd x hx hlt)
  have hlt : ∀ b ∈ st.map (·.1) ++ fl.map (·.1), b < w.heap.size := fun b hm => by
    rcases List.mem_append.1 hm with hm | hm
    · exact c1.lt b hm
    · exact c2.lt b hm
  have hgl : ∀ g, buf.ownBlock = some g → g < w.heap.size := fun g hg => by
    rcases hB.cases with ⟨rfl, _⟩ | ⟨g', cap, cur, rfl, hg', _⟩
    · cases hg
    · cases hg
      exact Blk.lt (show Blk w g' 5 cur from hg')
  refine ⟨L, f, bs, st, fl, n, e1, e2, e3, e4, ⟨⟨⟨h1, hno _ q1.lt⟩, ⟨h2, hno _ (Blk.lt (show Blk w L.rb 190 _ from q2))⟩, fun k hk => ⟨h3 k (Nat.le_trans hf.size hk), fun hm => by have := (hl k hm).2; omega⟩, h4, h5, buf, ⟨lr, nb, ri, pr, line, ls, off, (hbl _ (.inl h1) q1.lt).trans q1, (hbl _ (.inl h2) (Blk.lt (show Blk w L.rb 190 _ from q2))).trans q2, q3⟩, hB.keep fun g hg cur hc => (hbl g (.inl (hM g hg).1) (hgl g hg)).trans hc, fun g hg => ⟨⟨(hM g hg).1, hno g (hgl g hg)⟩, (hM g hg).2⟩⟩,
    c1.fr hf fun b hm => hd b (.inl (c4 b (List.mem_append_left _ hm)).1) (c1.lt b hm), c2.fr hf fun b hm => hd b (.inl (c4 b (List.mem_append_right _ hm)).1) (c2.lt b hm), c3, fun b hm => ⟨⟨(c4 b hm).1, hno b (hlt b hm)⟩, (c4 b hm).2⟩⟩, e6.fr hf (hd m (.inr rfl) e6.lt), fun hx => e7 hx.1, e8, e9, e10⟩

/-- The decoder, and a row of bytes beside it. -/
structure ZtSt (M M' : Nat → Prop) (w wr : World) (P m : Nat) (s : ByteArray) (i : Nat) (owe : Option (ByteArray × ByteArray)) (fr : List Fram) (F : NsF) (v : Value) (done : List UInt8) : Prop where
  sub : ∀ k, M' k → M k
  new : New M w
  low : 5 < w.heap.size
  dec : DecV M' wr P m s i owe fr F
  env : Env M' m wr
  buf : wr.ownsRow w.heap.size 5 1 v done.length (Lib.byteCells done)
  out : ∀ g, v.ownBlock = some g → ¬ M' g ∧ g ≠ m
  fr : Fr (fun y => M y ∨ y = m) w wr
theorem ZtSt.bufH (h : ZtSt M M' w wr P m s i owe fr F v done) : BufH wr v done := by
  obtain ⟨q1, q2 | ⟨g', cap', cur', q2, q3, q4, q5, q6, q7, q8⟩⟩ := h.buf
  · exact ⟨q1, .inl q2⟩
  · exact ⟨q1, .inr ⟨g', cap', cur', q2, Nat.zero_le _, q4, q5, q6, q7, q8⟩⟩
theorem ZtSt.after {M'' : Nat → Prop} (h : ZtSt M M' w wr P m s i owe fr F v done) (h2 : DecV M'' w2 P m s j owe2 fr2 F2) (hs : ∀ k, M'' k → M' k) (hf : Fr (fun y => M' y ∨ y = m) wr w2) : ZtSt M M' w w2 P m s j owe2 fr2 F2 v done :=
  ⟨h.sub, h.new, h.low, DecW.wide h2 hs (DecW.notM h.dec), h.env.fr hf, owns_fr h.buf hf (fun g hg e => by
    rcases e with e | e
    · exact (h.out g hg).1 e
    · exact (h.out g hg).2 e), h.out, h.fr.trans (hf.mono fun y hy => by
    rcases hy with hy | hy
    · exact .inl (h.sub y hy)
    · exact .inr hy)⟩
theorem ZtSt.wid (h : ZtSt M M' w wr P m s i owe fr F v done) (hb : Below wr.heap.size wr w2) : ZtSt M M' w w2 P m s i owe fr F v done := by
  have hf : Fr (fun x => wr.heap.size ≤ x) wr w2 := Fr.below hb (Nat.le_refl _) fun _ h => h
  have hf2 : Fr (fun y => M' y ∨ y = m) wr w2 := hf.mono fun y hy => .inl (DecW.new h.dec y hy)
  exact h.after (DecW.below h.dec hb) (fun _ h => h) hf2
/-- Bytes more. -/
theorem ZtSt.snoc {t : List UInt8} (h : ZtSt M M' w wr P m s i owe fr F v done) (hown : w2.ownsRow w.heap.size 5 1 v2 (done.length + t.length) (Lib.byteCells done ++ Lib.byteCells t)) (hg : wr.grownBy w2 v.ownBlock) (hat : RowAt wr v v2) :
    ∃ M2, ZtSt M M2 w w2 P m s i owe fr F v2 (done ++ t) := by
  have hf : Fr (fun y => wr.heap.size ≤ y ∨ v.ownBlock = some y) wr w2 :=
    ⟨hg.os, hg.tape, hg.output, hg.size, fun k hk => by
      rcases Nat.lt_or_ge k wr.heap.size with h1 | h1
      · exact hg.block k h1 fun e => hk (.inr e.symm)
      · exact absurd (.inl h1) hk⟩
  have hd : ∀ x, (M' x ∨ x = m) → x < wr.heap.size → ¬ (wr.heap.size ≤ x ∨ v.ownBlock = some x) := fun x hx hlt e => by
    rcases e with e | e
    · omega
    · rcases hx with hx | hx
      · exact (h.out x e).1 hx
      · exact (h.out x e).2 hx
  have hbase : ∀ g, v.ownBlock = some g → w.heap.size ≤ g := fun g hg => by
    obtain ⟨_, ⟨rfl, _⟩ | ⟨g', cap', cur', rfl, q3, _⟩⟩ := h.buf
    · cases hg
    · cases hg
      exact q3
  have hf2 : Fr (fun y => M y ∨ y = m) wr w2 := hf.mono fun y hy => by
    rcases hy with hy | hy
    · exact .inl (h.sub y (DecW.new h.dec y hy))
    · exact .inl (h.new y (hbase y hy))
  have hlow := h.low
  have htab : Utf8Tabs 4 5 w2 := utf8_fr h.env.tabs hf ⟨fun e => by
    rcases e with e | e
    · exact h.env.m4.1 (DecW.new h.dec 4 e)
    · have := hbase 4 e; omega, fun e => by
    rcases e with e | e
    · exact h.env.m4.2 (DecW.new h.dec 5 e)
    · have := hbase 5 e; omega⟩
  have hbuf : w2.ownsRow w.heap.size 5 1 v2 (done ++ t).length (Lib.byteCells (done ++ t)) := by
    rw [List.length_append, show Lib.byteCells (done ++ t) = Lib.byteCells done ++ Lib.byteCells t by simp [Lib.byteCells]]
    exact hown
  rcases hat with e | ⟨g3, e, hge⟩
  · exact ⟨M', h.sub, h.new, h.low, DecW.other h.dec hf hd, ⟨htab, h.env.m4, h.env.n4⟩, hbuf, fun g hg => h.out g (by rw [← e]; exact hg), h.fr.trans hf2⟩
  · have hlt : g3 < w2.heap.size := (hown.lt g3 e).2
    refine ⟨Sans M' [g3], fun k hk => h.sub k hk.1, h.new, h.low, DecW.fresh2 h.dec hf hd [g3] (fun x hx => ?_), ⟨htab, ⟨fun q => h.env.m4.1 q.1, fun q => h.env.m4.2 q.1⟩, h.env.n4⟩, hbuf, fun g hg => ?_, h.fr.trans hf2⟩
    · rw [List.mem_singleton] at hx
      rw [hx]
      exact ⟨hge, hlt⟩
    · have e2 : g = g3 := Option.some.inj (hg.symm.trans e)
      subst e2
      refine ⟨fun q => q.2 (by simp), fun q => ?_⟩
      obtain ⟨L, f, bs, st, fl, n, _, _, _, _, _, hns, _⟩ := h.dec
      have := hns.lt
      omega
end

theorem byte_news {w : World} {g cap : Nat} {bs : List UInt8} (h : BufH w (.slice (some ⟨g, 0, none⟩) bs.length cap) bs) : ∀ j u, (Lib.byteCells bs)[j]? = some u → w.cell? ((⟨g, 0, none⟩ : Addr).add j) = some u := by
  intro j u hj
  have hj2 : j < bs.length := by
    have h1 := (List.getElem?_eq_some_iff.1 hj).1
    have h2 : (Lib.byteCells bs).length = bs.length := by simp [Lib.byteCells]
    omega
  rcases h.cases with ⟨h1, _⟩ | ⟨g', cap', cur, h1, hg, _, _, _, ht⟩
  · cases h1
  · injection h1 with e1 _ _
    injection e1 with e1
    injection e1 with e1 _ _
    subst e1
    have hc := row_byte hg ht j hj2
    rw [show (⟨g, 0, none⟩ : Addr).add j = ⟨g, j, none⟩ by cases j <;> simp [Addr.add]]
    refine hc.trans ?_
    rw [← hj]
    simp [Lib.byteCells, hj2]

set_option maxRecDepth 100000 in
set_option maxHeartbeats 8000000 in
theorem zztext_any {M : Nat → Prop} {P m : Nat} {s : ByteArray} {fr : List Fram} {F F0 : NsF} {rest nm : List UInt8} {i : Nat} {owe : Option (ByteArray × ByteArray)} {ks : List XEl} (w : World) (htx : TextAll s) (h : DecV M w P m s i owe (frOf nm F0 :: fr) F) (hI : Inside s i owe nm ks rest) (hE : Env M m w) :
    Calls Tryz.prog 149 #[.pointer (some ⟨P, 0, none⟩)] w fun e w' => e = .returned (.tuple #[.string (bst (flatL ks)), .nilIface]) ∧ (AfterEl M P m s fr F0 rest i w' ∧ Fr (fun y => M y ∨ y = m) w w') := by
  have hss := DecW.size h
  have hN := DecW.new h
  have hmM := DecW.notM h
  have hlow : 5 < w.heap.size := by
    rcases Nat.lt_or_ge 5 w.heap.size with h1 | h1
    · exact h1
    · exact absurd (hN 5 h1) hE.m4.2
  obtain ⟨R, hR⟩ : ∃ R, flatL ks = R := ⟨_, rfl⟩
  rw [hR]
  obtain ⟨i5, hi5, hz5a, hz5b, hz5c⟩ := info_parts Tryz.info5b
  have HST0 : Hid (ZtSt M M w w P m s i owe (frOf nm F0 :: fr) F (.slice none 0 0) []) := Lib.hid ⟨fun _ h => h, hN, hlow, h, hE, ⟨rfl, .inl ⟨rfl, rfl⟩⟩, fun g hg => (by cases hg), Fr.refl _ _⟩
  have HTX := Lib.hid htx
  have HI := Lib.hid hI
  have HR := Lib.hid hR
  have HMM := Lib.hid hmM
  have a1 := ta135_135
  have a2 := ta135_62
  have a3 := ta135_128
  have a4 := ta135_259
  have a5 := ta62_62
  have a6 := ta62_128
  have a7 := ta62_259
  have a8 := ta128_128
  have a9 := ta128_259
  clear h hI hE htx hR hN hmM
  go_enter Tryz.func149, Tryz.ntmps149
  go_wp2_with fail
  go_loopg [2, 3, 4] (s.size - i) (fun g r2 r3 bv wr => ∃ (i' : Nat) (owe' : Option (ByteArray × ByteArray)) (kk : List XEl) (done : List UInt8) (ap : Option Addr) (an ac : Nat) (M' : Nat → Prop), g = s.size - i' ∧ r2 = .string ⟨#[]⟩ ∧ r3 = .nilIface ∧ bv = .slice ap an ac ∧ i ≤ i' ∧
    ZtSt M M' w wr P m s i' owe' (frOf nm F0 :: fr) F (.slice ap an ac) done ∧ Inside s i' owe' nm kk rest ∧ Hid (done ++ flatL kk = R) ∧ done.length ≤ 4000000 * i')
  case atStart => exact ⟨i, owe, ks, [], none, 0, 0, M, rfl, rfl, rfl, rfl, Nat.le_refl _, HST0.out, HI.out, Lib.hid HR.out, Nat.zero_le _⟩
  case round =>
    obtain ⟨i', owe', kk, done, ap, an, ac, M', hg, rfl, rfl, rfl, hii, hst, hin, HFL, hdl⟩ := hrel
    have HG := Lib.hid hg
    have HS := Lib.hid hst
    have HII := Lib.hid hii
    have hil := hin.1
    have hvl : ∀ v k2, kk = .mk [] [] v [] :: k2 → v.length ≤ 4 * s.size := fun v k2 e => by
      subst e
      exact inside_text hin
    have HTK := Lib.hid (kid_tok HTX.out hst.dec hst.env hin)
    clear hg hst hin hii HST0
    go_wp2_with fail
    refine HTK.out.mono ?_
    intro e w3 hk
    cases hk with
    | done _ j h1 h1' h2 h3 h4 h5 =>
      have hst3 := HS.out.after h4 (fun _ h => h) h5
      obtain ⟨X, hX⟩ : ∃ X, xlate F true (bst (halvesL nm).1) (bst (halvesL nm).2) = X := ⟨_, rfl⟩
      obtain ⟨lo, hlo⟩ : ∃ lo, bst (halvesL nm).2 = lo := ⟨_, rfl⟩
      rw [hX, hlo]
      have hst4 := hst3.wid ((Below.refl w3.heap.size w3).alloc (Nat.le_refl _) (.cells #[.string X, .string lo] 128))
      have hcv := run_bytes_string hst4.bufH
      have hdone : done = R := by
        have := HFL.out
        simpa [flatL] using this
      subst hdone
      have HP := Lib.hid (⟨⟨j, Nat.le_trans HII.out h1, h2, h3, DecW.wide hst4.dec hst4.sub HMM.out⟩, hst4.fr⟩ : AfterEl M P m s fr F0 rest i (w3.alloc (.cells #[.string X, .string lo] 128)) ∧ Fr (fun y => M y ∨ y = m) w (w3.alloc (.cells #[.string X, .string lo] 128)))
      clear h1 h1' h2 h3 h4 h5 hst3 hst4 hX hlo hvl
      go_wp2_with fail
      go_ret2
      exact ⟨rfl, HP.out⟩
    | text _ j v k2 g cap h1 h2 h3 h4 h5 h6 =>
      have hst3 := HS.out.after h4 (fun _ h => h) h5
      have hv := hvl v k2 rfl
      have hlen : (Lib.byteCells v).length = v.length * 1 := by simp [Lib.byteCells]
      have hj2 := h2.1
      have hone : ∀ u ∈ Lib.byteCells v, u.oneCell' = true := by
        intro u hu
        unfold Lib.byteCells at hu
        obtain ⟨b, _, rfl⟩ := List.mem_map.1 hu
        rfl
      have HNEWS := Lib.hid (byte_news h6)
      have HONE := Lib.hid hone
      have HOWN := Lib.hid hst3.buf
      have HST3 := Lib.hid hst3
      have H2 := Lib.hid h2
      have HJ := Lib.hid h1
      have hws := hst3.fr.size
      have HFL2 : Hid ((done ++ v) ++ flatL k2 = R) := Lib.hid (by
        have := HFL.out
        rw [List.append_assoc]
        simpa [flatL, XEl.name, XEl.text] using this)
      clear h1 h2 h3 h4 h5 h6 hst3 hone hvl
      go_wp2_with ((at_builtin; refine wpList_append_two _ rfl _ _ 77 135 rfl w.heap.size 5 5 i5 (.int .u8 0) 1 1 Tryz.underlying77 Tryz.underlying135 hi5 hz5a hz5b hz5c rfl (by decide) _ _ _ rfl HOWN.out ⟨g, 0, none⟩ v.length cap (Lib.byteCells v) rfl hlen HNEWS.out HONE.out ?c3 ?c4 ?c5 ?_))
      case c3 => unfold maxLen; omega
      case c4 => omega
      case c5 => exact hws
      intro v2 w4 hown2 hgrow hat2
      obtain ⟨vp2, vn2, vc2, rfl⟩ : ∃ ap an ac, v2 = .slice ap an ac := by
        rcases hown2.2 with ⟨rfl, _⟩ | ⟨g, cap, cur, rfl, _⟩
        · exact ⟨_, _, _, rfl⟩
        · exact ⟨_, _, _, rfl⟩
      obtain ⟨M2, hst4⟩ := HST3.out.snoc hown2 hgrow hat2
      have HST4 := Lib.hid hst4
      clear hst4 hown2 hgrow hat2
      go_wp2_with fail
      go_roundg (s.size - j)
      case rel => exact ⟨j, none, k2, done ++ v, vp2, vn2, vc2, M2, rfl, rfl, rfl, rfl, by have := HII.out; have := HJ.out; omega, HST4.out, H2.out, HFL2, by rw [List.length_append]; have := HJ.out; omega⟩
      case measure => have := HG.out; have := HJ.out; omega
    | com _ j c k2 v h1 h2 h3 h4 =>
      have hst3 := HS.out.after h3 (fun _ h => h) h4
      have HST3 := Lib.hid hst3
      have H2 := Lib.hid h2
      have HJ := Lib.hid h1
      have hj2 := h2.1
      have HFL2 : Hid (done ++ flatL k2 = R) := Lib.hid (by
        have := HFL.out
        simpa [flatL, XEl.name] using this)
      clear h1 h2 h3 h4 hst3 hvl
      go_wp2_with fail
      go_roundg (s.size - j)
      case rel => exact ⟨j, none, k2, done, ap, an, ac, M', rfl, rfl, rfl, rfl, by have := HII.out; have := HJ.out; omega, HST3.out, H2.out, HFL2, by have := HJ.out; omega⟩
      case measure => have := HG.out; have := HJ.out; omega
    | start _ j n2 av k2 ks' rest2 owe2 ga cap cur h1 hgn h2 h3 h4 h5 h6 h7 h8 =>
      have hst3 := HS.out.after h4 (fun _ h => h.1) h5
      obtain ⟨X, hX⟩ : ∃ X, xlate (nsAll F av) true (bst (halvesL n2).1) (bst (halvesL n2).2) = X := ⟨_, rfl⟩
      obtain ⟨lo, hlo⟩ : ∃ lo, bst (halvesL n2).2 = lo := ⟨_, rfl⟩
      rw [hX, hlo]
      have hst4 := hst3.wid ((Below.refl w3.heap.size w3).alloc (Nat.le_refl _) (.cells #[.string X, .string lo, .slice (some ⟨ga, 0, none⟩) av.length cap] 62))
      have HSK := Lib.hid (skip_any _ HTX.out hst4.dec h2 hst4.env)
      have HST4 := Lib.hid hst4
      have H3 := Lib.hid h3
      have HJ := Lib.hid h1
      have hj2 := h2.1
      have HFL2 : Hid (done ++ flatL ks' = R) := Lib.hid (by
        have := HFL.out
        obtain ⟨c, t, rfl, _⟩ := hgn.first
        simpa [flatL, XEl.name] using this)
      clear h1 hgn h2 h3 h4 h5 h6 h7 h8 hst3 hst4 hX hlo hvl
      go_wp2_with fail
      refine HSK.out.mono ?_
      rintro e w5 ⟨rfl, ⟨j2, g1, g2, g3, g4⟩, g5⟩
      have HST5 := Lib.hid (HST4.out.after g4 (fun _ h => h) g5)
      have HG2 := Lib.hid g2
      have HG3 := Lib.hid g3
      have HG1 := Lib.hid g1
      clear g1 g2 g3 g4 g5 HST4 HSK
      go_wp2_with fail
      go_roundg (s.size - j2)
      case rel => exact ⟨j2, none, ks', done, ap, an, ac, M', rfl, rfl, rfl, rfl, by have := HII.out; have := HJ.out; have := HG1.out; omega, HST5.out, ⟨HG2.out, .inr ⟨rfl, by rw [HG3.out]; exact H3.out⟩⟩, HFL2, by have := HJ.out; have := HG1.out; omega⟩
      case measure => have := HG.out; have := HJ.out; have := HG1.out; have := HG2.out; omega
end Go.Proofs.YtlljphipglgjiaaGreatDoor

namespace Go.Proofs.YtlljphipglgjiaaGreatDoor
open Go.RowKit Go.Lib

abbrev Comp := ByteArray × ByteArray
def codeB : ByteArray := ⟨#[67, 111, 100, 101]⟩
def msgB : ByteArray := ⟨#[77, 101, 115, 115, 97, 103, 101]⟩
def errB : ByteArray := ⟨#[69, 114, 114, 111, 114]⟩
/-- What an element Code or Message says. -/
def compStep (x : Comp) (lo : ByteArray) (ks : List XEl) : Comp := if lo = codeB then (bst (flatL ks), x.2) else if lo = msgB then (x.1, bst (flatL ks)) else x
def compTake (lo : ByteArray) : Bool := decide (lo = codeB) || decide (lo = msgB)
/-- The elements, one behind the other. -/
def goFold (step : Comp → ByteArray → List XEl → Comp) (x : Comp) (ks : List XEl) : Comp := (elemsOf ks).foldl (fun x k => step x (bst (halvesL k.name).2) k.kids) x
theorem goFold_skip {step : Comp → ByteArray → List XEl → Comp} {x : Comp} {k : XEl} {ks : List XEl} (h : notEl k = true) : goFold step x (k :: ks) = goFold step x ks := by
  unfold goFold elemsOf
  rw [List.filter_cons_of_neg (by rw [h]; decide)]
theorem goFold_el {step : Comp → ByteArray → List XEl → Comp} {x : Comp} {k : XEl} {ks : List XEl} (h : notEl k = false) : goFold step x (k :: ks) = goFold step (step x (bst (halvesL k.name).2) k.kids) ks := by
  unfold goFold
  rw [elemsOf_cons h]
  rfl
def faultC : Comp → List XEl → Comp := goFold compStep

section
variable {M : Nat → Prop} {w wr w2 : World} {P m : Nat} {s : ByteArray} {i j : Nat} {owe owe2 : Option (ByteArray × ByteArray)} {fr fr2 : List Fram} {F F2 : NsF} {X X' : Known}
theorem GSt.sub (h : GSt M w wr P m s i owe fr F X) (hs : ∀ x ∈ X', x ∈ X) : GSt M w wr P m s i owe fr F X' := ⟨h.dec, h.env, fun x hx => h.ok x (hs x hx), h.fr⟩
end

/-- What a function that takes elements leaves. -/
inductive TakeEnd (M : Nat → Prop) (w0 : World) (P m : Nat) (s : ByteArray) (i : Nat) (owe : Option (ByteArray × ByteArray)) (frs : List Fram) (F : NsF) (fr : List Fram) (F0 : NsF) (rest : List UInt8) (X X' : Known) : Bool → Ending → World → Prop
  | yes (w' : World) (j : Nat) : i ≤ j → j ≤ s.size → s.data.toList.drop j = rest → GSt M w0 w' P m s j none fr F0 X' → TakeEnd M w0 P m s i owe frs F fr F0 rest X X' true (.returned (.tuple #[.bool true, .nilIface])) w'
  | no (w' : World) : GSt M w0 w' P m s i owe frs F X → X' = X → TakeEnd M w0 P m s i owe frs F fr F0 rest X X' false (.returned (.tuple #[.bool false, .nilIface])) w'
def TakeOk (k : FuncId) (a b : Value) (M : Nat → Prop) (w0 : World) (P m : Nat) (s : ByteArray) (C : Comp → Known) (take : ByteArray → Bool) (step : Comp → ByteArray → List XEl → Comp) : Prop :=
  ∀ (w : World) (i : Nat) (owe : Option (ByteArray × ByteArray)) (nm : List UInt8) (F0 : NsF) (fr : List Fram) (F : NsF) (ks : List XEl) (rest : List UInt8) (x : Comp), GSt M w0 w P m s i owe (frOf nm F0 :: fr) F (C x) → Inside s i owe nm ks rest →
    Calls Tryz.prog k #[.string (bst (halvesL nm).2), a, b] w (TakeEnd M w0 P m s i owe (frOf nm F0 :: fr) F fr F0 rest (C x) (C (step x (bst (halvesL nm).2) ks)) (take (bst (halvesL nm).2)))

/-- The blocks that the function for code and message reads and writes. -/
def CompC (cb cc dc P : Nat) (Z : Known) (x : Comp) : Known := (cb, 117, #[.string x.1, .string x.2]) :: (cc, 186, #[.pointer (some ⟨cb, 0, none⟩)]) :: (dc, 57, #[.pointer (some ⟨P, 0, none⟩)]) :: Z

set_option maxRecDepth 100000 in
set_option maxHeartbeats 4000000 in
theorem take148 {M : Nat → Prop} {w0 : World} {P m : Nat} {s : ByteArray} (cb cc dc : Nat) (Z : Known) (htx : TextAll s) (hcb : cb ≠ cc ∧ cb ≠ dc ∧ cb ∉ Z.map (·.1)) (hM : M cb) :
    TakeOk 148 (.pointer (some ⟨cc, 0, none⟩)) (.pointer (some ⟨dc, 0, none⟩)) M w0 P m s (CompC cb cc dc P Z) compTake compStep := by
  intro w i owe nm F0 fr F ks rest x h hI
  obtain ⟨c, g⟩ := x
  obtain ⟨lo, hlo⟩ : ∃ lo, bst (halvesL nm).2 = lo := ⟨_, rfl⟩
  rw [hlo]
  have hb1 := (h.ok (cb, 117, #[.string c, .string g]) (by simp [CompC])).1
  have hb2 := (h.ok (cc, 186, #[.pointer (some ⟨cb, 0, none⟩)]) (by simp [CompC])).1
  have hb3 := (h.ok (dc, 57, #[.pointer (some ⟨P, 0, none⟩)]) (by simp [CompC])).1
  have k2 := hb2.cell 0
  have k3 := hb3.cell 0
  have hzt := zztext_any w htx h.decS hI h.envS
  obtain ⟨T, hT⟩ : ∃ T, bst (flatL ks) = T := ⟨_, rfl⟩
  rw [hT] at hzt
  have hnot : cb ∉ ((cc, 186, #[.pointer (some ⟨cb, 0, none⟩)]) :: (dc, 57, #[.pointer (some ⟨P, 0, none⟩)]) :: Z : Known).map (·.1) := by
    simp only [List.map_cons, List.mem_cons, not_or]
    exact hcb
  have HZT := Lib.hid hzt
  have HS := Lib.hid h
  have HN := Lib.hid hnot
  have HMc := Lib.hid hM
  have HT := Lib.hid hT
  clear hzt h hI htx hnot hM hcb hlo hb1 hb2 hb3 hT
  by_cases hc : lo = codeB
  · have e1 : (lo.toList == [67, 111, 100, 101]) = true := by rw [hc, Lib.toList_data]; rfl
    obtain ⟨post, hpost⟩ : ∃ post : Ending → World → Prop, TakeEnd M w0 P m s i owe (frOf nm F0 :: fr) F fr F0 rest (CompC cb cc dc P Z (c, g)) (CompC cb cc dc P Z (compStep (c, g) lo ks)) (compTake lo) = post := ⟨_, rfl⟩
    have hfin : ∀ (w' : World) (j : Nat), i ≤ j → j ≤ s.size → s.data.toList.drop j = rest → GSt M w0 w' P m s j none fr F0 (CompC cb cc dc P Z (T, g)) → post (.returned (.tuple #[.bool true, .nilIface])) w' := by
      intro w' j h1 h2 h3 h4
      rw [← hpost, show compTake lo = true by unfold compTake; rw [hc]; simp, show compStep (c, g) lo ks = (T, g) by unfold compStep; rw [if_pos hc, HT.out]]
      exact .yes w' j h1 h2 h3 h4
    rw [hpost]
    have HFIN := Lib.hid hfin
    clear hfin hpost hc
    go_enter Tryz.func148, Tryz.ntmps148
    go_wp2_with fail
    refine HZT.out.mono ?_
    rintro e w2 ⟨rfl, ⟨j, h1, h2, h3, h4⟩, h5⟩
    have hst := HS.out.after h4 h5
    have hbb := (hst.ok (cb, 117, #[.string c, .string g]) (by simp [CompC])).1
    have y0 := hbb.cell 0
    have yf := hbb.frozen
    have HP := Lib.hid (HFIN.out _ j h1 h2 h3 (GSt.set (X := _) hst HN.out HMc.out 0 (.string T)))
    clear h1 h2 h3 h4 h5 hst hbb
    go_wp2_with fail
    exact HP.out
  · have e1 : (lo.toList == [67, 111, 100, 101]) = false := by
      rw [beq_eq_false_iff_ne]
      intro h
      refine hc (ba_ext ?_)
      rw [← Lib.toList_data, h]
      rfl
    by_cases hm : lo = msgB
    · have e2 : (lo.toList == [77, 101, 115, 115, 97, 103, 101]) = true := by rw [hm, Lib.toList_data]; rfl
      obtain ⟨post, hpost⟩ : ∃ post : Ending → World → Prop, TakeEnd M w0 P m s i owe (frOf nm F0 :: fr) F fr F0 rest (CompC cb cc dc P Z (c, g)) (CompC cb cc dc P Z (compStep (c, g) lo ks)) (compTake lo) = post := ⟨_, rfl⟩
      have hfin : ∀ (w' : World) (j : Nat), i ≤ j → j ≤ s.size → s.data.toList.drop j = rest → GSt M w0 w' P m s j none fr F0 (CompC cb cc dc P Z (c, T)) → post (.returned (.tuple #[.bool true, .nilIface])) w' := by
        intro w' j h1 h2 h3 h4
        rw [← hpost, show compTake lo = true by unfold compTake; rw [hm]; simp, show compStep (c, g) lo ks = (c, T) by unfold compStep; rw [if_neg hc, if_pos hm, HT.out]]
        exact .yes w' j h1 h2 h3 h4
      rw [hpost]
      have HFIN := Lib.hid hfin
      clear hfin hpost hc hm
      go_enter Tryz.func148, Tryz.ntmps148
      go_wp2_with fail
      refine HZT.out.mono ?_
      rintro e w2 ⟨rfl, ⟨j, h1, h2, h3, h4⟩, h5⟩
      have hst := HS.out.after h4 h5
      have hbb := (hst.ok (cb, 117, #[.string c, .string g]) (by simp [CompC])).1
      have y1 := hbb.cell 1
      have yf := hbb.frozen
      have HP := Lib.hid (HFIN.out _ j h1 h2 h3 (GSt.set (X := _) hst HN.out HMc.out 1 (.string T)))
      clear h1 h2 h3 h4 h5 hst hbb
      go_wp2_with fail
      exact HP.out
    · have e2 : (lo.toList == [77, 101, 115, 115, 97, 103, 101]) = false := by
        rw [beq_eq_false_iff_ne]
        intro h
        refine hm (ba_ext ?_)
        rw [← Lib.toList_data, h]
        rfl
      obtain ⟨post, hpost⟩ : ∃ post : Ending → World → Prop, TakeEnd M w0 P m s i owe (frOf nm F0 :: fr) F fr F0 rest (CompC cb cc dc P Z (c, g)) (CompC cb cc dc P Z (compStep (c, g) lo ks)) (compTake lo) = post := ⟨_, rfl⟩
      have hfin : post (.returned (.tuple #[.bool false, .nilIface])) w := by
        rw [← hpost, show compTake lo = false by unfold compTake; simp [hc, hm], show compStep (c, g) lo ks = (c, g) by unfold compStep; rw [if_neg hc, if_neg hm]]
        exact .no w HS.out rfl
      rw [hpost]
      have HFIN := Lib.hid hfin
      clear hfin hpost hc hm
      go_enter Tryz.func148, Tryz.ntmps148
      go_wp2_with fail
      exact HFIN.out

set_option maxRecDepth 100000 in
set_option maxHeartbeats 8000000 in
/-- zzElements over a function that takes elements. -/
theorem elems148_any (a b : Value) {M : Nat → Prop} {w0 : World} {P m : Nat} {s : ByteArray} (C : Comp → Known) (take : ByteArray → Bool) (step : Comp → ByteArray → List XEl → Comp) (hk : TakeOk 148 a b M w0 P m s C take step) (hst0 : ∀ x lo ks, take lo = false → step x lo ks = x)
    {fr : List Fram} {F F0 : NsF} {rest nm : List UInt8} {i : Nat} {owe : Option (ByteArray × ByteArray)} {ks : List XEl} (w : World) (x : Comp) (htx : TextAll s) (h : GSt M w0 w P m s i owe (frOf nm F0 :: fr) F (C x)) (hI : Inside s i owe nm ks rest) :
    Calls Tryz.prog 114 #[.pointer (some ⟨P, 0, none⟩), .func (.func 148) #[] #[a, b]] w fun e w' => e = .returned .nilIface ∧ ∃ j, i ≤ j ∧ j ≤ s.size ∧ s.data.toList.drop j = rest ∧ GSt M w0 w' P m s j none fr F0 (C (goFold step x ks)) := by
  obtain ⟨R, hR⟩ : ∃ R, goFold step x ks = R := ⟨_, rfl⟩
  rw [hR]
  have HR := Lib.hid hR
  have HK := Lib.hid hk
  have HS0 := Lib.hid hst0
  have HST := Lib.hid h
  have HI := Lib.hid hI
  have HTX := Lib.hid htx
  have a1 := ta62_62
  have a2 := ta62_135
  have a3 := ta62_259
  have a4 := ta62_128
  have a5 := ta128_135
  have a6 := ta128_259
  have a7 := ta128_128
  clear hk hst0 h hI htx hR
  go_enter Tryz.func114, Tryz.ntmps114
  go_wp2_with fail
  go_loopg [4] (s.size - i) (fun g r4 wr => ∃ (i' : Nat) (owe' : Option (ByteArray × ByteArray)) (kk : List XEl) (x' : Comp), g = s.size - i' ∧ r4 = .nilIface ∧ i ≤ i' ∧ GSt M w0 wr P m s i' owe' (frOf nm F0 :: fr) F (C x') ∧ Inside s i' owe' nm kk rest ∧ Hid (goFold step x' kk = R))
  case atStart => exact ⟨i, owe, ks, x, rfl, rfl, Nat.le_refl _, HST.out, HI.out, HR⟩
  case round =>
    obtain ⟨i', owe', kk, x', hg, rfl, hii, hst, hin, HFO⟩ := hrel
    have HG := Lib.hid hg
    have HS := Lib.hid hst
    have HII := Lib.hid hii
    have hil := hin.1
    have HTK := Lib.hid (kid_tok HTX.out hst.decS hst.envS hin)
    clear hg hst hin hii HST
    go_wp2_with fail
    refine HTK.out.mono ?_
    intro e w3 hk
    cases hk with
    | done _ j h1 h1' h2 h3 h4 h5 =>
      have hst3 := HS.out.after h4 h5
      obtain ⟨X, hX⟩ : ∃ X, xlate F true (bst (halvesL nm).1) (bst (halvesL nm).2) = X := ⟨_, rfl⟩
      obtain ⟨lo, hlo⟩ : ∃ lo, bst (halvesL nm).2 = lo := ⟨_, rfl⟩
      rw [hX, hlo]
      have hst4 := hst3.wid ((Below.refl w3.heap.size w3).alloc (Nat.le_refl _) (.cells #[.string X, .string lo] 128))
      have hdone : x' = R := HFO.out
      subst hdone
      have H2 := Lib.hid h2
      have H3 := Lib.hid h3
      have H4 := Lib.hid hst4
      have H1 := Lib.hid h1
      clear h1 h1' h2 h3 h4 h5 hst3 hst4 hX hlo
      go_wp2_with fail
      go_ret
      exact ⟨rfl, j, Nat.le_trans HII.out H1.out, H2.out, H3.out, H4.out⟩
    | text _ j v k2 g cap h1 h2 h3 h4 h5 h6 =>
      have HST3 := Lib.hid (HS.out.after h4 h5)
      have H2 := Lib.hid h2
      have HJ := Lib.hid h1
      have hj2 := h2.1
      have HFO2 : Hid (goFold step x' k2 = R) := Lib.hid (by rw [← HFO.out, goFold_skip (by rfl)])
      clear h1 h2 h3 h4 h5 h6
      go_wp2_with fail
      go_roundg (s.size - j)
      case rel => exact ⟨j, none, k2, x', rfl, rfl, by have := HII.out; have := HJ.out; omega, HST3.out, H2.out, HFO2⟩
      case measure => have := HG.out; have := HJ.out; omega
    | com _ j c k2 v h1 h2 h3 h4 =>
      have HST3 := Lib.hid (HS.out.after h3 h4)
      have H2 := Lib.hid h2
      have HJ := Lib.hid h1
      have hj2 := h2.1
      have HFO2 : Hid (goFold step x' k2 = R) := Lib.hid (by rw [← HFO.out, goFold_skip (by rfl)])
      clear h1 h2 h3 h4
      go_wp2_with fail
      go_roundg (s.size - j)
      case rel => exact ⟨j, none, k2, x', rfl, rfl, by have := HII.out; have := HJ.out; omega, HST3.out, H2.out, HFO2⟩
      case measure => have := HG.out; have := HJ.out; omega
    | start _ j n2 av k2 ks' rest2 owe2 ga cap cur h1 hgn h2 h3 h4 h5 h6 h7 h8 =>
      have hst3 := HS.out.after (DecW.wide h4 (fun _ h => h.1) (DecW.notM HS.out.decS)) h5
      obtain ⟨X, hX⟩ : ∃ X, xlate (nsAll F av) true (bst (halvesL n2).1) (bst (halvesL n2).2) = X := ⟨_, rfl⟩
      have hst4 := hst3.wid ((Below.refl w3.heap.size w3).alloc (Nat.le_refl _) (.cells #[.string X, .string (bst (halvesL n2).2), .slice (some ⟨ga, 0, none⟩) av.length cap] 62))
      have htb := Blk.new w3 62 #[.string X, .string (bst (halvesL n2).2), .slice (some ⟨ga, 0, none⟩) av.length cap]
      obtain ⟨tb, htb2⟩ : ∃ tb, w3.heap.size = tb := ⟨_, rfl⟩
      have hfo : goFold step (step x' (bst (halvesL n2).2) k2) ks' = R := by rw [← HFO.out, goFold_el (good_el hgn)]; rfl
      have htk := HK.out _ j owe2 n2 F (frOf nm F0 :: fr) (nsAll F av) k2 rest2 x' hst4 h2
      have hs0 := HS0.out x' (bst (halvesL n2).2) k2
      obtain ⟨lo, hlo⟩ : ∃ lo, bst (halvesL n2).2 = lo := ⟨_, rfl⟩
      rw [hX]
      rw [hlo] at hst4 htb hfo htk hs0 ⊢
      obtain ⟨V, hV⟩ : ∃ V, w3.alloc (.cells #[.string X, .string lo, .slice (some ⟨ga, 0, none⟩) av.length cap] 62) = V := ⟨_, rfl⟩
      rw [hV] at hst4 htb htk
      rw [htb2] at htb
      have t1 := htb.cell 1
      have HV := Lib.hid hV
      have HFO2 := Lib.hid hfo
      have H2 := Lib.hid h2
      have H3 := Lib.hid h3
      have HJ := Lib.hid h1
      have hj2 := h2.1
      cases htl : take lo with
      | true =>
        rw [htl] at htk
        have HTA : Hid (Calls Tryz.prog 148 #[.string lo, a, b] V fun e w' => e = .returned (.tuple #[.bool true, .nilIface]) ∧ ∃ j2, j ≤ j2 ∧ j2 ≤ s.size ∧ s.data.toList.drop j2 = rest2 ∧ GSt M w0 w' P m s j2 none (frOf nm F0 :: fr) F (C (step x' lo k2))) := Lib.hid (htk.mono fun e w h => by
          cases h with
          | yes _ j2 q1 q2 q3 q4 => exact ⟨rfl, j2, q1, q2, q3, q4⟩)
        clear h1 hgn h2 h3 h4 h5 h6 h7 h8 hst3 hst4 hX hV htb hfo htk hs0 hlo htl
        go_upto_region 7 with fail
        rw [HV.out]
        try rw [htb2]
        go_wp2_with (go_at_call 148; refine HTA.out.mono ?_; rintro e w5 ⟨rfl, hq⟩; have HQ := Lib.hid hq; clear hq)
        obtain ⟨j2, q1, q2, q3, q4⟩ := HQ.out
        go_roundg (s.size - j2)
        case rel => exact ⟨j2, none, ks', step x' lo k2, rfl, rfl, by have := HII.out; have := HJ.out; omega, q4, ⟨q2, .inr ⟨rfl, by rw [q3]; exact H3.out⟩⟩, HFO2⟩
        case measure => have := HG.out; have := HJ.out; omega
      | false =>
        rw [htl] at htk
        rw [hs0 htl] at hfo
        have HFO3 := Lib.hid hfo
        have HTA : Hid (Calls Tryz.prog 148 #[.string lo, a, b] V fun e w' => e = .returned (.tuple #[.bool false, .nilIface]) ∧ GSt M w0 w' P m s j owe2 (frOf n2 F :: frOf nm F0 :: fr) (nsAll F av) (C x')) := Lib.hid (htk.mono fun e w h => by
          cases h with
          | no _ q1 q2 => exact ⟨rfl, q1⟩)
        clear h1 hgn h2 h3 h4 h5 h6 h7 h8 hst3 hst4 hX hV htb hfo htk hs0 hlo htl
        go_upto_region 7 with fail
        rw [HV.out]
        try rw [htb2]
        go_wp2_with (go_at_call 148; refine HTA.out.mono ?_; rintro e w5 ⟨rfl, hq⟩; have HQ := Lib.hid hq; clear hq)
        refine (skip_any w5 HTX.out HQ.out.decS H2.out HQ.out.envS).mono ?_
        rintro e w6 ⟨rfl, ⟨j2, g1, g2, g3, g4⟩, g5⟩
        have HST6 := Lib.hid (HQ.out.after g4 g5)
        have HG2 := Lib.hid g2
        have HG3 := Lib.hid g3
        have HG1 := Lib.hid g1
        clear g1 g2 g3 g4 g5
        go_wp2_with fail
        go_roundg (s.size - j2)
        case rel => exact ⟨j2, none, ks', x', rfl, rfl, by have := HII.out; have := HJ.out; have := HG1.out; omega, HST6.out, ⟨HG2.out, .inr ⟨rfl, by rw [HG3.out]; exact H3.out⟩⟩, HFO3⟩
        case measure => have := HG.out; have := HJ.out; have := HG1.out; have := HG2.out; omega

set_option maxRecDepth 100000 in
set_option maxHeartbeats 8000000 in
/-- zzElements over a function that takes elements. -/
theorem elems115_any (a b : Value) {M : Nat → Prop} {w0 : World} {P m : Nat} {s : ByteArray} (C : Comp → Known) (take : ByteArray → Bool) (step : Comp → ByteArray → List XEl → Comp) (hk : TakeOk 115 a b M w0 P m s C take step) (hst0 : ∀ x lo ks, take lo = false → step x lo ks = x)
    {fr : List Fram} {F F0 : NsF} {rest nm : List UInt8} {i : Nat} {owe : Option (ByteArray × ByteArray)} {ks : List XEl} (w : World) (x : Comp) (htx : TextAll s) (h : GSt M w0 w P m s i owe (frOf nm F0 :: fr) F (C x)) (hI : Inside s i owe nm ks rest) :
    Calls Tryz.prog 114 #[.pointer (some ⟨P, 0, none⟩), .func (.func 115) #[] #[a, b]] w fun e w' => e = .returned .nilIface ∧ ∃ j, i ≤ j ∧ j ≤ s.size ∧ s.data.toList.drop j = rest ∧ GSt M w0 w' P m s j none fr F0 (C (goFold step x ks)) := by
  obtain ⟨R, hR⟩ : ∃ R, goFold step x ks = R := ⟨_, rfl⟩
  rw [hR]
  have HR := Lib.hid hR
  have HK := Lib.hid hk
  have HS0 := Lib.hid hst0
  have HST := Lib.hid h
  have HI := Lib.hid hI
  have HTX := Lib.hid htx
  have a1 := ta62_62
  have a2 := ta62_135
  have a3 := ta62_259
  have a4 := ta62_128
  have a5 := ta128_135
  have a6 := ta128_259
  have a7 := ta128_128
  clear hk hst0 h hI htx hR
  go_enter Tryz.func114, Tryz.ntmps114
  go_wp2_with fail
  go_loopg [4] (s.size - i) (fun g r4 wr => ∃ (i' : Nat) (owe' : Option (ByteArray × ByteArray)) (kk : List XEl) (x' : Comp), g = s.size - i' ∧ r4 = .nilIface ∧ i ≤ i' ∧ GSt M w0 wr P m s i' owe' (frOf nm F0 :: fr) F (C x') ∧ Inside s i' owe' nm kk rest ∧ Hid (goFold step x' kk = R))
  case atStart => exact ⟨i, owe, ks, x, rfl, rfl, Nat.le_refl _, HST.out, HI.out, HR⟩
  case round =>
    obtain ⟨i', owe', kk, x', hg, rfl, hii, hst, hin, HFO⟩ := hrel
    have HG := Lib.hid hg
    have HS := Lib.hid hst
    have HII := Lib.hid hii
    have hil := hin.1
    have HTK := Lib.hid (kid_tok HTX.out hst.decS hst.envS hin)
    clear hg hst hin hii HST
    go_wp2_with fail
    refine HTK.out.mono ?_
    intro e w3 hk
    cases hk with
    | done _ j h1 h1' h2 h3 h4 h5 =>
      have hst3 := HS.out.after h4 h5
      obtain ⟨X, hX⟩ : ∃ X, xlate F true (bst (halvesL nm).1) (bst (halvesL nm).2) = X := ⟨_, rfl⟩
      obtain ⟨lo, hlo⟩ : ∃ lo, bst (halvesL nm).2 = lo := ⟨_, rfl⟩
      rw [hX, hlo]
      have hst4 := hst3.wid ((Below.refl w3.heap.size w3).alloc (Nat.le_refl _) (.cells #[.string X, .string lo] 128))
      have hdone : x' = R := HFO.out
      subst hdone
      have H2 := Lib.hid h2
      have H3 := Lib.hid h3
      have H4 := Lib.hid hst4
      have H1 := Lib.hid h1
      clear h1 h1' h2 h3 h4 h5 hst3 hst4 hX hlo
      go_wp2_with fail
      go_ret
      exact ⟨rfl, j, Nat.le_trans HII.out H1.out, H2.out, H3.out, H4.out⟩
    | text _ j v k2 g cap h1 h2 h3 h4 h5 h6 =>
      have HST3 := Lib.hid (HS.out.after h4 h5)
      have H2 := Lib.hid h2
      have HJ := Lib.hid h1
      have hj2 := h2.1
      have HFO2 : Hid (goFold step x' k2 = R) := Lib.hid (by rw [← HFO.out, goFold_skip (by rfl)])
      clear h1 h2 h3 h4 h5 h6
      go_wp2_with fail
      go_roundg (s.size - j)
      case rel => exact ⟨j, none, k2, x', rfl, rfl, by have := HII.out; have := HJ.out; omega, HST3.out, H2.out, HFO2⟩
      case measure => have := HG.out; have := HJ.out; omega
    | com _ j c k2 v h1 h2 h3 h4 =>
      have HST3 := Lib.hid (HS.out.after h3 h4)
      have H2 := Lib.hid h2
      have HJ := Lib.hid h1
      have hj2 := h2.1
      have HFO2 : Hid (goFold step x' k2 = R) := Lib.hid (by rw [← HFO.out, goFold_skip (by rfl)])
      clear h1 h2 h3 h4
      go_wp2_with fail
      go_roundg (s.size - j)
      case rel => exact ⟨j, none, k2, x', rfl, rfl, by have := HII.out; have := HJ.out; omega, HST3.out, H2.out, HFO2⟩
      case measure => have := HG.out; have := HJ.out; omega
    | start _ j n2 av k2 ks' rest2 owe2 ga cap cur h1 hgn h2 h3 h4 h5 h6 h7 h8 =>
      have hst3 := HS.out.after (DecW.wide h4 (fun _ h => h.1) (DecW.notM HS.out.decS)) h5
      obtain ⟨X, hX⟩ : ∃ X, xlate (nsAll F av) true (bst (halvesL n2).1) (bst (halvesL n2).2) = X := ⟨_, rfl⟩
      have hst4 := hst3.wid ((Below.refl w3.heap.size w3).alloc (Nat.le_refl _) (.cells #[.string X, .string (bst (halvesL n2).2), .slice (some ⟨ga, 0, none⟩) av.length cap] 62))
      have htb := Blk.new w3 62 #[.string X, .string (bst (halvesL n2).2), .slice (some ⟨ga, 0, none⟩) av.length cap]
      obtain ⟨tb, htb2⟩ : ∃ tb, w3.heap.size = tb := ⟨_, rfl⟩
      have hfo : goFold step (step x' (bst (halvesL n2).2) k2) ks' = R := by rw [← HFO.out, goFold_el (good_el hgn)]; rfl
      have htk := HK.out _ j owe2 n2 F (frOf nm F0 :: fr) (nsAll F av) k2 rest2 x' hst4 h2
      have hs0 := HS0.out x' (bst (halvesL n2).2) k2
      obtain ⟨lo, hlo⟩ : ∃ lo, bst (halvesL n2).2 = lo := ⟨_, rfl⟩
      rw [hX]
      rw [hlo] at hst4 htb hfo htk hs0 ⊢
      obtain ⟨V, hV⟩ : ∃ V, w3.alloc (.cells #[.string X, .string lo, .slice (some ⟨ga, 0, none⟩) av.length cap] 62) = V := ⟨_, rfl⟩
      rw [hV] at hst4 htb htk
      rw [htb2] at htb
      have t1 := htb.cell 1
      have HV := Lib.hid hV
      have HFO2 := Lib.hid hfo
      have H2 := Lib.hid h2
      have H3 := Lib.hid h3
      have HJ := Lib.hid h1
      have hj2 := h2.1
      cases htl : take lo with
      | true =>
        rw [htl] at htk
        have HTA : Hid (Calls Tryz.prog 115 #[.string lo, a, b] V fun e w' => e = .returned (.tuple #[.bool true, .nilIface]) ∧ ∃ j2, j ≤ j2 ∧ j2 ≤ s.size ∧ s.data.toList.drop j2 = rest2 ∧ GSt M w0 w' P m s j2 none (frOf nm F0 :: fr) F (C (step x' lo k2))) := Lib.hid (htk.mono fun e w h => by
          cases h with
          | yes _ j2 q1 q2 q3 q4 => exact ⟨rfl, j2, q1, q2, q3, q4⟩)
        clear h1 hgn h2 h3 h4 h5 h6 h7 h8 hst3 hst4 hX hV htb hfo htk hs0 hlo htl
        go_upto_region 7 with fail
        rw [HV.out]
        try rw [htb2]
        go_wp2_with (go_at_call 115; refine HTA.out.mono ?_; rintro e w5 ⟨rfl, hq⟩; have HQ := Lib.hid hq; clear hq)
        obtain ⟨j2, q1, q2, q3, q4⟩ := HQ.out
        go_roundg (s.size - j2)
        case rel => exact ⟨j2, none, ks', step x' lo k2, rfl, rfl, by have := HII.out; have := HJ.out; omega, q4, ⟨q2, .inr ⟨rfl, by rw [q3]; exact H3.out⟩⟩, HFO2⟩
        case measure => have := HG.out; have := HJ.out; omega
      | false =>
        rw [htl] at htk
        rw [hs0 htl] at hfo
        have HFO3 := Lib.hid hfo
        have HTA : Hid (Calls Tryz.prog 115 #[.string lo, a, b] V fun e w' => e = .returned (.tuple #[.bool false, .nilIface]) ∧ GSt M w0 w' P m s j owe2 (frOf n2 F :: frOf nm F0 :: fr) (nsAll F av) (C x')) := Lib.hid (htk.mono fun e w h => by
          cases h with
          | no _ q1 q2 => exact ⟨rfl, q1⟩)
        clear h1 hgn h2 h3 h4 h5 h6 h7 h8 hst3 hst4 hX hV htb hfo htk hs0 hlo htl
        go_upto_region 7 with fail
        rw [HV.out]
        try rw [htb2]
        go_wp2_with (go_at_call 115; refine HTA.out.mono ?_; rintro e w5 ⟨rfl, hq⟩; have HQ := Lib.hid hq; clear hq)
        refine (skip_any w5 HTX.out HQ.out.decS H2.out HQ.out.envS).mono ?_
        rintro e w6 ⟨rfl, ⟨j2, g1, g2, g3, g4⟩, g5⟩
        have HST6 := Lib.hid (HQ.out.after g4 g5)
        have HG2 := Lib.hid g2
        have HG3 := Lib.hid g3
        have HG1 := Lib.hid g1
        clear g1 g2 g3 g4 g5
        go_wp2_with fail
        go_roundg (s.size - j2)
        case rel => exact ⟨j2, none, ks', x', rfl, rfl, by have := HII.out; have := HJ.out; have := HG1.out; omega, HST6.out, ⟨HG2.out, .inr ⟨rfl, by rw [HG3.out]; exact H3.out⟩⟩, HFO3⟩
        case measure => have := HG.out; have := HJ.out; have := HG1.out; have := HG2.out; omega

end Go.Proofs.YtlljphipglgjiaaGreatDoor

namespace Go.Proofs.YtlljphipglgjiaaGreatDoor
open Go.RowKit Go.Lib

/-- Few kids of short names and texts, at any depth. -/
inductive SmallK : List XEl → Prop
  | mk (ks : List XEl) : ks.length ≤ 2000000 → (∀ k ∈ ks, k.name.length ≤ 2000000) → (∀ k ∈ ks, k.text.length ≤ 4000000) → (∀ k ∈ ks, SmallK k.kids) → SmallK ks
theorem SmallK.nil : SmallK [] := .mk [] (by simp) (fun _ h => by cases h) (fun _ h => by cases h) (fun _ h => by cases h)
theorem SmallK.parts {ks : List XEl} (h : SmallK ks) : ks.length ≤ 2000000 ∧ (∀ k ∈ ks, k.name.length ≤ 2000000) ∧ (∀ k ∈ ks, k.text.length ≤ 4000000) ∧ ∀ k ∈ ks, SmallK k.kids := by
  cases h with
  | mk _ h1 h2 h3 h4 => exact ⟨h1, h2, h3, h4⟩
theorem cont_deep {l nm : List UInt8} {ks : List XEl} {r : List UInt8} (h : Cont l nm ks r) : l.length ≤ 1000000 → ∀ k ∈ ks, k.text.length ≤ 4000000 ∧ SmallK k.kids := by
  induction h with
  | done nm b r _ _ => exact fun _ _ h => by cases h
  | text c l nm v t ks r hc htp hg hv _ ih =>
    obtain ⟨a, ha⟩ := txp_suffix htp
    have hl := congrArg List.length ha
    rw [List.length_append] at hl
    have hv := txp_len htp
    intro hle k hk
    rcases List.mem_cons.1 hk with rfl | hk
    · exact ⟨by show v.length ≤ _; omega, .nil⟩
    · exact ih (by omega) k hk
  | com c t nm ks r hc _ ih =>
    intro hle k hk
    simp only [List.length_cons, List.length_append] at hle
    rcases List.mem_cons.1 hk with rfl | hk
    · exact ⟨by show c.length ≤ _; omega, .nil⟩
    · exact ih (by omega) k hk
  | empty n2 t nm t2 av ks r hN hA _ ih =>
    obtain ⟨a, rfl, hal⟩ := attrs_suffix hA
    intro hle k hk
    simp only [List.length_cons, List.length_append] at hle
    rcases List.mem_cons.1 hk with rfl | hk
    · exact ⟨Nat.zero_le _, .nil⟩
    · exact ih (by omega) k hk
  | elem n2 t nm t2 t3 av k2 ks r hN hA hC1 _ ih1 ih2 =>
    obtain ⟨a, rfl, hal⟩ := attrs_suffix hA
    obtain ⟨j1, j2, j3⟩ := cont_names hC1
    intro hle k hk
    simp only [List.length_cons, List.length_append] at hle
    rcases List.mem_cons.1 hk with rfl | hk
    · exact ⟨Nat.zero_le _, .mk _ (by show k2.length ≤ _; omega) (fun k hk => by have := j2 k hk; omega) (fun k hk => (ih1 (by omega) k hk).1) (fun k hk => (ih1 (by omega) k hk).2)⟩
    · exact ih2 (by omega) k hk
theorem doc_deep {s : ByteArray} {nm : List UInt8} {av : List AttrS} {ks : List XEl} {rest : List UInt8} (h : DocOk s nm av ks rest) (hs : s.size ≤ 900000) : SmallK ks := by
  obtain ⟨_, _, h2, h3⟩ := doc_small h (by omega)
  obtain ⟨t, t2, r1, em, ⟨_, hR⟩, rfl, hN, hA, hk⟩ := h
  have ht : (nm ++ t2).length ≤ 1000000 := by
    rw [List.drop_zero] at hR
    rcases hR with ⟨l2, h1, h2⟩ | h2
    · have := prol_len h2
      have h3 := congrArg List.length h1
      rw [list_size, List.length_append] at h3
      omega
    · have := prol_len h2
      rw [list_size] at this
      omega
  rw [List.length_append] at ht
  obtain ⟨a, ha, hal⟩ := attrs_suffix hA
  have hl := congrArg List.length ha
  rw [List.length_append] at hl
  rcases hk with ⟨_, rfl, _⟩ | ⟨_, hC⟩
  · exact .nil
  · exact .mk ks h3 h2 (fun k hk => (cont_deep hC (by omega) k hk).1) (fun k hk => (cont_deep hC (by omega) k hk).2)
end Go.Proofs.YtlljphipglgjiaaGreatDoor

namespace Go.Proofs.YtlljphipglgjiaaGreatDoor
open Go.RowKit Go.Lib

set_option maxRecDepth 100000 in
set_option maxHeartbeats 4000000 in
theorem flat_any (w : World) (D : Nat → Prop) (av kv : Value) (e : XEl) (hel : ElM 49 25 w D av kv e) (hsm : SmallK e.kids) :
    Calls Tryz.prog 65 #[.agg #[.string (bst e.name), av, .string (bst e.text), kv]] w fun e' w' => e' = .returned (.string (bst (flatL e.kids))) ∧ Below w.heap.size w w' := by
  obtain ⟨⟨ap, an, ac, rfl⟩, ⟨kp, kn, kc, rfl⟩⟩ := hel.slices
  obtain ⟨ks, hks, hkm⟩ := hel.inv2
  obtain ⟨all, hall⟩ : ∃ x, flatL e.kids = x := ⟨_, rfl⟩
  obtain ⟨nm, hnm⟩ : ∃ x, bst e.name = x := ⟨_, rfl⟩
  obtain ⟨tx, htx⟩ : ∃ x, bst e.text = x := ⟨_, rfl⟩
  rw [hall, hnm, htx]
  obtain ⟨hl1, _, hl3, _⟩ := hsm.parts
  rw [hks] at hall hl1 hl3
  rw [List.length_map] at hl1
  have hkn : kn = ks.length := by
    obtain ⟨⟨h1, ⟨h2, h3⟩ | ⟨g, cap, cur, h2, _⟩⟩, _, _⟩ := hkm
    · injection h2 with _ h4 _
      rw [h4, h3]
    · injection h2
  subst hkn
  have HKM := Lib.hid hkm
  have HALL := Lib.hid hall
  have HL3 := Lib.hid hl3
  have hb0 : Below w.heap.size w (w.alloc (.cells #[.string nm, .slice ap an ac, .string tx, .slice kp ks.length kc] 25)) := (Below.refl _ _).alloc (Nat.le_refl _) _
  have hk0 := Blk.new w 25 #[.string nm, .slice ap an ac, .string tx, .slice kp ks.length kc]
  obtain ⟨W, hW⟩ : ∃ W, w.alloc (.cells #[.string nm, .slice ap an ac, .string tx, .slice kp ks.length kc] 25) = W := ⟨_, rfl⟩
  obtain ⟨eb, heb⟩ : ∃ eb, w.heap.size = eb := ⟨_, rfl⟩
  rw [hW] at hb0 hk0
  rw [heb] at hk0
  have c3 := hk0.cell 3
  have HB0 := Lib.hid hb0
  have HW := Lib.hid hW
  clear hks hkm hall hel hb0 hk0 hW hnm htx hsm hl3
  go_enter Tryz.func65, Tryz.ntmps65
  go_wp2_with fail
  rw [HW.out]
  try rw [heb]
  go_loopg [3, 4] ks.length (fun g ov kv wr => ∃ (k : Nat) (acc : List UInt8), g = ks.length - k ∧ k ≤ ks.length ∧ ov = .string (bst acc) ∧ kv = .int .i64 k ∧ wr = W ∧ acc.length ≤ 4000000 * k ∧ Hid (acc ++ flatL ((ks.drop k).map (·.1)) = all))
  case atStart => exact ⟨0, [], rfl, Nat.zero_le _, rfl, rfl, rfl, Nat.zero_le _, Lib.hid (by rw [List.drop_zero]; exact HALL.out)⟩
  case round =>
    obtain ⟨k, acc, hg, hk, rfl, rfl, rfl, hal, HN⟩ := hrel
    have HG := Lib.hid hg
    clear hg
    by_cases hkl : k < ks.length
    · have hd : decide ((k : Int) < (ks.length : Int)) = true := by rw [decide_eq_true_eq]; omega
      obtain ⟨g, c, hgv, hgl, hkel, hg0, hg1, hg2, hg3⟩ := kid_cells HKM.out k hkl
      injection hgv with hgv1 hgv2 hgv3
      subst hgv1
      subst hgv3
      clear hgv2
      have nn : (0 : Int) ≤ (k : Int) := Int.natCast_nonneg _
      have g0 : wr.cell? ⟨g, k * 4, none⟩ = some (.string (bst (ks[k]).1.name)) := by rw [World.cell?, HB0.out.block _ hgl]; exact hg0
      have g2 : wr.cell? ⟨g, k * 4 + 2, none⟩ = some (.string (bst (ks[k]).1.text)) := by rw [World.cell?, HB0.out.block _ hgl]; exact hg2
      have htl := HL3.out (ks[k]).1 (List.mem_map.2 ⟨ks[k], List.getElem_mem hkl, rfl⟩)
      have hdrop : (ks.drop k).map (·.1) = (ks[k]).1 :: (ks.drop (k + 1)).map (·.1) := by rw [List.drop_eq_getElem_cons hkl]; rfl
      obtain ⟨q, hq⟩ : ∃ q, (ks[k]).1 = q := ⟨_, rfl⟩
      rw [hq] at g0 g2 htl hdrop
      obtain ⟨x, hx⟩ : ∃ x, bst q.name = x := ⟨_, rfl⟩
      obtain ⟨t, ht⟩ : ∃ x, bst q.text = x := ⟨_, rfl⟩
      rw [hx] at g0
      rw [ht] at g2
      by_cases hq0 : q.name = []
      · have HN2 : Hid ((acc ++ q.text) ++ flatL ((ks.drop (k + 1)).map (·.1)) = all) := Lib.hid (by
          have := HN.out
          rw [hdrop, flatL, if_pos hq0] at this
          rw [List.append_assoc]
          exact this)
        have e1 : x.toList.isEmpty = true := by rw [← hx, hq0, Lib.toList_data]; rfl
        have e2 : (x.toList == []) = true := by rw [← hx, hq0, Lib.toList_data]; rfl
        have hsum : (bst acc).size + t.size ≤ 100000000000000 := by
          rw [← ht, bst_size, bst_size]
          omega
        have HT := Lib.hid ht
        clear hq0 hx ht hdrop hq hkel hg0 hg1 hg2 hg3
        go_wp2_with fail
        go_roundg (ks.length - (k + 1))
        case rel => exact ⟨k + 1, acc ++ q.text, rfl, by omega, by rw [bst_app, HT.out], by go_num, rfl, by rw [List.length_append]; omega, HN2⟩
        case measure => have := HG.out; omega
      · have HN2 : Hid (acc ++ flatL ((ks.drop (k + 1)).map (·.1)) = all) := Lib.hid (by
          have := HN.out
          rw [hdrop, flatL, if_neg hq0, List.nil_append] at this
          exact this)
        have e1 : x.toList.isEmpty = false := by rw [← hx, Lib.toList_data, bst_toList, List.isEmpty_eq_false_iff]; exact hq0
        have e2 : (x.toList == []) = false := by rw [← hx, Lib.toList_data, bst_toList, beq_eq_false_iff_ne]; exact hq0
        clear hq0 hx ht hdrop hq hkel hg0 hg1 hg2 hg3
        go_wp2_with fail
        go_roundg (ks.length - (k + 1))
        case rel => exact ⟨k + 1, acc, rfl, by omega, rfl, by go_num, rfl, by omega, HN2⟩
        case measure => have := HG.out; omega
    · have hd : decide ((k : Int) < (ks.length : Int)) = false := by rw [decide_eq_false_iff_not]; omega
      have hdone : acc = all := by
        have := HN.out
        rw [List.drop_of_length_le (by omega)] at this
        simpa [flatL] using this
      subst hdone
      go_wp2_with fail
      go_ret
      exact ⟨rfl, HB0.out⟩

set_option maxRecDepth 100000 in
set_option maxHeartbeats 8000000 in
theorem fault_any (w : World) (D : Nat → Prop) (av kv : Value) (e : XEl) (hel : ElM 49 25 w D av kv e) (hD : ∀ x, D x → x < w.heap.size) (hsm : SmallK e.kids) :
    Calls Tryz.prog 29 #[.agg #[.string (bst e.name), av, .string (bst e.text), kv]] w fun e' w' => e' = .returned (.tuple #[.string (faultC (⟨#[]⟩, ⟨#[]⟩) e.kids).1, .string (faultC (⟨#[]⟩, ⟨#[]⟩) e.kids).2]) ∧ Below w.heap.size w w' := by
  obtain ⟨⟨ap, an, ac, rfl⟩, ⟨kp, kn, kc, rfl⟩⟩ := hel.slices
  obtain ⟨ks, hks, hkm⟩ := hel.inv2
  obtain ⟨all, hall⟩ : ∃ x, faultC (⟨#[]⟩, ⟨#[]⟩) e.kids = x := ⟨_, rfl⟩
  obtain ⟨en, hen⟩ : ∃ x, bst e.name = x := ⟨_, rfl⟩
  obtain ⟨tx, htx⟩ : ∃ x, bst e.text = x := ⟨_, rfl⟩
  rw [hall, hen, htx]
  obtain ⟨hl1, hl2, _, hl4⟩ := hsm.parts
  rw [hks] at hall hl1 hl2 hl4
  rw [List.length_map] at hl1
  have hkn : kn = ks.length := by
    obtain ⟨⟨h1, ⟨h2, h3⟩ | ⟨g, cap, cur, h2, _⟩⟩, _, _⟩ := hkm
    · injection h2 with _ h4 _
      rw [h4, h3]
    · injection h2
  subst hkn
  have HKM := Lib.hid hkm
  have HALL := Lib.hid hall
  have HL2 := Lib.hid hl2
  have HL4 := Lib.hid hl4
  have HDD := Lib.hid hD
  have hb0 : Below w.heap.size w (w.alloc (.cells #[.string en, .slice ap an ac, .string tx, .slice kp ks.length kc] 25)) := (Below.refl _ _).alloc (Nat.le_refl _) _
  have hk0 := Blk.new w 25 #[.string en, .slice ap an ac, .string tx, .slice kp ks.length kc]
  obtain ⟨W, hW⟩ : ∃ W, w.alloc (.cells #[.string en, .slice ap an ac, .string tx, .slice kp ks.length kc] 25) = W := ⟨_, rfl⟩
  obtain ⟨eb, heb⟩ : ∃ eb, w.heap.size = eb := ⟨_, rfl⟩
  rw [hW] at hb0 hk0
  rw [heb] at hk0
  have HB0 := Lib.hid hb0
  have HK0 := Lib.hid hk0
  have HW := Lib.hid hW
  clear hks hkm hall hel hb0 hk0 hW hen htx hsm hl2 hl4 hD
  go_enter Tryz.func29, Tryz.ntmps29
  go_wp2_with fail
  rw [HW.out]
  try rw [heb]
  go_loopg [4, 5, 6] ks.length (fun g r4 r5 kv wr => ∃ (k : Nat) (y1 y2 : ByteArray), g = ks.length - k ∧ k ≤ ks.length ∧ r4 = .string y1 ∧ r5 = .string y2 ∧ kv = .int .i64 k ∧ Below w.heap.size w wr ∧ Blk wr eb 25 #[.string en, .slice ap an ac, .string tx, .slice kp ks.length kc] ∧ Hid (faultC (y1, y2) ((ks.drop k).map (·.1)) = all))
  case atStart => exact ⟨0, ⟨#[]⟩, ⟨#[]⟩, rfl, Nat.zero_le _, rfl, rfl, rfl, HB0.out, HK0.out, Lib.hid (by rw [List.drop_zero]; exact HALL.out)⟩
  case round =>
    obtain ⟨k, y1, y2, hg, hk, rfl, rfl, rfl, hbe, hkb, HN⟩ := hrel
    have HG := Lib.hid hg
    have HBE := Lib.hid hbe
    have HKB := Lib.hid hkb
    have c3 := hkb.cell 3
    clear hg hbe hkb
    by_cases hkl : k < ks.length
    · have hd : decide ((k : Int) < (ks.length : Int)) = true := by rw [decide_eq_true_eq]; omega
      obtain ⟨g, c, hgv, hgl, hkel, hg0, hg1, hg2, hg3⟩ := kid_cells HKM.out k hkl
      injection hgv with hgv1 hgv2 hgv3
      subst hgv1
      subst hgv3
      clear hgv2
      have nn : (0 : Int) ≤ (k : Int) := Int.natCast_nonneg _
      have hcell : ∀ W, Below w.heap.size w W → ∀ j v, w.cell? ⟨g, j, none⟩ = some v → W.cell? ⟨g, j, none⟩ = some v := fun W hb j v hv => by rw [World.cell?, hb.block _ hgl]; exact hv
      have hnsz := HL2.out (ks[k]).1 (List.mem_map.2 ⟨ks[k], List.getElem_mem hkl, rfl⟩)
      have hsmk := HL4.out (ks[k]).1 (List.mem_map.2 ⟨ks[k], List.getElem_mem hkl, rfl⟩)
      have hdrop : (ks.drop k).map (·.1) = (ks[k]).1 :: (ks.drop (k + 1)).map (·.1) := by rw [List.drop_eq_getElem_cons hkl]; rfl
      obtain ⟨q, hq⟩ : ∃ q, ks[k] = q := ⟨_, rfl⟩
      rw [hq] at hnsz hdrop hg0 hg1 hg2 hg3 hkel hsmk
      obtain ⟨qe, qa, qk⟩ := q
      dsimp only at hnsz hdrop hg0 hg1 hg2 hg3 hkel hsmk
      obtain ⟨⟨qap, qan, qac, rfl⟩, ⟨qkp, qkn, qkc, rfl⟩⟩ := hkel.slices
      obtain ⟨x, hx⟩ : ∃ x, bst qe.name = x := ⟨_, rfl⟩
      obtain ⟨lo2, hlo2⟩ : ∃ y, bst (halvesL qe.name).2 = y := ⟨_, rfl⟩
      obtain ⟨lo1, hlo1⟩ : ∃ y, bst (halvesL qe.name).1 = y := ⟨_, rfl⟩
      have hxd : x.toList = qe.name := by rw [← hx, Lib.toList_data, bst_toList]
      have hh := halves_any x wr (by rw [← hx, bst_size]; omega)
      rw [show x.data.toList = qe.name by rw [← hxd, Lib.toList_data], hlo1, hlo2] at hh
      have g0 := hcell wr HBE.out _ _ hg0
      rw [hx] at g0
      have HH := Lib.hid hh
      have HDR := Lib.hid hdrop
      have HCELL := Lib.hid hcell
      have HG0 := Lib.hid (hx ▸ hg0)
      have HG1 := Lib.hid hg1
      have HG2 := Lib.hid hg2
      have HG3 := Lib.hid hg3
      have HKEL := Lib.hid hkel
      have HXD := Lib.hid hxd
      have HLO := Lib.hid hlo2
      have HXX := Lib.hid hx
      have HSM := Lib.hid hsmk
      clear hh hdrop hcell hg0 hg1 hg2 hg3 hkel hxd hlo1 hlo2 hx hq hsmk
      go_wp2_with fail
      refine HH.out.mono ?_
      rintro e w5 ⟨rfl, dn, hw5⟩
      have hs5 : Below wr.heap.size wr w5 := by rw [← hw5]; exact ⟨rfl, rfl, rfl, Nat.le_refl _, fun _ _ => rfl⟩
      have hb5 : Below w.heap.size w w5 := HBE.out.trans (hs5.mono HBE.out.size)
      have hkb5 : Blk w5 eb 25 _ := (hs5.block _ HKB.out.lt).trans HKB.out
      have g5 := HCELL.out w5 hb5 _ _ HG0.out
      have c5 := hkb5.cell 3
      have HB5 := Lib.hid hb5
      have HKB5 := Lib.hid hkb5
      by_cases hq0 : notEl qe = true
      · have HN2 : Hid (faultC (y1, y2) ((ks.drop (k + 1)).map (·.1)) = all) := Lib.hid (by
          have := HN.out
          rw [HDR.out] at this
          unfold faultC at this ⊢
          rw [goFold_skip hq0] at this
          exact this)
        unfold notEl at hq0
        rw [Bool.or_eq_true, beq_iff_eq, beq_iff_eq] at hq0
        clear hw5 hs5 hb5 hkb5 g0 c3
        rcases hq0 with hq0 | hq0
        · have e1 : x.toList.isEmpty = true := by rw [HXD.out, hq0]; rfl
          have e2 : (x.toList == []) = true := by rw [HXD.out, hq0]; rfl
          clear hq0
          go_wp2_with fail
          go_roundg (ks.length - (k + 1))
          case rel => exact ⟨k + 1, y1, y2, rfl, by omega, rfl, rfl, by go_num, HB5.out, HKB5.out, HN2⟩
          case measure => have := HG.out; omega
        · have e1 : x.toList.isEmpty = false := by rw [HXD.out, hq0]; rfl
          have e2 : (x.toList == []) = false := by rw [HXD.out, hq0]; rfl
          have e3 : (x.toList == [33]) = true := by rw [HXD.out, hq0]; rfl
          clear hq0
          go_wp2_with fail
          go_roundg (ks.length - (k + 1))
          case rel => exact ⟨k + 1, y1, y2, rfl, by omega, rfl, rfl, by go_num, HB5.out, HKB5.out, HN2⟩
          case measure => have := HG.out; omega
      · have hq1 : notEl qe = false := by simpa using hq0
        have HQ1 := Lib.hid hq1
        unfold notEl at hq1
        rw [Bool.or_eq_false_iff, beq_eq_false_iff_ne, beq_eq_false_iff_ne] at hq1
        have e1 : x.toList.isEmpty = false := by rw [HXD.out, List.isEmpty_eq_false_iff]; exact hq1.1
        have e2 : (x.toList == []) = false := by rw [HXD.out, beq_eq_false_iff_ne]; exact hq1.1
        have e3 : (x.toList == [33]) = false := by rw [HXD.out, beq_eq_false_iff_ne]; exact hq1.2
        have hst : ∀ y, compStep (y1, y2) lo2 qe.kids = y → faultC y ((ks.drop (k + 1)).map (·.1)) = all := fun y hy => by
          have := HN.out
          rw [HDR.out] at this
          unfold faultC at this ⊢
          rw [goFold_el HQ1.out, HLO.out, hy] at this
          exact this
        have hel5 : ElM 49 25 w5 D (.slice qap qan qac) (.slice qkp qkn qkc) qe := HKEL.out.fr (Fr.below hb5 (Nat.le_refl _) (fun _ h => h) : Fr (fun x => w.heap.size ≤ x) w _) (fun x hx => Nat.not_le.2 (HDD.out x hx))
        have hfl := flat_any w5 D _ _ qe hel5 HSM.out
        obtain ⟨T, hT⟩ : ∃ T, bst (flatL qe.kids) = T := ⟨_, rfl⟩
        obtain ⟨x2, hx2⟩ : ∃ y, bst qe.text = y := ⟨_, rfl⟩
        have g7 := HCELL.out w5 hb5 _ _ HG2.out
        rw [HXX.out, hT, hx2] at hfl
        rw [hx2] at g7
        have g6 := HCELL.out w5 hb5 _ _ HG1.out
        have g8 := HCELL.out w5 hb5 _ _ HG3.out
        have HFL := Lib.hid hfl
        have HST := Lib.hid hst
        have HT := Lib.hid hT
        clear hw5 hs5 hb5 hkb5 g0 c3 hq0 hq1 hst hel5 hfl hT hx2
        by_cases hc : lo2 = codeB
        · have e4 : (lo2.toList == [67, 111, 100, 101]) = true := by rw [hc, Lib.toList_data]; rfl
          have HN2 : Hid (faultC (T, y2) ((ks.drop (k + 1)).map (·.1)) = all) := Lib.hid (HST.out _ (by unfold compStep; rw [if_pos hc, HT.out]))
          clear hc
          go_wp2_with fail
          refine HFL.out.mono ?_
          rintro e w6 ⟨rfl, hb6⟩
          have HB6 := Lib.hid (HB5.out.trans (hb6.mono HB5.out.size))
          have HKB6 := Lib.hid (((hb6.block _ HKB5.out.lt).trans HKB5.out : Blk w6 eb 25 _))
          clear hb6
          go_wp2_with fail
          go_roundg (ks.length - (k + 1))
          case rel => exact ⟨k + 1, T, y2, rfl, by omega, rfl, rfl, by go_num, HB6.out, HKB6.out, HN2⟩
          case measure => have := HG.out; omega
        · have e4 : (lo2.toList == [67, 111, 100, 101]) = false := by
            rw [beq_eq_false_iff_ne]
            intro h
            refine hc (ba_ext ?_)
            rw [← Lib.toList_data, h]
            rfl
          by_cases hm : lo2 = msgB
          · have e5 : (lo2.toList == [77, 101, 115, 115, 97, 103, 101]) = true := by rw [hm, Lib.toList_data]; rfl
            have HN2 : Hid (faultC (y1, T) ((ks.drop (k + 1)).map (·.1)) = all) := Lib.hid (HST.out _ (by unfold compStep; rw [if_neg hc, if_pos hm, HT.out]))
            clear hc hm
            go_wp2_with fail
            refine HFL.out.mono ?_
            rintro e w6 ⟨rfl, hb6⟩
            have HB6 := Lib.hid (HB5.out.trans (hb6.mono HB5.out.size))
            have HKB6 := Lib.hid (((hb6.block _ HKB5.out.lt).trans HKB5.out : Blk w6 eb 25 _))
            clear hb6
            go_wp2_with fail
            go_roundg (ks.length - (k + 1))
            case rel => exact ⟨k + 1, y1, T, rfl, by omega, rfl, rfl, by go_num, HB6.out, HKB6.out, HN2⟩
            case measure => have := HG.out; omega
          · have e5 : (lo2.toList == [77, 101, 115, 115, 97, 103, 101]) = false := by
              rw [beq_eq_false_iff_ne]
              intro h
              refine hm (ba_ext ?_)
              rw [← Lib.toList_data, h]
              rfl
            have HN2 : Hid (faultC (y1, y2) ((ks.drop (k + 1)).map (·.1)) = all) := Lib.hid (HST.out _ (by unfold compStep; rw [if_neg hc, if_neg hm]))
            clear hc hm
            go_wp2_with fail
            go_roundg (ks.length - (k + 1))
            case rel => exact ⟨k + 1, y1, y2, rfl, by omega, rfl, rfl, by go_num, HB5.out, HKB5.out, HN2⟩
            case measure => have := HG.out; omega
    · have hd : decide ((k : Int) < (ks.length : Int)) = false := by rw [decide_eq_false_iff_not]; omega
      have hdone : (y1, y2) = all := by
        have := HN.out
        rw [List.drop_of_length_le (by omega)] at this
        exact this
      subst hdone
      go_wp2_with fail
      go_ret2
      exact ⟨rfl, by rw [← heb]; exact HBE.out⟩
end Go.Proofs.YtlljphipglgjiaaGreatDoor

namespace Go.Proofs.YtlljphipglgjiaaGreatDoor
open Go.RowKit Go.Lib

set_option maxRecDepth 100000 in
set_option maxHeartbeats 4000000 in
/-- zzComponents. -/
theorem comps_any {M : Nat → Prop} {w0 : World} {P m : Nat} {s : ByteArray} (cb : Nat) (Z : Known) (hM : M cb) (hcb : cb ∉ Z.map (·.1)) {fr : List Fram} {F F0 : NsF} {rest nm : List UInt8} {i : Nat} {owe : Option (ByteArray × ByteArray)} {ks : List XEl} (w : World) (x : Comp) (htx : TextAll s)
    (h : GSt M w0 w P m s i owe (frOf nm F0 :: fr) F ((cb, 117, #[.string x.1, .string x.2]) :: Z)) (hI : Inside s i owe nm ks rest) :
    Calls Tryz.prog 113 #[.pointer (some ⟨P, 0, none⟩), .pointer (some ⟨cb, 0, none⟩)] w fun e w' => e = .returned .nilIface ∧ ∃ j, i ≤ j ∧ j ≤ s.size ∧ s.data.toList.drop j = rest ∧ GSt M w0 w' P m s j none fr F0 ((cb, 117, #[.string (faultC x ks).1, .string (faultC x ks).2]) :: Z) := by
  have hlt := (h.ok (cb, 117, #[.string x.1, .string x.2]) (by simp)).1.lt
  have hzl : ∀ y ∈ Z, y.1 < w.heap.size := fun y hy => (h.ok y (by simp [hy])).1.lt
  have h2 := (h.push 57 #[.pointer (some ⟨P, 0, none⟩)] (by decide)).push 186 #[.pointer (some ⟨cb, 0, none⟩)] (by decide)
  obtain ⟨dc, hdc⟩ : ∃ dc, w.heap.size = dc := ⟨_, rfl⟩
  obtain ⟨cc, hcc⟩ : ∃ cc, (w.alloc (.cells #[.pointer (some ⟨P, 0, none⟩)] 57)).heap.size = cc := ⟨_, rfl⟩
  have hcc2 : cc = dc + 1 := by rw [← hcc, ← hdc]; simp
  obtain ⟨W, hW⟩ : ∃ W, (w.alloc (.cells #[.pointer (some ⟨P, 0, none⟩)] 57)).alloc (.cells #[.pointer (some ⟨cb, 0, none⟩)] 186) = W := ⟨_, rfl⟩
  rw [hdc, hcc, hW] at h2
  rw [hdc] at hlt hzl
  have h3 : GSt M w0 W P m s i owe (frOf nm F0 :: fr) F (CompC cb cc dc P Z x) := h2.sub fun y hy => by
    unfold CompC at hy
    simp only [List.mem_cons] at hy ⊢
    rcases hy with hy | hy | hy | hy
    · exact .inr (.inr (.inl hy))
    · exact .inl hy
    · exact .inr (.inl hy)
    · exact .inr (.inr (.inr hy))
  have htk := take148 (M := M) (w0 := w0) (P := P) (m := m) cb cc dc Z htx ⟨by dsimp only at hlt; omega, by dsimp only at hlt; omega, hcb⟩ hM
  have hel := elems148_any _ _ (CompC cb cc dc P Z) compTake compStep htk (fun x lo ks hh => by
    unfold compTake at hh
    simp only [Bool.or_eq_false_iff, decide_eq_false_iff_not] at hh
    unfold compStep
    rw [if_neg hh.1, if_neg hh.2]) W x htx h3 hI
  have hk2 := (h3.ok (cc, 186, #[.pointer (some ⟨cb, 0, none⟩)]) (by simp [CompC])).1
  have hk3 := (h3.ok (dc, 57, #[.pointer (some ⟨P, 0, none⟩)]) (by simp [CompC])).1
  have k2 := hk2.cell 0
  have k3 := hk3.cell 0
  subst hcc2
  have HEL := Lib.hid hel
  have HW := Lib.hid hW
  have hmf : ∀ (fn : Fn) (first cap : Array Value) (w : World), (Instr.makeFunc fn first cap).run Tryz.prog w = .ok (.func fn first cap) w := fun _ _ _ _ => rfl
  clear h h2 h3 hI htx htk hel hk2 hk3 hW hM hzl
  go_enter Tryz.func113, Tryz.ntmps113
  go_wp2_with fail
  rw [HW.out]
  try rw [hdc]
  go_wp2_with fail
  refine HEL.out.mono ?_
  rintro e w2 ⟨rfl, j, q1, q2, q3, q4⟩
  have HQ : Hid (∃ j, i ≤ j ∧ j ≤ s.size ∧ s.data.toList.drop j = rest ∧ GSt M w0 w2 P m s j none fr F0 ((cb, 117, #[.string (faultC x ks).1, .string (faultC x ks).2]) :: Z)) := Lib.hid ⟨j, q1, q2, q3, q4.sub fun y hy => by
    show y ∈ CompC cb (dc + 1) dc P Z (faultC x ks)
    unfold CompC
    simp only [List.mem_cons] at hy ⊢
    rcases hy with hy | hy
    · exact .inl hy
    · exact .inr (.inr (.inr hy))⟩
  clear q1 q2 q3 q4 k2 k3
  go_wp2_with fail
  go_ret
  exact ⟨rfl, HQ.out⟩

/-- What an element Error says. -/
def errStep (x : Comp) (lo : ByteArray) (ks : List XEl) : Comp := if lo = errB then faultC x ks else x
def errTake (lo : ByteArray) : Bool := decide (lo = errB)
def ErrC (cb dc P : Nat) (Z : Known) (x : Comp) : Known := (cb, 117, #[.string x.1, .string x.2]) :: (dc, 57, #[.pointer (some ⟨P, 0, none⟩)]) :: Z
set_option maxRecDepth 100000 in
set_option maxHeartbeats 4000000 in
theorem take115 {M : Nat → Prop} {w0 : World} {P m : Nat} {s : ByteArray} (cb dc : Nat) (Z : Known) (htx : TextAll s) (hcb : cb ≠ dc ∧ cb ∉ Z.map (·.1)) (hM : M cb) :
    TakeOk 115 (.pointer (some ⟨dc, 0, none⟩)) (.pointer (some ⟨cb, 0, none⟩)) M w0 P m s (ErrC cb dc P Z) errTake errStep := by
  intro w i owe nm F0 fr F ks rest x h hI
  obtain ⟨lo, hlo⟩ : ∃ lo, bst (halvesL nm).2 = lo := ⟨_, rfl⟩
  rw [hlo]
  have hb3 := (h.ok (dc, 57, #[.pointer (some ⟨P, 0, none⟩)]) (by simp [ErrC])).1
  have k3 := hb3.cell 0
  have hco := comps_any cb ((dc, 57, #[.pointer (some ⟨P, 0, none⟩)]) :: Z) hM (by simp only [List.map_cons, List.mem_cons, not_or]; exact hcb) w x htx h hI
  have HCO := Lib.hid hco
  have HS := Lib.hid h
  clear hco hI hb3 hlo htx hM
  by_cases hc : lo = errB
  · have e1 : (lo.toList == [69, 114, 114, 111, 114]) = true := by rw [hc, Lib.toList_data]; rfl
    have e2 : (lo.toList != [69, 114, 114, 111, 114]) = false := by rw [bne, e1]; rfl
    obtain ⟨post, hpost⟩ : ∃ post : Ending → World → Prop, TakeEnd M w0 P m s i owe (frOf nm F0 :: fr) F fr F0 rest (ErrC cb dc P Z x) (ErrC cb dc P Z (errStep x lo ks)) (errTake lo) = post := ⟨_, rfl⟩
    have hfin : ∀ (w' : World) (j : Nat), i ≤ j → j ≤ s.size → s.data.toList.drop j = rest → GSt M w0 w' P m s j none fr F0 (ErrC cb dc P Z (faultC x ks)) → post (.returned (.tuple #[.bool true, .nilIface])) w' := by
      intro w' j h1 h2 h3 h4
      rw [← hpost, show errTake lo = true by unfold errTake; rw [hc]; simp, show errStep x lo ks = faultC x ks by unfold errStep; rw [if_pos hc]]
      exact .yes w' j h1 h2 h3 h4
    rw [hpost]
    have HFIN := Lib.hid hfin
    clear hfin hpost hc h
    go_enter Tryz.func115, Tryz.ntmps115
    go_wp2_with fail
    refine HCO.out.mono ?_
    rintro e w2 ⟨rfl, j, q1, q2, q3, q4⟩
    have HP := Lib.hid (HFIN.out _ j q1 q2 q3 q4)
    clear q1 q2 q3 q4
    go_wp2_with fail
    exact HP.out
  · have e1 : (lo.toList == [69, 114, 114, 111, 114]) = false := by
      rw [beq_eq_false_iff_ne]
      intro h
      refine hc (ba_ext ?_)
      rw [← Lib.toList_data, h]
      rfl
    have e2 : (lo.toList != [69, 114, 114, 111, 114]) = true := by rw [bne, e1]; rfl
    obtain ⟨post, hpost⟩ : ∃ post : Ending → World → Prop, TakeEnd M w0 P m s i owe (frOf nm F0 :: fr) F fr F0 rest (ErrC cb dc P Z x) (ErrC cb dc P Z (errStep x lo ks)) (errTake lo) = post := ⟨_, rfl⟩
    have hfin : post (.returned (.tuple #[.bool false, .nilIface])) w := by
      rw [← hpost, show errTake lo = false by unfold errTake; simp [hc], show errStep x lo ks = x by unfold errStep; rw [if_neg hc]]
      exact .no w HS.out rfl
    rw [hpost]
    have HFIN := Lib.hid hfin
    clear hfin hpost hc h
    go_enter Tryz.func115, Tryz.ntmps115
    go_wp2_with fail
    exact HFIN.out
end Go.Proofs.YtlljphipglgjiaaGreatDoor

namespace Go.Proofs.YtlljphipglgjiaaGreatDoor
open Go.RowKit Go.Lib

/-- Code and message of an error's document. -/
def errsL (bare : Bool) (ks : List XEl) : Comp := if bare then faultC (⟨#[]⟩, ⟨#[]⟩) ks else goFold errStep (⟨#[]⟩, ⟨#[]⟩) ks

set_option maxRecDepth 100000 in
set_option maxHeartbeats 16000000 in
theorem er66_any (s : ByteArray) (w : World) (bare : Bool) (rd : Nat) (nm : List UInt8) (av : List AttrS) (ks : List XEl) (rest : List UInt8) (hs : s.size ≤ 1000000) (hT : Utf8Tabs 4 5 w) (h5 : 5 < rd) (hEO : ∃ te pe, w.cell? ⟨1, 0, none⟩ = some (.iface te pe)) (hD : DocOk s nm av ks rest)
    (hr : Blk w rd 190 #[.string s, .int .i64 0, .int .i64 (-1)]) :
    Calls Tryz.prog 66 #[.iface 120 (.pointer (some ⟨rd, 0, none⟩)), .bool bare] w fun e w' => e = .returned (.tuple #[.agg #[.string (errsL bare ks).1, .string (errsL bare ks).2], .nilIface]) ∧ Below rd w w' := by
  obtain ⟨te, pe, hEO⟩ := hEO
  have hrl := hr.lt
  obtain ⟨rb, hrb⟩ : ∃ rb, w.heap.size = rb := ⟨_, rfl⟩
  obtain ⟨W1, hW1⟩ : ∃ W, w.alloc (.cells #[.string ⟨#[]⟩, .string ⟨#[]⟩] 117) = W := ⟨_, rfl⟩
  have hs1 : W1.heap.size = rb + 1 := by rw [← hW1, ← hrb]; simp
  have hb1 : Below w.heap.size w W1 := by rw [← hW1]; exact (Below.refl _ _).alloc (Nat.le_refl _) _
  have hk1 : Blk W1 rb 117 #[.string ⟨#[]⟩, .string ⟨#[]⟩] := by rw [← hW1, ← hrb]; exact Blk.new _ _ _
  have hr1 : Blk W1 rd 190 #[.string s, .int .i64 0, .int .i64 (-1)] := (hb1.block _ hrl).trans hr
  have hnd := newDecoder_any (fun x => rd ≤ x) W1 s rd (-1) hs hr1 (Nat.le_refl _) (fun k hk => by rw [hs1] at hk; show rd ≤ k; omega)
  rw [hs1] at hnd
  have HND := Lib.hid hnd
  have HW1 := Lib.hid hW1
  have HB1 := Lib.hid hb1
  have HK1 := Lib.hid hk1
  have HT := Lib.hid hT
  have HD := Lib.hid hD
  have HEO := Lib.hid hEO
  have a1 := ta62_62
  have a2 := ta62_135
  have a3 := ta62_259
  have a4 := ta62_258
  have hmf : ∀ (fn : Fn) (first cap : Array Value) (w : World), (Instr.makeFunc fn first cap).run Tryz.prog w = .ok (.func fn first cap) w := fun _ _ _ _ => rfl
  have hnl := fun (w : World) => run_eql_iface_nil_left (P := Tryz.prog) w te pe Tryz.underlying69
  clear hnd hW1 hb1 hk1 hr1 hT hD hr hEO
  go_enter Tryz.func66, Tryz.ntmps66
  go_wp2_with fail
  rw [HW1.out]
  try rw [hrb]
  refine HND.out.mono ?_
  rintro e w3 ⟨rfl, hd3, hns3, hb3⟩
  have hk3 : Blk w3 rb 117 #[.string ⟨#[]⟩, .string ⟨#[]⟩] := (hb3.block _ (by omega)).trans HK1.out
  have hbw3 : Below w.heap.size w w3 := HB1.out.trans (hb3.mono (by omega))
  have hT3 : Utf8Tabs 4 5 w3 := utf8_fr (M := fun x => w.heap.size ≤ x) HT.out (Fr.below hbw3 (Nat.le_refl _) (fun _ h => h)) ⟨by omega, by omega⟩
  have hdv : DecV (Sans (fun x => rd ≤ x) [rb + 1]) w3 (rb + 1 + 1) (rb + 1) s 0 none [] nF :=
    ⟨_, true, [], [], [], 0, rfl, rfl, rfl, (fun p hp => nomatch hp), hd3.noMap hns3, hns3, fun h => h.2 (by simp), (fun p hp => by cases hp), rfl, Nat.le_refl _⟩
  obtain ⟨M, hMe⟩ : ∃ M : Nat → Prop, Sans (fun x => rd ≤ x) [rb + 1] = M := ⟨_, rfl⟩
  have hM1 : ∀ x, M x → rd ≤ x := by intro x hx; rw [← hMe] at hx; exact hx.1
  have hMb : M rb := by rw [← hMe]; exact ⟨by show rd ≤ rb; omega, by simp⟩
  rw [hMe] at hdv
  have hE3 : Env M (rb + 1) w3 := ⟨hT3, ⟨fun h => by have := hM1 4 h; omega, fun h => by have := hM1 5 h; omega⟩, by omega, by omega⟩
  obtain ⟨P, hP⟩ : ∃ P, rb + 1 + 1 = P := ⟨_, rfl⟩
  obtain ⟨m, hm⟩ : ∃ m, rb + 1 = m := ⟨_, rfl⟩
  rw [hm] at hP
  rw [hm, hP] at hdv
  rw [hm] at hE3
  have hst0 : GSt M w3 w3 P m s 0 none [] nF [(rb, 117, #[.string ⟨#[]⟩, .string ⟨#[]⟩])] := ⟨hdv, hE3, fun x hx => by
    simp only [List.mem_cons, List.not_mem_nil, or_false] at hx
    subst hx
    exact ⟨hk3, (by decide : (117 : TypeId) ≠ 197 ∧ (117 : TypeId) ≠ 190 ∧ (117 : TypeId) ≠ 5 ∧ (117 : TypeId) ≠ 200)⟩, Fr.refl _ _⟩
  have hst1 := hst0.push 57 #[.pointer (some ⟨P, 0, none⟩)] (by decide)
  have hold : ∀ wr, Fr (fun y => M y ∨ y = m) w3 wr → Below rd w wr := fun wr hf => (hbw3.mono (by omega)).trans (hf.toBelow fun x hx => by
    rcases hx with hx | hx
    · exact hM1 x hx
    · omega)
  rw [hm, hP]
  obtain ⟨dc, hdc⟩ : ∃ dc, w3.heap.size = dc := ⟨_, rfl⟩
  obtain ⟨W4, hW4⟩ : ∃ W, w3.alloc (.cells #[.pointer (some ⟨P, 0, none⟩)] 57) = W := ⟨_, rfl⟩
  have hdr : rb < dc := by rw [← hdc]; exact hk3.lt
  rw [hdc, hW4] at hst1
  obtain ⟨t, t2, r1, em, d1, d2, d3, d4, d5⟩ := HD.out
  have hrt := fun (M' : Nat → Prop) (w' : World) (i' : Nat) (h' : DecV M' w' P m s i' none [] nF) (hE' : Env M' m w') (hR' : RootIn s i' t) => root_tok (text_all s) h' hE' hR' d2 d3 d4 d5
  have HRT := Lib.hid hrt
  have HRI := Lib.hid d1
  have HST1 := Lib.hid hst1
  have HOLD := Lib.hid hold
  have HW4 := Lib.hid hW4
  have HMB := Lib.hid hMb
  clear hd3 hns3 hb3 hk3 hbw3 hT3 hdv hM1 hMe hMb hE3 hst0 hst1 hold hW4 hrt d1 d2 d3 d4 d5 HND HK1 HB1
  go_wp2_with fail
  rw [HW4.out]
  try rw [hdc]
  go_loopg [5] s.size (fun g ev wr => ∃ i' : Nat, g = s.size - i' ∧ ev = .nilIface ∧ GSt M w3 wr P m s i' none [] nF [(dc, 57, #[.pointer (some ⟨P, 0, none⟩)]), (rb, 117, #[.string ⟨#[]⟩, .string ⟨#[]⟩])] ∧ RootIn s i' t)
  case atStart => exact ⟨0, rfl, rfl, HST1.out, HRI.out⟩
  case round =>
    obtain ⟨i', hg, rfl, hst, hri⟩ := hrel
    have HG := Lib.hid hg
    have HS := Lib.hid hst
    have hkd := (hst.ok (dc, 57, #[.pointer (some ⟨P, 0, none⟩)]) (by simp)).1
    have dc0 := hkd.cell 0
    have HTK := Lib.hid (HRT.out _ _ _ hst.decS hst.envS hri)
    clear hg hst hri hkd HST1 HRI
    go_wp2_with fail
    refine HTK.out.mono ?_
    intro e w5 hk
    cases hk with
    | text v _ j h1 h2 h3 h4 =>
      have hst5 := HS.out.after h3 h4
      have eo : w5.cell? ⟨1, 0, none⟩ = some (.iface te pe) := ((HOLD.out w5 hst5.fr).cell (p := ⟨1, 0, none⟩) (by show 1 < rd; omega)).trans HEO.out
      have HST6 := Lib.hid (hst5.wid ((Below.refl w5.heap.size w5).alloc (Nat.le_refl _) (.cells #[.string ⟨#[]⟩, .string ⟨#[]⟩, .slice none 0 0] 62)))
      have H2 := Lib.hid h2
      have HJ := Lib.hid h1
      have hj2 := h2.1
      clear h1 h2 h3 h4 hst5 dc0
      go_wp2_with fail
      go_roundg (s.size - j)
      case rel => exact ⟨j, rfl, rfl, HST6.out, H2.out⟩
      case measure => have := HG.out; have := HJ.out; omega
    | com v _ j h1 h2 h3 h4 =>
      have hst5 := HS.out.after h3 h4
      have eo : w5.cell? ⟨1, 0, none⟩ = some (.iface te pe) := ((HOLD.out w5 hst5.fr).cell (p := ⟨1, 0, none⟩) (by show 1 < rd; omega)).trans HEO.out
      have HST6 := Lib.hid (hst5.wid ((Below.refl w5.heap.size w5).alloc (Nat.le_refl _) (.cells #[.string ⟨#[]⟩, .string ⟨#[]⟩, .slice none 0 0] 62)))
      have H2 := Lib.hid h2
      have HJ := Lib.hid h1
      have hj2 := h2.1
      clear h1 h2 h3 h4 hst5 dc0
      go_wp2_with fail
      go_roundg (s.size - j)
      case rel => exact ⟨j, rfl, rfl, HST6.out, H2.out⟩
      case measure => have := HG.out; have := HJ.out; omega
    | decl v _ j h1 h2 h3 h4 =>
      have hst5 := HS.out.after h3 h4
      have eo : w5.cell? ⟨1, 0, none⟩ = some (.iface te pe) := ((HOLD.out w5 hst5.fr).cell (p := ⟨1, 0, none⟩) (by show 1 < rd; omega)).trans HEO.out
      have HST6 := Lib.hid (hst5.wid ((Below.refl w5.heap.size w5).alloc (Nat.le_refl _) (.cells #[.string ⟨#[]⟩, .string ⟨#[]⟩, .slice none 0 0] 62)))
      have H2 := Lib.hid h2
      have HJ := Lib.hid h1
      have hj2 := h2.1
      clear h1 h2 h3 h4 hst5 dc0
      go_wp2_with fail
      go_roundg (s.size - j)
      case rel => exact ⟨j, rfl, rfl, HST6.out, H2.out⟩
      case measure => have := HG.out; have := HJ.out; omega
    | start _ j owe a n c h1 h2 h3 h4 =>
      have hst5 := HS.out.after h3 h4
      have eo : w5.cell? ⟨1, 0, none⟩ = some (.iface te pe) := ((HOLD.out w5 hst5.fr).cell (p := ⟨1, 0, none⟩) (by show 1 < rd; omega)).trans HEO.out
      obtain ⟨X, hX⟩ : ∃ X, xlate (nsAll nF av) true (bst (halvesL nm).1) (bst (halvesL nm).2) = X := ⟨_, rfl⟩
      obtain ⟨lo, hlo⟩ : ∃ lo, bst (halvesL nm).2 = lo := ⟨_, rfl⟩
      rw [hX, hlo]
      have hst6 := (hst5.wid ((Below.refl w5.heap.size w5).alloc (Nat.le_refl _) (.cells #[.string X, .string lo, .slice a n c] 62))).push 117 #[.string ⟨#[]⟩, .string ⟨#[]⟩] (by decide)
      obtain ⟨cb, hcb⟩ : ∃ cb, (w5.alloc (.cells #[.string X, .string lo, .slice a n c] 62)).heap.size = cb := ⟨_, rfl⟩
      obtain ⟨W7, hW7⟩ : ∃ W, (w5.alloc (.cells #[.string X, .string lo, .slice a n c] 62)).alloc (.cells #[.string ⟨#[]⟩, .string ⟨#[]⟩] 117) = W := ⟨_, rfl⟩
      have hMc : M cb := by
        have := DecW.new hst5.dec cb
        refine this ?_
        rw [← hcb]
        simp
      have hcd : dc < cb := by
        have h9 := (hst5.ok (dc, 57, #[.pointer (some ⟨P, 0, none⟩)]) (by simp)).1.lt
        dsimp only at h9
        rw [← hcb]
        simp
        omega
      rw [hcb, hW7] at hst6
      have H2 := Lib.hid h2
      have H6 := Lib.hid hst6
      have HW7 := Lib.hid hW7
      have hkd := (hst6.ok (dc, 57, #[.pointer (some ⟨P, 0, none⟩)]) (by simp)).1
      have dc7 := hkd.cell 0
      clear h1 h2 h3 h4 hst5 hst6 hX hlo hW7 hkd dc0
      cases bare with
      | true =>
        have hco := comps_any cb [(dc, 57, #[.pointer (some ⟨P, 0, none⟩)]), (rb, 117, #[.string ⟨#[]⟩, .string ⟨#[]⟩])] hMc (by simp; omega) W7 (⟨#[]⟩, ⟨#[]⟩) (text_all s) H6.out H2.out
        have hres : faultC (⟨#[]⟩, ⟨#[]⟩) ks = errsL true ks := rfl
        rw [hres] at hco
        obtain ⟨x, hx⟩ : ∃ x, errsL true ks = x := ⟨_, rfl⟩
        rw [hx] at hco
        try rw [hx]
        obtain ⟨c1, c2⟩ := x
        have HCO := Lib.hid hco
        have HXE := Lib.hid hx
        clear hco hres hx
        go_upto_region 12 with fail
        rw [HW7.out]
        try rw [hcb]
        go_wp2_with fail
        refine HCO.out.mono ?_
        rintro e w8 ⟨rfl, j8, _, _, _, hst8⟩
        have hk8 := (hst8.ok (cb, 117, #[.string c1, .string c2]) (by simp)).1
        have u0 := hk8.cell 0
        have u1 := hk8.cell 1
        have hr8 := (hst8.ok (rb, 117, #[.string ⟨#[]⟩, .string ⟨#[]⟩]) (by simp)).1
        have v0 := hr8.cell 0
        have v1 := hr8.cell 1
        have vf := hr8.frozen
        have HB8 := Lib.hid (HOLD.out w8 hst8.fr)
        have HR8 := Lib.hid hr8
        clear hst8 hk8 hr8 dc7
        go_wp2_with fail
        have z0 := (HR8.out.set 0 (.string c1)).cell 0
        have z1 := ((HR8.out.set 0 (.string c1)).set 1 (.string c2)).cell 1
        refine bodyPost_ret (v := .tuple #[.agg #[.string c1, .string c2], .nilIface]) (by simp [results, Tryz.results66, go_sem, z0, z1]) rfl ⟨by rw [HXE.out], ?_⟩
        exact HB8.out.trans ((((Fr.refl (fun x => x = rb) w8).setCell (p := ⟨rb, 0, none⟩) rfl _).setCell (p := ⟨rb, 1, none⟩) rfl _).toBelow fun x hx => by rw [hx]; omega)
      | false =>
        have hel := elems115_any (.pointer (some ⟨dc, 0, none⟩)) (.pointer (some ⟨cb, 0, none⟩)) (ErrC cb dc P [(rb, 117, #[.string ⟨#[]⟩, .string ⟨#[]⟩])]) errTake errStep (take115 (M := M) (w0 := w3) (P := P) (m := m) cb dc _ (text_all s) ⟨by omega, by simp; omega⟩ hMc) (fun x lo ks hh => by
          unfold errTake at hh
          rw [decide_eq_false_iff_not] at hh
          unfold errStep
          rw [if_neg hh]) W7 (⟨#[]⟩, ⟨#[]⟩) (text_all s) H6.out H2.out
        have hres : goFold errStep (⟨#[]⟩, ⟨#[]⟩) ks = errsL false ks := rfl
        rw [hres] at hel
        obtain ⟨x, hx⟩ : ∃ x, errsL false ks = x := ⟨_, rfl⟩
        rw [hx] at hel
        try rw [hx]
        obtain ⟨c1, c2⟩ := x
        have HCO := Lib.hid hel
        have HXE := Lib.hid hx
        clear hel hres hx
        go_upto_region 13 with fail
        rw [HW7.out]
        try rw [hcb]
        go_wp2_with fail
        refine HCO.out.mono ?_
        rintro e w8 ⟨rfl, j8, _, _, _, hst8⟩
        have hk8 := (hst8.ok (cb, 117, #[.string c1, .string c2]) (by simp [ErrC])).1
        have u0 := hk8.cell 0
        have u1 := hk8.cell 1
        have hr8 := (hst8.ok (rb, 117, #[.string ⟨#[]⟩, .string ⟨#[]⟩]) (by simp [ErrC])).1
        have v0 := hr8.cell 0
        have v1 := hr8.cell 1
        have vf := hr8.frozen
        have HB8 := Lib.hid (HOLD.out w8 hst8.fr)
        have HR8 := Lib.hid hr8
        clear hst8 hk8 hr8 dc7
        go_wp2_with fail
        have z0 := (HR8.out.set 0 (.string c1)).cell 0
        have z1 := ((HR8.out.set 0 (.string c1)).set 1 (.string c2)).cell 1
        refine bodyPost_ret (v := .tuple #[.agg #[.string c1, .string c2], .nilIface]) (by simp [results, Tryz.results66, go_sem, z0, z1]) rfl ⟨by rw [HXE.out], ?_⟩
        exact HB8.out.trans ((((Fr.refl (fun x => x = rb) w8).setCell (p := ⟨rb, 0, none⟩) rfl _).setCell (p := ⟨rb, 1, none⟩) rfl _).toBelow fun x hx => by rw [hx]; omega)

set_option maxRecDepth 100000 in
set_option maxHeartbeats 4000000 in
theorem xerrors_any (s : ByteArray) (w : World) (bare : Bool) (nm : List UInt8) (av : List AttrS) (ks : List XEl) (rest : List UInt8) (hs : s.size ≤ 1000000) (hT : Utf8Tabs 4 5 w) (h5 : 5 < w.heap.size) (hEO : ∃ te pe, w.cell? ⟨1, 0, none⟩ = some (.iface te pe)) (hD : DocOk s nm av ks rest) :
    Calls Tryz.prog 30 #[.string s, .bool bare] w fun e w' => e = .returned (.tuple #[.string (errsL bare ks).1, .string (errsL bare ks).2, .bool true]) ∧ Below w.heap.size w w' := by
  obtain ⟨te, pe, hEO⟩ := hEO
  obtain ⟨W1, hW1⟩ : ∃ W, w.alloc (.cells #[.string s, .int .i64 0, .int .i64 (-1)] 190) = W := ⟨_, rfl⟩
  have hb1 : Below w.heap.size w W1 := by rw [← hW1]; exact (Below.refl _ _).alloc (Nat.le_refl _) _
  have hk1 : Blk W1 w.heap.size 190 #[.string s, .int .i64 0, .int .i64 (-1)] := by rw [← hW1]; exact Blk.new _ _ _
  have hT1 : Utf8Tabs 4 5 W1 := utf8_fr (M := fun x => w.heap.size ≤ x) hT (Fr.below hb1 (Nat.le_refl _) (fun _ h => h)) ⟨by omega, by omega⟩
  have her := er66_any s W1 bare w.heap.size nm av ks rest hs hT1 h5 ⟨te, pe, (hb1.cell (p := ⟨1, 0, none⟩) (by show 1 < w.heap.size; omega)).trans hEO⟩ hD hk1
  obtain ⟨x, hx⟩ : ∃ x, errsL bare ks = x := ⟨_, rfl⟩
  rw [hx] at her ⊢
  obtain ⟨c1, c2⟩ := x
  obtain ⟨rd, hrd⟩ : ∃ rd, w.heap.size = rd := ⟨_, rfl⟩
  rw [hrd] at her
  have HER := Lib.hid her
  have HW1 := Lib.hid hW1
  have HB1 := Lib.hid hb1
  clear hW1 hb1 hk1 hT1 her hT hD hEO hx
  go_enter Tryz.func30, Tryz.ntmps30
  go_wp2_with fail
  refine (newReader_any w s).mono ?_
  rintro e w2 ⟨rfl, hw2⟩
  rw [HW1.out] at hw2
  subst hw2
  rw [hrd]
  go_wp2_with fail
  refine HER.out.mono ?_
  rintro e w3 ⟨rfl, hb3⟩
  have hkb := Blk.new w3 117 #[.string c1, .string c2]
  have k0 := hkb.cell 0
  have k1 := hkb.cell 1
  have hbf : Below w.heap.size w (w3.alloc (.cells #[.string c1, .string c2] 117)) := by
    have hb13 : Below w.heap.size w w3 := HB1.out.trans (by rw [hrd]; exact hb3)
    exact hb13.alloc hb13.size _
  have HBF := Lib.hid hbf
  clear hb3 hbf hkb
  go_wp2_with fail
  go_quiet (fail)
  go_wp2_with fail
  refine bodyPost_ret (v := .tuple #[.string c1, .string c2, .bool true]) (by simp [results, Tryz.results30, go_sem]) rfl ?_
  exact ⟨rfl, HBF.out.trans ⟨rfl, rfl, rfl, Nat.le_refl _, fun _ _ => rfl⟩⟩
end Go.Proofs.YtlljphipglgjiaaGreatDoor
