/-
  NodeDecoder.Token: the next element, or the node's end.
  spec.xLower: small letters in place of great ones.
  zzEqualFold on names of ASCII; spec.xLower.
  zxml's procInst on the one declaration that spec.XRead takes.
  zxml's Decoder.rawToken: the declaration that spec.XRead takes.
  FetchRootElement: the root's start, behind what stands ahead of it.
-/
import Derived.Test.YtlljphipglgjiaaGreatDoorXmRaw2
import Derived.Deep.RegionHeld3
import Derived.Test.YtlljphipglgjiaaGreatDoorXmEl3
import Derived.Lib.ConvBytes
import Derived.Laws.IdiomStrings
import Derived.Test.YtlljphipglgjiaaGreatDoorXmSans
import Derived.Test.YtlljphipglgjiaaGreatDoorXmCom
import Derived.OwnWalk
import Derived.Deep.AppendLies
import Derived.Lib.OthersKept
import Derived.Test.YtlljphipglgjiaaGreatDoorXmStr
import Derived.Test.YtlljphipglgjiaaGreatDoorXmLow
import Derived.Test.YtlljphipglgjiaaGreatDoorXmRaw
namespace Go.Proofs.YtlljphipglgjiaaGreatDoor
open Go.RowKit Go.Lib

set_option maxRecDepth 100000 in
theorem endOf_any (w : World) (X lo : ByteArray) (a : Option Addr) (n c : Nat) : Calls Tryz.prog 71 #[.agg #[.string X, .string lo, .slice a n c]] w fun e w' => e = .returned (.agg #[.string X, .string lo]) ∧ Below w.heap.size w w' := by
  go_enter Tryz.func71, Tryz.ntmps71
  go_wp2_with fail
  refine bodyPost_ret (v := .agg #[.string X, .string lo]) (by simp [results, Tryz.results71, go_sem]) rfl ⟨rfl, ?_⟩
  exact ((Below.refl w.heap.size w).alloc (Nat.le_refl _) _).alloc (by simp) _
set_option maxRecDepth 100000 in
theorem wrap_any (w : World) (P : Nat) (X lo : ByteArray) (a : Option Addr) (n c : Nat) : Calls Tryz.prog 32 #[.pointer (some ⟨P, 0, none⟩), .agg #[.string X, .string lo, .slice a n c]] w fun e w' => e = .returned (.agg #[.pointer (some ⟨P, 0, none⟩), .string X, .string lo, .slice a n c]) ∧ Below w.heap.size w w' := by
  go_enter Tryz.func32, Tryz.ntmps32
  go_wp2_with fail
  refine bodyPost_ret (v := .agg #[.pointer (some ⟨P, 0, none⟩), .string X, .string lo, .slice a n c]) (by simp [results, Tryz.results32, go_sem]) rfl ⟨rfl, ?_⟩
  exact ((Below.refl w.heap.size w).alloc (Nat.le_refl _) _).alloc (by simp) _

/-- Is it no element but a text or a comment? -/
def notEl (k : XEl) : Bool := k.name == [] || k.name == [33]
def elemsOf (ks : List XEl) : List XEl := ks.filter fun k => !notEl k
theorem good_el {nm : List UInt8} {av : List AttrS} {tx : List UInt8} {ks : List XEl} (h : GoodN nm) : notEl (.mk nm av tx ks) = false := by
  obtain ⟨c, t, rfl, hc⟩ := h.first
  unfold notEl XEl.name
  rw [Bool.or_eq_false_iff]
  refine ⟨rfl, ?_⟩
  rw [beq_eq_false_iff_ne]
  intro e
  injection e with e1 e2
  rw [e1] at hc
  exact absurd hc (by decide)
theorem elemsOf_cons {k : XEl} {ks : List XEl} (h : notEl k = false) : elemsOf (k :: ks) = k :: elemsOf ks := by unfold elemsOf; rw [List.filter_cons_of_pos (by rw [h]; rfl)]
theorem DecW.sans {M : Nat → Prop} {w : World} {P m : Nat} {s : ByteArray} {i : Nat} {owe : Option (ByteArray × ByteArray)} {fr : List Fram} {F : NsF} {bud : Nat} (h : DecW M w P m s i owe fr F bud) {X : Known} (hX : KnownD X w) : DecW (Sans M (X.map (·.1))) w P m s i owe fr F bud := by
  obtain ⟨L, f, bs, st, fl, n, h1, h2, h3, h4, h5, h6, h7, h8, h9, h10⟩ := h
  exact ⟨L, f, bs, st, fl, n, h1, h2, h3, h4, h5.sansD hX, h6, fun h => h7 h.1, h8, h9, h10⟩
theorem Env.sans {M : Nat → Prop} {m : Nat} {w : World} (h : Env M m w) (l : List Nat) : Env (Sans M l) m w := ⟨h.tabs, ⟨fun e => h.m4.1 e.1, fun e => h.m4.2 e.1⟩, h.n4⟩

/-- The blocks that the node's end reads: the result's, the token's, the node's. -/
def SN (w : World) (P nb rb eb : Nat) (X lo : ByteArray) (a : Option Addr) (n c : Nat) : Prop :=
  Blk w rb 62 #[.string ⟨#[]⟩, .string ⟨#[]⟩, .slice none 0 0] ∧ Blk w eb 128 #[.string X, .string lo] ∧ Blk w nb 66 #[.pointer (some ⟨P, 0, none⟩), .string X, .string lo, .slice a n c] ∧ rb ≠ eb ∧ rb ≠ nb
theorem SN.full {w : World} {P nb rb eb : Nat} {X lo : ByteArray} {a : Option Addr} {n c : Nat} (h : SN w P nb rb eb X lo a n c) :
    SN w P nb rb eb X lo a n c ∧ w.cell? ⟨rb, 0, none⟩ = some (.string ⟨#[]⟩) ∧ w.cell? ⟨rb, 1, none⟩ = some (.string ⟨#[]⟩) ∧ w.cell? ⟨rb, 2, none⟩ = some (.slice none 0 0) ∧ w.cell? ⟨eb, 0, none⟩ = some (.string X) ∧ w.cell? ⟨eb, 1, none⟩ = some (.string lo) ∧ w.cell? ⟨nb, 1, none⟩ = some (.string X) ∧ w.cell? ⟨nb, 2, none⟩ = some (.string lo) ∧ w.cell? ⟨nb, 3, none⟩ = some (.slice a n c) ∧
      w.frozen? ⟨rb, 0, none⟩ = false ∧ w.frozen? ⟨rb, 1, none⟩ = false ∧ w.frozen? ⟨rb, 2, none⟩ = false :=
  ⟨h, h.1.cell 0, h.1.cell 1, h.1.cell 2, h.2.1.cell 0, h.2.1.cell 1, h.2.2.1.cell 1, h.2.2.1.cell 2, h.2.2.1.cell 3, h.1.frozen 0, h.1.frozen 1, h.1.frozen 2⟩
theorem SN.store {w : World} {P nb rb eb : Nat} {X lo : ByteArray} {a : Option Addr} {n c : Nat} (h : SN w P nb rb eb X lo a n c) :
    SN (((w.setCell ⟨rb, 0, none⟩ (.string ⟨#[]⟩)).setCell ⟨rb, 1, none⟩ (.string ⟨#[]⟩)).setCell ⟨rb, 2, none⟩ (.slice none 0 0)) P nb rb eb X lo a n c :=
  ⟨(((h.1.set 0 _).set 1 _).set 2 _).eq rfl, ((h.2.1.far (p := ⟨rb, 0, none⟩) h.2.2.2.1.symm _).far (p := ⟨rb, 1, none⟩) h.2.2.2.1.symm _).far (p := ⟨rb, 2, none⟩) h.2.2.2.1.symm _, ((h.2.2.1.far (p := ⟨rb, 0, none⟩) h.2.2.2.2.symm _).far (p := ⟨rb, 1, none⟩) h.2.2.2.2.symm _).far (p := ⟨rb, 2, none⟩) h.2.2.2.2.symm _, h.2.2.2⟩

/-- What NodeDecoder.Token hands back. -/
inductive NodeTok (M : Nat → Prop) (w : World) (P m : Nat) (s : ByteArray) (i : Nat) (fr : List Fram) (F F0 : NsF) (nm : List UInt8) (rest : List UInt8) : List XEl → Ending → World → Prop
  | done (w' : World) : AfterEl M P m s fr F0 rest i w' → Fr (fun y => M y ∨ y = m) w w' → NodeTok M w P m s i fr F F0 nm rest [] (.returned (.tuple #[.agg #[.string ⟨#[]⟩, .string ⟨#[]⟩, .slice none 0 0], .bool true, .nilIface])) w'
  | start (w' : World) (j : Nat) (n2 : List UInt8) (av : List AttrS) (k2 ks : List XEl) (rest2 : List UInt8) (owe : Option (ByteArray × ByteArray)) (a : Option Addr) (n c : Nat) : i < j → GoodN n2 → Inside s j owe n2 k2 rest2 → Cont rest2 nm ks rest →
      DecV M w' P m s j owe (frOf n2 F :: frOf nm F0 :: fr) (nsAll F av) → Fr (fun y => M y ∨ y = m) w w' →
      NodeTok M w P m s i fr F F0 nm rest (.mk n2 av [] k2 :: elemsOf ks) (.returned (.tuple #[.agg #[.string (xlate (nsAll F av) true (bst (halvesL n2).1) (bst (halvesL n2).2)), .string (bst (halvesL n2).2), .slice a n c], .bool false, .nilIface])) w'

set_option maxRecDepth 100000 in
set_option maxHeartbeats 8000000 in
theorem node_tok {M : Nat → Prop} {P m : Nat} {s : ByteArray} {fr : List Fram} {F F0 : NsF} {rest nm : List UInt8} {i : Nat} {owe : Option (ByteArray × ByteArray)} {ks : List XEl} (w : World) (X lo : ByteArray) (a : Option Addr) (n c : Nat) (htx : TextAll s) (h : DecV M w P m s i owe (frOf nm F0 :: fr) F) (hI : Inside s i owe nm ks rest) (hE : Env M m w)
    (hX : X = xlate F true (bst (halvesL nm).1) (bst (halvesL nm).2)) (hlo : lo = bst (halvesL nm).2) :
    Calls Tryz.prog 33 #[.agg #[.pointer (some ⟨P, 0, none⟩), .string X, .string lo, .slice a n c]] w (NodeTok M w P m s i fr F F0 nm rest (elemsOf ks)) := by
  have hss := DecW.size h
  obtain ⟨E, hEE⟩ : ∃ E, elemsOf ks = E := ⟨_, rfl⟩
  rw [hEE]
  obtain ⟨post, hpost⟩ : ∃ post, NodeTok M w P m s i fr F F0 nm rest E = post := ⟨_, rfl⟩
  have hN := DecW.new h
  have hm := DecW.notM h
  have hD0 := h.below (w' := (w.alloc (.cells #[.pointer (some ⟨P, 0, none⟩), .string X, .string lo, .slice a n c] 66)).alloc (.cells #[.string ⟨#[]⟩, .string ⟨#[]⟩, .slice none 0 0] 62)) (((Below.refl _ _).alloc (Nat.le_refl _) _).alloc (by simp) _)
  have hfW : Fr (fun y => M y ∨ y = m) w ((w.alloc (.cells #[.pointer (some ⟨P, 0, none⟩), .string X, .string lo, .slice a n c] 66)).alloc (.cells #[.string ⟨#[]⟩, .string ⟨#[]⟩, .slice none 0 0] 62)) := Fr.below (((Below.refl w.heap.size w).alloc (Nat.le_refl _) _).alloc (by simp) _) (Nat.le_refl _) (fun k hk => .inl (hN k hk))
  have hk1 : Blk ((w.alloc (.cells #[.pointer (some ⟨P, 0, none⟩), .string X, .string lo, .slice a n c] 66)).alloc (.cells #[.string ⟨#[]⟩, .string ⟨#[]⟩, .slice none 0 0] 62)) w.heap.size 66 #[.pointer (some ⟨P, 0, none⟩), .string X, .string lo, .slice a n c] := (Blk.new _ _ _).alloc _
  have hk2 : Blk ((w.alloc (.cells #[.pointer (some ⟨P, 0, none⟩), .string X, .string lo, .slice a n c] 66)).alloc (.cells #[.string ⟨#[]⟩, .string ⟨#[]⟩, .slice none 0 0] 62)) (w.heap.size + 1) 62 #[.string ⟨#[]⟩, .string ⟨#[]⟩, .slice none 0 0] := by simpa using Blk.new (w.alloc (.cells #[.pointer (some ⟨P, 0, none⟩), .string X, .string lo, .slice a n c] 66)) 62 #[.string ⟨#[]⟩, .string ⟨#[]⟩, .slice none 0 0]
  obtain ⟨W, hW⟩ : ∃ W, (w.alloc (.cells #[.pointer (some ⟨P, 0, none⟩), .string X, .string lo, .slice a n c] 66)).alloc (.cells #[.string ⟨#[]⟩, .string ⟨#[]⟩, .slice none 0 0] 62) = W := ⟨_, rfl⟩
  rw [hW] at hD0 hfW hk1 hk2
  have hNM : M w.heap.size ∧ M (w.heap.size + 1) := ⟨hN _ (Nat.le_refl _), hN _ (Nat.le_succ _)⟩
  have hgl : m < w.heap.size := by
    obtain ⟨L, f, bs, st, fl, n, _, _, _, _, _, hns, _⟩ := h
    exact hns.lt
  obtain ⟨nb, hnb⟩ : ∃ nb, w.heap.size = nb := ⟨_, rfl⟩
  obtain ⟨rb, hrb⟩ : ∃ rb, nb + 1 = rb := ⟨_, rfl⟩
  have hwn : w.heap.size ≤ nb ∧ w.heap.size ≤ rb ∧ nb ≠ rb := by omega
  rw [hnb, hrb] at hk2
  rw [hnb, hrb] at hNM
  rw [hnb] at hk1
  have hX0 : KnownD [(nb, 66, #[.pointer (some ⟨P, 0, none⟩), .string X, .string lo, .slice a n c]), (rb, 62, #[.string ⟨#[]⟩, .string ⟨#[]⟩, .slice none 0 0])] W := fun x hx => by
    simp only [List.mem_cons, List.not_mem_nil, or_false] at hx
    rcases hx with rfl | rfl
    · exact ⟨hk1, (by decide : (66 : TypeId) ≠ 197 ∧ (66 : TypeId) ≠ 190 ∧ (66 : TypeId) ≠ 5 ∧ (66 : TypeId) ≠ 200)⟩
    · exact ⟨hk2, (by decide : (62 : TypeId) ≠ 197 ∧ (62 : TypeId) ≠ 190 ∧ (62 : TypeId) ≠ 5 ∧ (62 : TypeId) ≠ 200)⟩
  have HD0 : Hid (DecV (Sans M [nb, rb]) W P m s i owe (frOf nm F0 :: fr) F) := Lib.hid (DecW.sans hD0 hX0)
  have HFW := Lib.hid hfW
  have HK1 := Lib.hid hk1
  have HK2 := Lib.hid hk2
  have HI := Lib.hid hI
  have HE := Lib.hid ((hE.fr hfW).sans [nb, rb])
  have HTX := Lib.hid htx
  have HEE := Lib.hid hEE
  have HPOST := Lib.hid hpost
  have HNM := Lib.hid hNM
  have HM := Lib.hid hm
  have HN := Lib.hid hN
  have HX := Lib.hid hX
  have HLO := Lib.hid hlo
  have HW := Lib.hid hW
  have a1 := ta62_62
  have a2 := ta62_135
  have a3 := ta62_259
  have a4 := ta62_128
  have a5 := ta128_135
  have a6 := ta128_259
  have a7 := ta128_128
  have a8 := ta128_62
  rw [hpost]
  clear h hI hE htx hpost hN hm hD0 hfW hk1 hk2 hNM hX0 hX hlo hEE hW
  go_enter Tryz.func33, Tryz.ntmps33
  go_wp2_with fail
  rw [HW.out]
  try rw [hnb]
  try rw [hrb]
  go_loopg [3, 4] (s.size - i) (fun g dv ev wr => ∃ (i' : Nat) (owe' : Option (ByteArray × ByteArray)) (ks' : List XEl), g = s.size - i' ∧ dv = .bool false ∧ ev = .nilIface ∧ i ≤ i' ∧ DecV (Sans M [nb, rb]) wr P m s i' owe' (frOf nm F0 :: fr) F ∧ Inside s i' owe' nm ks' rest ∧ elemsOf ks' = E ∧ Env (Sans M [nb, rb]) m wr ∧ Fr (fun y => M y ∨ y = m) w wr ∧
    Blk wr nb 66 #[.pointer (some ⟨P, 0, none⟩), .string X, .string lo, .slice a n c] ∧ Blk wr rb 62 #[.string ⟨#[]⟩, .string ⟨#[]⟩, .slice none 0 0])
  case atStart => exact ⟨i, owe, ks, rfl, rfl, rfl, Nat.le_refl _, HD0.out, HI.out, HEE.out, HE.out, HFW.out, HK1.out, HK2.out⟩
  case round =>
    obtain ⟨i', owe', ks', hg, rfl, rfl, hi', hd, hi2, hel, he, hf, hk1, hk2⟩ := hrel
    have HTK := Lib.hid (kid_tok HTX.out hd he hi2)
    have HG := Lib.hid hg
    have HEL := Lib.hid hel
    have HEV := Lib.hid he
    have HF := Lib.hid hf
    have HB1 := Lib.hid hk1
    have HB2 := Lib.hid hk2
    have k0 := hk1.cell 0
    have hout : ∀ x, x = nb ∨ x = rb → ¬ (Sans M [nb, rb] x ∨ x = m) := by
      rintro x hx (h | h)
      · exact h.2 (by rcases hx with rfl | rfl <;> simp)
      · rcases hx with rfl | rfl <;> omega
    have HOUT := Lib.hid hout
    clear hg hd hi2 hel he hf hk1 hk2 HD0 HI HE HFW HK1 HK2 hout
    go_wp2_with fail
    refine HTK.out.mono ?_
    intro e w2 hk
    cases hk with
    | done _ j h1 h2 h3 h4 h5 h6 =>
      have hB1 := HB1.out.fr h6 (HOUT.out nb (.inl rfl))
      have hB2 := HB2.out.fr h6 (HOUT.out rb (.inr rfl))
      rw [← HX.out, ← HLO.out]
      have hbV : Below w2.heap.size w2 (w2.alloc (.cells #[.string X, .string lo] 128)) := (Below.refl _ _).alloc (Nat.le_refl _) _
      have hbe := Blk.new w2 128 #[.string X, .string lo]
      obtain ⟨eb, heb⟩ : ∃ eb, w2.heap.size = eb := ⟨_, rfl⟩
      obtain ⟨V, hV⟩ : ∃ V, w2.alloc (.cells #[.string X, .string lo] 128) = V := ⟨_, rfl⟩
      rw [hV] at hbV hbe
      rw [heb] at hbe
      have hb1V : Blk V nb 66 #[.pointer (some ⟨P, 0, none⟩), .string X, .string lo, .slice a n c] := (hbV.block _ hB1.lt).trans hB1
      have hb2V : Blk V rb 62 #[.string ⟨#[]⟩, .string ⟨#[]⟩, .slice none 0 0] := (hbV.block _ hB2.lt).trans hB2
      have H1 := Lib.hid h1
      have H3 := Lib.hid h3
      have H4 := Lib.hid h4
      have H5 := Lib.hid h5
      have HF2 : Hid (Fr (fun y => M y ∨ y = m) w w2) := Lib.hid (HF.out.trans (h6.mono fun y hy => by rcases hy with hy | hy; exact .inl hy.1; exact .inr hy))
      have HBV := Lib.hid hbV
      have HV := Lib.hid hV
      have HB1V := Lib.hid hb1V
      have HB2V := Lib.hid hb2V
      have HBE := Lib.hid hbe
      clear h1 h2 h3 h4 h5 h6 hB1 hB2 k0 hbV hbe hb1V hb2V hV
      go_upto_region 6 with fail
      rw [HV.out]
      try rw [heb]
      have n1 := HB1V.out.cell 1
      have n2 := HB1V.out.cell 2
      have n3 := HB1V.out.cell 3
      have r0 := HB2V.out.cell 0
      have r1 := HB2V.out.cell 1
      have r2 := HB2V.out.cell 2
      have rf := HB2V.out.frozen
      have e0 := HBE.out.cell 0
      have e1 := HBE.out.cell 1
      have h7 := endOf_any V.drew X lo a n c
      have HE7 := Lib.hid h7
      clear h7
      have hsn : SN V.drew P nb rb eb X lo a n c := ⟨HB2V.out, HBE.out, HB1V.out, (HB2V.out.ne HBE.out (by decide)), hwn.2.2.symm⟩
      go_region_held3 (fun w' => SN w' P nb rb eb X lo a n c ∧ w'.cell? ⟨rb, 0, none⟩ = some (.string ⟨#[]⟩) ∧ w'.cell? ⟨rb, 1, none⟩ = some (.string ⟨#[]⟩) ∧ w'.cell? ⟨rb, 2, none⟩ = some (.slice none 0 0) ∧ w'.cell? ⟨eb, 0, none⟩ = some (.string X) ∧ w'.cell? ⟨eb, 1, none⟩ = some (.string lo) ∧ w'.cell? ⟨nb, 1, none⟩ = some (.string X) ∧ w'.cell? ⟨nb, 2, none⟩ = some (.string lo) ∧ w'.cell? ⟨nb, 3, none⟩ = some (.slice a n c) ∧
          w'.frozen? ⟨rb, 0, none⟩ = false ∧ w'.frozen? ⟨rb, 1, none⟩ = false ∧ w'.frozen? ⟨rb, 2, none⟩ = false) (first | exact SN.full (by assumption) | exact SN.full (SN.store (by assumption)) | exact SN.full (SN.store (And.left (by assumption))) | go_keep)
        (first | (go_at_call 71
                  refine HE7.out.mono ?_
                  rintro e W8 ⟨rfl, hb8⟩
                  have qs : SN W8 P nb rb eb X lo a n c := ⟨(hb8.block rb HB2V.out.lt).trans HB2V.out, (hb8.block eb HBE.out.lt).trans HBE.out, (hb8.block nb HB1V.out.lt).trans HB1V.out, hsn.2.2.2⟩
                  have HB8 := Lib.hid hb8
                  clear hb8))
      go_wp2_with fail
      have hs9 := SN.store qs
      have y0 := hs9.1.cell 0
      have y1 := hs9.1.cell 1
      have y2 := hs9.1.cell 2
      refine bodyPost_ret (v := .tuple #[.agg #[.string ⟨#[]⟩, .string ⟨#[]⟩, .slice none 0 0], .bool true, .nilIface]) (by simp [results, Tryz.results33, go_sem, y0, y1, y2]) rfl ?_
      have hb28 : Below w2.heap.size w2 W8 := HBV.out.trans (((⟨rfl, rfl, rfl, Nat.le_refl _, fun _ _ => rfl⟩ : Below V.heap.size V V.drew).trans HB8.out).mono HBV.out.size)
      have hs5 : Fr (fun x => x = rb) W8 (((W8.setCell ⟨rb, 0, none⟩ (.string ⟨#[]⟩)).setCell ⟨rb, 1, none⟩ (.string ⟨#[]⟩)).setCell ⟨rb, 2, none⟩ (.slice none 0 0)) := (((Fr.refl (fun x => x = rb) W8).setCell (p := ⟨rb, 0, none⟩) rfl _).setCell (p := ⟨rb, 1, none⟩) rfl _).setCell (p := ⟨rb, 2, none⟩) rfl _
      rw [← HPOST.out, ← HEL.out]
      refine .done _ ⟨j, by have := H1.out; omega, H3.out, H4.out, ?_⟩ ?_
      · refine ((DecW.other (DecW.below H5.out hb28) hs5 fun x hx hlt e => ?_).wide (fun k hk => hk.1) HM.out)
        rcases hx with hx | hx
        · exact hx.2 (by simp [e])
        · omega
      · exact (HF2.out.trans (Fr.below hb28 (Nat.le_refl _) fun k hk => .inl (HN.out k (Nat.le_trans HF2.out.size hk)))).trans (hs5.mono fun x hx => .inl (hx ▸ HNM.out.2))
    | text _ j v ks2 g cap h1 h2 h3 h4 h5 h6 =>
      have hlt := h2.1
      have hB1 := HB1.out.fr h5 (HOUT.out nb (.inl rfl))
      have hB2 := HB2.out.fr h5 (HOUT.out rb (.inr rfl))
      have HJ := Lib.hid h1
      have H2 := Lib.hid h2
      have H4 := Lib.hid h4
      have HE2 := Lib.hid (HEV.out.fr h5)
      have HF2 := Lib.hid (HF.out.trans (h5.mono fun y hy => by rcases hy with hy | hy; exact .inl hy.1; exact .inr hy))
      have HC1 := Lib.hid hB1
      have HC2 := Lib.hid hB2
      clear h1 h2 h3 h4 h5 h6 hB1 hB2 k0
      go_wp2_with fail
      obtain ⟨V, hV⟩ : ∃ V, (w2.alloc (.cells #[.string ⟨#[]⟩, .string ⟨#[]⟩] 128)).alloc (.cells #[.string ⟨#[]⟩, .string ⟨#[]⟩, .slice none 0 0] 62) = V := ⟨_, rfl⟩
      have hbV : Below w2.heap.size w2 V := by rw [← hV]; exact ((Below.refl _ _).alloc (Nat.le_refl _) _).alloc (by simp) _
      have HBV := Lib.hid hbV
      rw [hV]
      clear hbV hV
      go_roundg (s.size - j)
      case rel => exact ⟨j, none, ks2, rfl, rfl, rfl, by have := HJ.out; omega, H4.out.below HBV.out, H2.out, by rw [← HEL.out]; rfl, HE2.out.fr (Fr.below HBV.out (Nat.le_refl _) fun k hk => .inl (DecW.new H4.out k hk)), HF2.out.trans (Fr.below HBV.out (Nat.le_refl _) fun k hk => .inl (DecW.new H4.out k hk).1), (HBV.out.block _ HC1.out.lt).trans HC1.out, (HBV.out.block _ HC2.out.lt).trans HC2.out⟩
      case measure => have := HG.out; have := HJ.out; omega
    | com _ j cc ks2 v h1 h2 h3 h4 =>
      have hlt := h2.1
      have hB1 := HB1.out.fr h4 (HOUT.out nb (.inl rfl))
      have hB2 := HB2.out.fr h4 (HOUT.out rb (.inr rfl))
      have HJ := Lib.hid h1
      have H2 := Lib.hid h2
      have H4 := Lib.hid h3
      have HE2 := Lib.hid (HEV.out.fr h4)
      have HF2 := Lib.hid (HF.out.trans (h4.mono fun y hy => by rcases hy with hy | hy; exact .inl hy.1; exact .inr hy))
      have HC1 := Lib.hid hB1
      have HC2 := Lib.hid hB2
      clear h1 h2 h3 h4 hB1 hB2 k0
      go_wp2_with fail
      obtain ⟨V, hV⟩ : ∃ V, (w2.alloc (.cells #[.string ⟨#[]⟩, .string ⟨#[]⟩] 128)).alloc (.cells #[.string ⟨#[]⟩, .string ⟨#[]⟩, .slice none 0 0] 62) = V := ⟨_, rfl⟩
      have hbV : Below w2.heap.size w2 V := by rw [← hV]; exact ((Below.refl _ _).alloc (Nat.le_refl _) _).alloc (by simp) _
      have HBV := Lib.hid hbV
      rw [hV]
      clear hbV hV
      go_roundg (s.size - j)
      case rel => exact ⟨j, none, ks2, rfl, rfl, rfl, by have := HJ.out; omega, H4.out.below HBV.out, H2.out, by rw [← HEL.out]; rfl, HE2.out.fr (Fr.below HBV.out (Nat.le_refl _) fun k hk => .inl (DecW.new H4.out k hk)), HF2.out.trans (Fr.below HBV.out (Nat.le_refl _) fun k hk => .inl (DecW.new H4.out k hk).1), (HBV.out.block _ HC1.out.lt).trans HC1.out, (HBV.out.block _ HC2.out.lt).trans HC2.out⟩
      case measure => have := HG.out; have := HJ.out; omega
    | start _ j n2 av k2 ks2 rest2 owe2 ga cap cur h1 hgn h2 h3 h4 h5 h6 h7 h8 =>
      have hB1 := HB1.out.fr h5 (HOUT.out nb (.inl rfl))
      have hB2 := HB2.out.fr h5 (HOUT.out rb (.inr rfl))
      have hgr : ga ≠ nb ∧ ga ≠ rb := by
        have q1 := HB1.out.lt
        have q2 := HB2.out.lt
        omega
      obtain ⟨X2, hX2⟩ : ∃ X2, xlate (nsAll F av) true (bst (halvesL n2).1) (bst (halvesL n2).2) = X2 := ⟨_, rfl⟩
      obtain ⟨lo2, hlo2⟩ : ∃ lo2, bst (halvesL n2).2 = lo2 := ⟨_, rfl⟩
      have HX2 := Lib.hid hX2
      have HLO2 := Lib.hid hlo2
      have H1 := Lib.hid h1
      have HGN := Lib.hid hgn
      have H2 := Lib.hid h2
      have H3 := Lib.hid h3
      have H4 := Lib.hid h4
      have H8 := Lib.hid h8
      have HF2 : Hid (Fr (fun y => M y ∨ y = m) w w2) := Lib.hid (HF.out.trans (h5.mono fun y hy => by rcases hy with hy | hy; exact .inl hy.1; exact .inr hy))
      rw [hX2, hlo2]
      have hbV : Below w2.heap.size w2 ((w2.alloc (.cells #[.string ⟨#[]⟩, .string ⟨#[]⟩] 128)).alloc (.cells #[.string X2, .string lo2, .slice (some ⟨ga, 0, none⟩) av.length cap] 62)) := ((Below.refl _ _).alloc (Nat.le_refl _) _).alloc (by simp) _
      obtain ⟨V, hV⟩ : ∃ V, (w2.alloc (.cells #[.string ⟨#[]⟩, .string ⟨#[]⟩] 128)).alloc (.cells #[.string X2, .string lo2, .slice (some ⟨ga, 0, none⟩) av.length cap] 62) = V := ⟨_, rfl⟩
      rw [hV] at hbV
      have HRS := Lib.hid (restore_any V X2 lo2 ga av.length cap cur ((hbV.block _ h6.lt).trans h6) h7)
      have HBV := Lib.hid hbV
      have HV := Lib.hid hV
      have hb2V : Blk V rb 62 #[.string ⟨#[]⟩, .string ⟨#[]⟩, .slice none 0 0] := (hbV.block _ hB2.lt).trans hB2
      have HB2V := Lib.hid hb2V
      clear h1 hgn h2 h3 h4 h5 h6 h7 h8 hB1 hB2 k0 hX2 hlo2 hbV hV hb2V
      go_wp2_with fail
      rw [HV.out]
      refine HRS.out.mono ?_
      rintro e w4 ⟨rfl, hf4⟩
      have hr4 : Blk w4 rb 62 #[.string ⟨#[]⟩, .string ⟨#[]⟩, .slice none 0 0] := HB2V.out.fr hf4 (fun e => by rcases e with e | e; exact hgr.2 e.symm; (have := HB2V.out.lt; omega))
      have r0 := hr4.cell 0
      have r1 := hr4.cell 1
      have r2 := hr4.cell 2
      have rf := hr4.frozen
      have hr5 := ((hr4.set 0 (.string X2)).set 1 (.string lo2)).set 2 (.slice (some ⟨ga, 0, none⟩) av.length cap)
      have y0 := hr5.cell 0
      have y1 := hr5.cell 1
      have y2 := hr5.cell 2
      have HF4 := Lib.hid hf4
      clear hf4 hr4 hr5
      go_wp2_with fail
      refine bodyPost_ret (v := .tuple #[.agg #[.string X2, .string lo2, .slice (some ⟨ga, 0, none⟩) av.length cap], .bool false, .nilIface]) (by simp [results, Tryz.results33, go_sem, y0, y1, y2]) rfl ?_
      have hs5 : Fr (fun x => x = rb) w4 (((w4.setCell ⟨rb, 0, none⟩ (.string X2)).setCell ⟨rb, 1, none⟩ (.string lo2)).setCell ⟨rb, 2, none⟩ (.slice (some ⟨ga, 0, none⟩) av.length cap)) := (((Fr.refl (fun x => x = rb) w4).setCell (p := ⟨rb, 0, none⟩) rfl _).setCell (p := ⟨rb, 1, none⟩) rfl _).setCell (p := ⟨rb, 2, none⟩) rfl _
      rw [← HPOST.out, ← HEL.out, elemsOf_cons (good_el HGN.out), ← HX2.out, ← HLO2.out]
      refine .start _ j n2 av k2 ks2 rest2 owe2 _ _ _ (by have := H1.out; omega) HGN.out H2.out H3.out ?_ ?_
      · rw [HX2.out, HLO2.out]
        refine ((DecW.other (DecW.other (DecW.below H4.out HBV.out) HF4.out fun x hx hlt e => ?_) hs5 fun x hx hlt e => ?_).wide (fun k hk => hk.1.1) HM.out)
        · rcases e with e | e
          · rcases hx with hx | hx
            · exact hx.2 (by simp [e])
            · have := H8.out; have := HF.out.size; omega
          · omega
        · rcases hx with hx | hx
          · exact hx.1.2 (by simp [e])
          · omega
      · rw [HX2.out, HLO2.out]
        exact ((HF2.out.trans (Fr.below HBV.out (Nat.le_refl _) fun k hk => .inl (HN.out k (Nat.le_trans HF2.out.size hk)))).trans (HF4.out.mono fun x hx => by
          rcases hx with hx | hx
          · exact .inl (HN.out x (by have := H8.out; have := HF.out.size; omega))
          · exact .inl (HN.out x (Nat.le_trans (Nat.le_trans HF2.out.size HBV.out.size) hx)))).trans (hs5.mono fun x hx => .inl (hx ▸ HNM.out.2))
end Go.Proofs.YtlljphipglgjiaaGreatDoor

namespace Go.Proofs.YtlljphipglgjiaaGreatDoor
open Go.RowKit Go.Lib

/-- A byte's small letter. -/
def lowA (c : UInt8) : Nat := if 65 ≤ c.toNat ∧ c.toNat ≤ 90 then c.toNat + 32 else c.toNat
def lowC (c : UInt8) : UInt8 := if 65 ≤ c.toNat ∧ c.toNat ≤ 90 then c + 32 else c
def lowL (l : List UInt8) : List UInt8 := l.map lowC
theorem lowC_toNat (c : UInt8) : (lowC c).toNat = lowA c := by
  unfold lowC lowA
  split
  · rename_i h
    rw [UInt8.toNat_add, show (32 : UInt8).toNat = 32 from rfl, Nat.mod_eq_of_lt (by omega)]
  · rfl
theorem lowL_length (l : List UInt8) : (lowL l).length = l.length := List.length_map _

/-- The first cells of a block of bytes, which a conversion has made. -/
def SRow (w : World) (g : Nat) (l : List UInt8) : Prop := ∃ (cs : Array Value) (lo hi : Nat), w.heap[g]? = some (.cells cs 5 (lo, hi)) ∧ l.length ≤ lo ∧ ∀ k (hk : k < l.length), cs[k]? = some (.int .u8 (l[k].toNat : Int))
section
variable {w : World} {g : Nat} {l : List UInt8}
theorem SRow.cell (h : SRow w g l) {k : Nat} (hk : k < l.length) : w.cell? ⟨g, k, none⟩ = some (.int .u8 (l[k].toNat : Int)) := by
  obtain ⟨cs, lo, hi, h1, _, h2⟩ := h
  rw [cell_of_row w g k cs 5 (lo, hi) h1]
  exact h2 k hk
theorem SRow.frozen (h : SRow w g l) {k : Nat} (hk : k < l.length) : w.frozen? ⟨g, k, none⟩ = false := by
  obtain ⟨cs, lo, hi, h1, h3, _⟩ := h
  have : ¬ lo ≤ k := by omega
  simp [World.frozen?, h1, this]
theorem SRow.set (h : SRow w g l) {k : Nat} (c : UInt8) : SRow (w.setCell ⟨g, k, none⟩ (.int .u8 (c.toNat : Int))) g (l.set k c) := by
  obtain ⟨cs, lo, hi, h1, h3, h2⟩ := h
  refine ⟨cs.setIfInBounds k (.int .u8 (c.toNat : Int)), lo, hi, ?_, by rw [List.length_set]; exact h3, fun j hj => ?_⟩
  · simp [World.setCell, Array.getElem?_modify, h1]
  · rw [List.length_set] at hj
    rw [Array.getElem?_setIfInBounds, List.getElem_set]
    split
    · rename_i e
      subst e
      have h4 := h2 k hj
      have hlt : k < cs.size := by
        rcases Nat.lt_or_ge k cs.size with h5 | h5
        · exact h5
        · rw [Array.getElem?_eq_none h5] at h4; cases h4
      rw [if_pos hlt]
    · exact h2 j hj
theorem SRow.below {w' : World} (h : SRow w g l) (hb : w'.heap[g]? = w.heap[g]?) : SRow w' g l := by
  obtain ⟨cs, lo, hi, h1, h3, h2⟩ := h
  exact ⟨cs, lo, hi, hb.trans h1, h3, h2⟩
end
theorem srow_new (w : World) (s : ByteArray) : SRow (Lib.bytesWorld w 5 s) w.heap.size s.data.toList := by
  refine ⟨_, _, _, Lib.bytesWorld_at_new w 5 s, ?_, fun k hk => ?_⟩
  · unfold Lib.bytesCells
    simp
  · have hk' : k < s.size := by rw [list_size] at hk; exact hk
    have h := Lib.bytesWorld_cell w 5 s k hk'
    rw [World.cell?, Lib.bytesWorld_at_new] at h
    simp only at h
    rw [List.getD_eq_getElem?_getD, List.getElem?_eq_getElem hk] at h
    exact h
theorem below_bytesWorld (w : World) (s : ByteArray) : Below w.heap.size w (Lib.bytesWorld w 5 s) :=
  ⟨by simp [Lib.bytesWorld, World.freeze, World.alloc, World.drew, -World.alloc_eq, -World.drew_eq], by simp [Lib.bytesWorld, World.freeze, World.alloc, World.drew, -World.alloc_eq, -World.drew_eq], by simp [Lib.bytesWorld, World.freeze, World.alloc, World.drew, -World.alloc_eq, -World.drew_eq], by rw [Lib.bytesWorld_size]; omega, fun i hi => Lib.bytesWorld_at_old w 5 s i hi⟩

/-- Small letters in the first k. -/
def mixL (k : Nat) (l : List UInt8) : List UInt8 := lowL (l.take k) ++ l.drop k
theorem mixL_length (k : Nat) (l : List UInt8) : (mixL k l).length = l.length := by
  unfold mixL
  rw [List.length_append, lowL_length, List.length_take, List.length_drop]
  omega
theorem mixL_succ {k : Nat} {l : List UInt8} (hk : k < l.length) : mixL (k + 1) l = (mixL k l).set k (lowC l[k]) := by
  unfold mixL lowL
  have h1 : l.take (k + 1) = l.take k ++ [l[k]] := List.take_succ_eq_append_getElem hk
  have h2 : l.drop k = l[k] :: l.drop (k + 1) := List.drop_eq_getElem_cons hk
  have h3 : ((l.take k).map lowC).length = k := by rw [List.length_map, List.length_take]; omega
  rw [h1, List.map_append, List.append_assoc, h2]
  conv => rhs; rw [List.set_append_right _ _ (by omega)]
  rw [h3, Nat.sub_self]
  rfl
theorem mixL_get {k : Nat} {l : List UInt8} (hk : k < l.length) : (mixL k l)[k]'(by rw [mixL_length]; exact hk) = l[k] := by
  have h3 : (lowL (l.take k)).length = k := by rw [lowL_length, List.length_take]; omega
  have h : (mixL k l)[k]? = some l[k] := by
    unfold mixL
    rw [List.getElem?_append_right (by omega), h3, Nat.sub_self, List.getElem?_drop, Nat.add_zero, List.getElem?_eq_getElem hk]
  rw [List.getElem?_eq_getElem (by rw [mixL_length]; exact hk)] at h
  exact Option.some.inj h
theorem mixL_same {k : Nat} {l : List UInt8} (hk : k < l.length) (h : lowC l[k] = l[k]) : mixL (k + 1) l = mixL k l := by
  rw [mixL_succ hk, h]
  conv => lhs; rw [← mixL_get hk]
  exact List.set_getElem_self _

set_option maxRecDepth 100000 in
set_option maxHeartbeats 4000000 in
theorem lowerS_any (s : ByteArray) (w : World) (hs : s.size ≤ 2147483647) :
    Calls Tryz.prog 37 #[.string s] w fun e w' => e = .returned (.string (bst (lowL s.data.toList))) ∧ Below w.heap.size w w' := by
  obtain ⟨l, hl⟩ : ∃ l, s.data.toList = l := ⟨_, rfl⟩
  have hln : l.length = s.size := by rw [← hl, list_size]
  have hcv := Lib.run_convert_string_bytes (P := Tryz.prog) w 9 77 5 s (u := .string) Tryz.underlying9 Tryz.underlying77 Tryz.underlying5
  have hS := srow_new w s
  have hB := below_bytesWorld w s
  rw [hl] at hS ⊢
  obtain ⟨W, hW⟩ : ∃ W, Lib.bytesWorld w 5 s = W := ⟨_, rfl⟩
  obtain ⟨g, hg⟩ : ∃ g, w.heap.size = g := ⟨_, rfl⟩
  obtain ⟨cap, hcap⟩ : ∃ c, grownCap w s.size 0 5 = c := ⟨_, rfl⟩
  have HS : Hid (SRow W g (mixL 0 l)) := Lib.hid (by rw [← hW, ← hg]; unfold mixL; exact hS)
  have HB : Hid (Below w.heap.size w W) := Lib.hid (by rw [← hW]; exact hB)
  have HL := Lib.hid hln
  have hbk := fun (wr : World) (m : List UInt8) (hm : m.length = s.size) (hc : ∀ j (hj : j < m.length), wr.cell? ((⟨g, 0, none⟩ : Addr).add j) = some (.int .u8 (m[j].toNat : Int))) => run_convert_bytes_back (P := Tryz.prog) wr 77 9 5 ⟨g, 0, none⟩ cap m Tryz.underlying77 Tryz.underlying5 Tryz.underlying9 hc
  have HBK := Lib.hid hbk
  rw [hW, hg, hcap] at hcv
  have hgw : Hid (w.heap.size ≤ g) := Lib.hid (Nat.le_of_eq hg)
  clear hl hS hB hW hg hcap hbk hln
  go_enter Tryz.func37, Tryz.ntmps37
  go_wp2_with fail
  go_loopg [4] s.size (fun gg kv wr => ∃ k : Nat, gg = s.size - k ∧ k ≤ s.size ∧ kv = .int .i64 k ∧ SRow wr g (mixL k l) ∧ Below w.heap.size w wr)
  case atStart => exact ⟨0, rfl, Nat.zero_le _, rfl, HS.out, HB.out⟩
  case round =>
    obtain ⟨k, hgg, hk, rfl, hS, hB⟩ := hrel
    have HG := Lib.hid hgg
    have HSR := Lib.hid hS
    have HBR := Lib.hid hB
    clear hgg hS hB
    by_cases hkl : k < s.size
    · have hd : decide ((k : Int) < (s.size : Int)) = true := by rw [decide_eq_true_eq]; omega
      have nn : (0 : Int) ≤ (k : Int) := Int.natCast_nonneg _
      have hkl2 : k < l.length := by rw [HL.out]; exact hkl
      have hkm : k < (mixL k l).length := by rw [mixL_length]; exact hkl2
      have hc : wr.cell? ⟨g, k, none⟩ = some (.int .u8 (l[k].toNat : Int)) := by have := HSR.out.cell hkm; rw [mixL_get hkl2] at this; exact this
      have hfz := HSR.out.frozen hkm
      obtain ⟨c, hcc⟩ : ∃ c, l[k] = c := ⟨_, rfl⟩
      rw [hcc] at hc
      have hc256 : c.toNat < 256 := c.toNat_lt
      by_cases hup : 65 ≤ c.toNat ∧ c.toNat ≤ 90
      · have d1 : decide ((65 : Int) ≤ (c.toNat : Int)) = true := by rw [decide_eq_true_eq]; omega
        have d2 : decide ((c.toNat : Int) ≤ 90) = true := by rw [decide_eq_true_eq]; omega
        have HS2 : Hid (SRow (wr.setCell ⟨g, k, none⟩ (.int .u8 (((c.toNat : Int) + 32) % 256))) g (mixL (k + 1) l)) := Lib.hid (by
          have h1 := HSR.out.set (k := k) (lowC c)
          rw [lowC_toNat, show (lowA c : Int) = ((c.toNat : Int) + 32) % 256 by unfold lowA; rw [if_pos hup]; omega] at h1
          rw [mixL_succ hkl2, hcc]
          exact h1)
        have HB2 : Hid (Below w.heap.size w (wr.setCell ⟨g, k, none⟩ (.int .u8 (((c.toNat : Int) + 32) % 256)))) := Lib.hid (HBR.out.setCell hgw.out _)
        clear hup hcc hkm
        go_wp2_with fail
        go_roundg (s.size - (k + 1))
        case rel => exact ⟨k + 1, rfl, by omega, rfl, HS2.out, HB2.out⟩
        case measure => have := HG.out; omega
      · have HS2 : Hid (SRow wr g (mixL (k + 1) l)) := Lib.hid (by
          rw [mixL_same hkl2 (by rw [hcc]; unfold lowC; rw [if_neg hup])]
          exact HSR.out)
        by_cases h65 : 65 ≤ c.toNat
        · have d1 : decide ((65 : Int) ≤ (c.toNat : Int)) = true := by rw [decide_eq_true_eq]; omega
          have d2 : decide ((c.toNat : Int) ≤ 90) = false := by rw [decide_eq_false_iff_not]; omega
          clear hup hcc hkm h65
          go_wp2_with fail
          go_roundg (s.size - (k + 1))
          case rel => exact ⟨k + 1, rfl, by omega, rfl, HS2.out, HBR.out⟩
          case measure => have := HG.out; omega
        · have d1 : decide ((65 : Int) ≤ (c.toNat : Int)) = false := by rw [decide_eq_false_iff_not]; omega
          clear hup hcc hkm h65
          go_wp2_with fail
          go_roundg (s.size - (k + 1))
          case rel => exact ⟨k + 1, rfl, by omega, rfl, HS2.out, HBR.out⟩
          case measure => have := HG.out; omega
    · obtain rfl : k = s.size := by omega
      have hd : decide ((s.size : Int) < (s.size : Int)) = false := by rw [decide_eq_false_iff_not]; omega
      have hm : mixL s.size l = lowL l := by
        unfold mixL
        rw [← HL.out, List.take_length, List.drop_length, List.append_nil]
      have hcs : ∀ j (hj : j < (lowL l).length), wr.cell? ((⟨g, 0, none⟩ : Addr).add j) = some (.int .u8 ((lowL l)[j].toNat : Int)) := by
        intro j hj
        have := HSR.out.cell (k := j) (by rw [hm]; exact hj)
        simp only [hm] at this
        rw [show (⟨g, 0, none⟩ : Addr).add j = ⟨g, j, none⟩ by cases j <;> simp [Addr.add]]
        exact this
      have hb := HBK.out wr (lowL l) (by rw [lowL_length, HL.out]) hcs
      rw [lowL_length, HL.out] at hb
      clear hcs hm HSR
      go_wp2_with fail
      go_ret
      exact ⟨rfl, HBR.out⟩
end Go.Proofs.YtlljphipglgjiaaGreatDoor

namespace Go.Proofs.YtlljphipglgjiaaGreatDoor
open Go.RowKit Go.Lib

/-- A row of values of one cell each that the call itself has made. -/
def RowG (E : TypeId) (v : Value) (xs : List Value) (X : Known) : Prop :=
  (v = .slice none 0 0 ∧ xs = [] ∧ X = []) ∨ ∃ (g cap : Nat) (cur : Array Value), v = .slice (some ⟨g, 0, none⟩) xs.length cap ∧ X = [(g, E, cur)] ∧ xs.length ≤ cap ∧ cap ≤ maxLen ∧ cur.size = cap * 1 ∧ cur.toList.take (xs.length * 1) = xs
theorem RowG.owns {E : TypeId} {w : World} {v : Value} {xs : List Value} {X : Known} (h : RowG E v xs X) (hX : ∀ x ∈ X, Blk w x.1 x.2.1 x.2.2) : w.ownsRow 0 E 1 v xs.length xs := by
  rcases h with ⟨rfl, rfl, rfl⟩ | ⟨g, cap, cur, rfl, rfl, h1, h2, h3, h4⟩
  · exact ⟨rfl, .inl ⟨rfl, rfl⟩⟩
  · exact ⟨by simp, .inr ⟨g, cap, cur, rfl, Nat.zero_le _, hX (g, E, cur) (by simp), h1, h2, h3, h4⟩⟩
theorem RowG.blocks {E : TypeId} {v : Value} {xs : List Value} {X : Known} (h : RowG E v xs X) : ∀ g, v.ownBlock = some g ↔ g ∈ X.map (·.1) := by
  intro g
  rcases h with ⟨rfl, rfl, rfl⟩ | ⟨g', cap, cur, rfl, rfl, _⟩
  · simp [Value.ownBlock]
  · simp [Value.ownBlock, eq_comm]
theorem RowG.snoc {E : TypeId} {w wr w2 : World} {v v2 : Value} {xs : List Value} {X : Known} {x : Value} (h : RowG E v xs X) (hX : ∀ x ∈ X, w.heap.size ≤ x.1) (hb : Below w.heap.size w wr) (hown : w2.ownsRow 0 E 1 v2 (xs.length + 1) (xs ++ [x])) (hg : wr.grownBy w2 v.ownBlock) (hat : RowAt wr v v2) :
    ∃ X2, RowG E v2 (xs ++ [x]) X2 ∧ (∀ x ∈ X2, w.heap.size ≤ x.1 ∧ Blk w2 x.1 x.2.1 x.2.2) ∧ Below w.heap.size w w2 := by
  obtain ⟨hlen, ⟨_, h0⟩ | ⟨g2, cap2, cur2, rfl, _, hb2, k1, k2, k3, k4⟩⟩ := hown
  · omega
  have hal : (xs ++ [x]).length = xs.length + 1 := by simp
  have hbl := h.blocks
  have hrow : ∀ y, v.ownBlock = some y → w.heap.size ≤ y := fun y hy => by
    obtain ⟨z, hz, rfl⟩ := List.mem_map.1 ((hbl y).1 hy)
    exact hX z hz
  have hg2 : w.heap.size ≤ g2 := by
    rcases hat with e | ⟨g3, e, hge⟩
    · exact hrow g2 e.symm
    · have e1 : g2 = g3 := Option.some.inj e
      have := hb.size
      omega
  refine ⟨[(g2, E, cur2)], .inr ⟨g2, cap2, cur2, by rw [hal], rfl, by rw [hal]; exact k1, k2, k3, by rw [hal, k4]⟩, fun y hy => ?_, ⟨hg.os.trans hb.os, hg.tape.trans hb.tape, hg.output.trans hb.output, Nat.le_trans hb.size hg.size, fun i hi => (hg.block i (Nat.lt_of_lt_of_le hi hb.size) fun e => ?_).trans (hb.block i hi)⟩⟩
  · rw [List.mem_singleton] at hy
    subst hy
    exact ⟨hg2, hb2⟩
  · have := hrow i e.symm
    omega

/-- Runes that are bytes. -/
def runV (l : List UInt8) : List Value := l.map fun b => .int .i32 (b.toNat : Int)
theorem runV_len (l : List UInt8) : (runV l).length = l.length := List.length_map _
theorem Tryz.info21 : (Tryz.prog.info? 21).map (fun i => (i.zero, i.size, i.bytes)) = some (some (.int .i32 0), 1, 4) := by kernel_rfl

set_option maxRecDepth 100000 in
set_option maxHeartbeats 8000000 in
theorem fold_any (s : ByteArray) (w : World) (hs : s.size ≤ 2147483647) (ha : ∀ k (hk : k < s.size), s[k].toNat < 128) :
    Calls Tryz.prog 124 #[.string s] w fun e w' => ∃ v, e = .returned v ∧ (w'.ownsRow 0 21 1 v (runV (lowL s.data.toList)).length (runV (lowL s.data.toList)) ∧ Below w.heap.size w w') := by
  obtain ⟨post, hpost⟩ : ∃ post : Ending → World → Prop, (fun e w' => ∃ v, e = .returned v ∧ (w'.ownsRow 0 21 1 v (runV (lowL s.data.toList)).length (runV (lowL s.data.toList)) ∧ Below w.heap.size w w')) = post := ⟨_, rfl⟩
  have hfin : ∀ (v : Value) (w' : World), w'.ownsRow 0 21 1 v (runV (lowL s.data.toList)).length (runV (lowL s.data.toList)) → Below w.heap.size w w' → post (.returned v) w' := by
    intro v w' h1 h2
    rw [← hpost]
    exact ⟨v, rfl, h1, h2⟩
  rw [hpost]
  obtain ⟨i21, hi21, hz21a, hz21b, hz21c⟩ := info_parts Tryz.info21
  have HFIN := Lib.hid hfin
  have HA := Lib.hid ha
  clear hpost hfin ha
  go_enter Tryz.func124, Tryz.ntmps124
  go_wp2_with fail
  obtain ⟨W, hW⟩ : ∃ W, w.iter s 0 = W := ⟨_, rfl⟩
  have hbW : Below w.heap.size w W := by rw [← hW]; exact (Below.refl _ _).alloc (Nat.le_refl _) _
  have hiW : W.heap[w.heap.size]? = some (.stringIter s 0) := by rw [← hW]; exact World.iter_heap w s 0
  rw [hW]
  have HB := Lib.hid hbW
  have HI := Lib.hid hiW
  clear hbW hiW hW
  go_loopg [3] s.size (fun g ov wr => ∃ (k : Nat) (op : Option Addr) (on oc : Nat) (Y : Known), g = s.size - k ∧ k ≤ s.size ∧ ov = .slice op on oc ∧ RowG 21 (.slice op on oc) (runV (lowL (s.data.toList.take k))) Y ∧ (∀ x ∈ Y, w.heap.size ≤ x.1 ∧ Blk wr x.1 x.2.1 x.2.2) ∧ Below w.heap.size w wr ∧ wr.heap[w.heap.size]? = some (.stringIter s k))
  case atStart => exact ⟨0, none, 0, 0, [], rfl, Nat.zero_le _, rfl, .inl ⟨rfl, rfl, rfl⟩, fun x hx => by simp at hx, HB.out, HI.out⟩
  case round =>
    obtain ⟨k, op, on, oc, Y, hg, hk, rfl, hrow, hY, hbe, hit⟩ := hrel
    have HG := Lib.hid hg
    have HROW := Lib.hid hrow
    have HY := Lib.hid hY
    have HBE := Lib.hid hbe
    have HIT := Lib.hid hit
    clear hg hrow hY hbe
    by_cases hkl : k < s.size
    · have hnx := fun ty => Lib.run_next_ascii_at (P := Tryz.prog) wr w.heap.size s k ty hit hkl (HA.out k hkl)
      obtain ⟨c, hc⟩ : ∃ c, s[k] = c := ⟨_, rfl⟩
      have hc128 : c.toNat < 128 := by rw [← hc]; exact HA.out k hkl
      rw [hc] at hnx
      have htk : s.data.toList.take (k + 1) = s.data.toList.take k ++ [c] := by rw [List.take_succ_eq_append_getElem (by rw [list_size]; exact hkl)]; congr 2
      have HTK := Lib.hid htk
      obtain ⟨V, hV⟩ : ∃ V, wr.iterAt w.heap.size s (k + 1) = V := ⟨_, rfl⟩
      have hbV : Below w.heap.size w V := by rw [← hV]; exact below_iterAt HBE.out (Nat.le_refl _) s (k + 1)
      have hitV : V.heap[w.heap.size]? = some (.stringIter s (k + 1)) := by rw [← hV]; exact iterAt_heap wr _ s k (k + 1) hit
      have hYV : ∀ x ∈ Y, w.heap.size ≤ x.1 ∧ Blk V x.1 x.2.1 x.2.2 := fun x hx => ⟨(HY.out x hx).1, by
        have hne : x.1 ≠ w.heap.size := fun e => by
          have h1 := (HY.out x hx).2
          unfold Blk at h1
          rw [e, hit] at h1
          cases h1
        rw [← hV]
        exact (iterAt_other wr _ _ s (k + 1) hne).trans (HY.out x hx).2⟩
      rw [hV] at hnx
      have HBV := Lib.hid hbV
      have HITV := Lib.hid hitV
      have HYV := Lib.hid hYV
      have HOWN : Hid (V.ownsRow 0 21 1 (.slice op on oc) (runV (lowL (s.data.toList.take k))).length (runV (lowL (s.data.toList.take k)))) := Lib.hid (HROW.out.owns fun x hx => (HYV.out x hx).2)
      have hln : (runV (lowL (s.data.toList.take k))).length = k := by rw [runV_len, lowL_length, List.length_take, list_size]; omega
      clear hit htk hV hbV hitV hYV hc
      have hcl : ∀ (u2 : Int), u2 = ((lowC c).toNat : Int) → ∀ (v2 : Value) (w4 : World), w4.ownsRow 0 21 1 v2 ((runV (lowL (s.data.toList.take k))).length + 1) (runV (lowL (s.data.toList.take k)) ++ [.int .i32 u2]) → (V.alloc (.cells #[.int .i32 u2] 21)).grownBy w4 (Value.slice op on oc).ownBlock → RowAt (V.alloc (.cells #[.int .i32 u2] 21)) (.slice op on oc) v2 →
          ∃ (op2 : Option Addr) (on2 oc2 : Nat) (Y2 : Known), v2 = .slice op2 on2 oc2 ∧ RowG 21 (.slice op2 on2 oc2) (runV (lowL (s.data.toList.take (k + 1)))) Y2 ∧ (∀ x ∈ Y2, w.heap.size ≤ x.1 ∧ Blk w4 x.1 x.2.1 x.2.2) ∧ Below w.heap.size w w4 ∧ w4.heap[w.heap.size]? = some (.stringIter s (k + 1)) := by
        intro u2 hu2 v2 w4 hown hgrow hat
        obtain ⟨vp2, vn2, vc2, rfl⟩ : ∃ ap an ac, v2 = .slice ap an ac := by
          rcases hown.2 with ⟨rfl, _⟩ | ⟨g, cap, cur, rfl, _⟩
          · exact ⟨_, _, _, rfl⟩
          · exact ⟨_, _, _, rfl⟩
        have hbu : Below w.heap.size w (V.alloc (.cells #[.int .i32 u2] 21)) := HBV.out.alloc HBV.out.size _
        obtain ⟨Y2, hr2, hy2, hb2⟩ := HROW.out.snoc (fun x hx => (HY.out x hx).1) hbu hown hgrow hat
        have hlt : w.heap.size < V.heap.size := by
          rcases Nat.lt_or_ge w.heap.size V.heap.size with h1 | h1
          · exact h1
          · have h2 := HITV.out
            rw [Array.getElem?_eq_none h1] at h2
            cases h2
        have hit4 : w4.heap[w.heap.size]? = some (.stringIter s (k + 1)) := by
          refine (hgrow.block w.heap.size (by simp; omega) fun e => ?_).trans ((Below.heap_alloc V _ _ hlt).trans HITV.out)
          obtain ⟨x, hx, hxe⟩ := List.mem_map.1 ((HROW.out.blocks w.heap.size).1 e.symm)
          have h1 := (HYV.out x hx).2
          unfold Blk at h1
          rw [hxe, HITV.out] at h1
          cases h1
        refine ⟨vp2, vn2, vc2, Y2, rfl, ?_, hy2, hb2, hit4⟩
        have e : runV (lowL (s.data.toList.take (k + 1))) = runV (lowL (s.data.toList.take k)) ++ [.int .i32 u2] := by
          rw [HTK.out, hu2]
          unfold runV lowL
          rw [List.map_append, List.map_append]
          rfl
        rw [e]
        exact hr2
      have HCL := Lib.hid hcl
      obtain ⟨u, hu⟩ : ∃ u : Int, (c.toNat : Int) = u := ⟨_, rfl⟩
      have e3 : (u == 383) = false := by rw [beq_eq_false_iff_ne]; omega
      have e4 : (u == 8490) = false := by rw [beq_eq_false_iff_ne]; omega
      have hub : 0 ≤ u ∧ u < 128 := by omega
      rw [hu] at hnx
      have HU := Lib.hid hu
      clear hcl
      by_cases hup : 65 ≤ c.toNat ∧ c.toNat ≤ 90
      · have d1 : decide ((65 : Int) ≤ u) = true := by rw [decide_eq_true_eq]; omega
        have d2 : decide (u ≤ 90) = true := by rw [decide_eq_true_eq]; omega
        have HLW : Hid (u + 32 = ((lowC c).toNat : Int)) := Lib.hid (by rw [lowC_toNat]; unfold lowA; rw [if_pos hup]; omega)
        clear hup hu
        go_upto_region 11 with fail
        go_wp2_with ((at_builtin; refine wpList_append_where _ rfl _ _ 173 rfl 0 21 i21 (.int .i32 0) 1 4 Tryz.underlying173 hi21 hz21a hz21b hz21c rfl (by decide) _ _ _ rfl (HOWN.out.alloc _) ⟨V.heap.size, 0, none⟩ 1 1 [.int .i32 (u + 32)] rfl rfl ?c1 ?c2 ?c3 ?c4 ?c5 ?_))
        case c1 => exact World.news_of_block (cs := #[.int .i32 (u + 32)]) (t := 21) (fr := (0, 0)) (heap_alloc_new V _)
        case c2 => simp [Value.oneCell']
        case c3 => rw [hln]; unfold maxLen; omega
        case c4 => rw [hln]; omega
        case c5 => exact Nat.zero_le _
        intro v2 w4 hown2 hgrow hat2
        obtain ⟨op2, on2, oc2, Y2, rfl, k1, k2, k3, k4⟩ := HCL.out _ HLW.out v2 w4 (by rw [hln]; exact hown2) hgrow hat2
        have K1 := Lib.hid k1
        have K2 := Lib.hid k2
        have K3 := Lib.hid k3
        have K4 := Lib.hid k4
        clear hown2 hgrow hat2 k1 k2 k3 k4
        go_wp2_with fail
        go_roundg (s.size - (k + 1))
        case rel => exact ⟨k + 1, op2, on2, oc2, Y2, rfl, by omega, rfl, K1.out, K2.out, K3.out, K4.out⟩
        case measure => have := HG.out; omega
      · have HLW : Hid (u = ((lowC c).toNat : Int)) := Lib.hid (by rw [lowC_toNat]; unfold lowA; rw [if_neg hup]; omega)
        by_cases h65 : 65 ≤ c.toNat
        · have d1 : decide ((65 : Int) ≤ u) = true := by rw [decide_eq_true_eq]; omega
          have d2 : decide (u ≤ 90) = false := by rw [decide_eq_false_iff_not]; omega
          clear hup h65 hu
          go_upto_region 11 with fail
          go_wp2_with ((at_builtin; refine wpList_append_where _ rfl _ _ 173 rfl 0 21 i21 (.int .i32 0) 1 4 Tryz.underlying173 hi21 hz21a hz21b hz21c rfl (by decide) _ _ _ rfl (HOWN.out.alloc _) ⟨V.heap.size, 0, none⟩ 1 1 [.int .i32 u] rfl rfl ?c1 ?c2 ?c3 ?c4 ?c5 ?_))
          case c1 => exact World.news_of_block (cs := #[.int .i32 u]) (t := 21) (fr := (0, 0)) (heap_alloc_new V _)
          case c2 => simp [Value.oneCell']
          case c3 => rw [hln]; unfold maxLen; omega
          case c4 => rw [hln]; omega
          case c5 => exact Nat.zero_le _
          intro v2 w4 hown2 hgrow hat2
          obtain ⟨op2, on2, oc2, Y2, rfl, k1, k2, k3, k4⟩ := HCL.out _ HLW.out v2 w4 (by rw [hln]; exact hown2) hgrow hat2
          have K1 := Lib.hid k1
          have K2 := Lib.hid k2
          have K3 := Lib.hid k3
          have K4 := Lib.hid k4
          clear hown2 hgrow hat2 k1 k2 k3 k4
          go_wp2_with fail
          go_roundg (s.size - (k + 1))
          case rel => exact ⟨k + 1, op2, on2, oc2, Y2, rfl, by omega, rfl, K1.out, K2.out, K3.out, K4.out⟩
          case measure => have := HG.out; omega
        · have d1 : decide ((65 : Int) ≤ u) = false := by rw [decide_eq_false_iff_not]; omega
          clear hup h65 hu
          go_upto_region 11 with fail
          go_wp2_with ((at_builtin; refine wpList_append_where _ rfl _ _ 173 rfl 0 21 i21 (.int .i32 0) 1 4 Tryz.underlying173 hi21 hz21a hz21b hz21c rfl (by decide) _ _ _ rfl (HOWN.out.alloc _) ⟨V.heap.size, 0, none⟩ 1 1 [.int .i32 u] rfl rfl ?c1 ?c2 ?c3 ?c4 ?c5 ?_))
          case c1 => exact World.news_of_block (cs := #[.int .i32 u]) (t := 21) (fr := (0, 0)) (heap_alloc_new V _)
          case c2 => simp [Value.oneCell']
          case c3 => rw [hln]; unfold maxLen; omega
          case c4 => rw [hln]; omega
          case c5 => exact Nat.zero_le _
          intro v2 w4 hown2 hgrow hat2
          obtain ⟨op2, on2, oc2, Y2, rfl, k1, k2, k3, k4⟩ := HCL.out _ HLW.out v2 w4 (by rw [hln]; exact hown2) hgrow hat2
          have K1 := Lib.hid k1
          have K2 := Lib.hid k2
          have K3 := Lib.hid k3
          have K4 := Lib.hid k4
          clear hown2 hgrow hat2 k1 k2 k3 k4
          go_wp2_with fail
          go_roundg (s.size - (k + 1))
          case rel => exact ⟨k + 1, op2, on2, oc2, Y2, rfl, by omega, rfl, K1.out, K2.out, K3.out, K4.out⟩
          case measure => have := HG.out; omega
    · obtain rfl : k = s.size := by omega
      have hnx := fun ty => Lib.run_next_end_at (P := Tryz.prog) wr w.heap.size s s.size ty hit hkl
      have hfull : s.data.toList.take s.size = s.data.toList := by rw [← list_size, List.take_length]
      have HP := Lib.hid (HFIN.out (.slice op on oc) wr (by rw [← hfull]; exact HROW.out.owns fun x hx => (HY.out x hx).2) HBE.out)
      clear hfull hit
      go_wp2_with fail
      exact HP.out

theorem rowG_slice {E : TypeId} {w : World} {v : Value} {xs : List Value} (h : w.ownsRow 0 E 1 v xs.length xs) :
    ∃ (ap : Option Addr) (c : Nat), v = .slice ap xs.length c ∧ ∀ k (hk : k < xs.length), ∃ g, ap = some ⟨g, 0, none⟩ ∧ w.cell? ⟨g, k, none⟩ = some xs[k] ∧ g < w.heap.size := by
  obtain ⟨h1, ⟨rfl, h2⟩ | ⟨g, cap, cur, rfl, _, hg, hl, hm, hsz, ht⟩⟩ := h
  · exact ⟨none, 0, by rw [h2], fun k hk => by omega⟩
  · refine ⟨_, cap, rfl, fun k hk => ?_⟩
    have hc : w.cell? ⟨g, k, none⟩ = some xs[k] := by
      rw [cell_of_row w g _ cur E (0, 0) hg, ← Array.getElem?_toList]
      have : (cur.toList.take (xs.length * 1))[k]? = xs[k]? := by rw [ht]
      rw [List.getElem?_take_of_lt (by omega)] at this
      rw [this, List.getElem?_eq_getElem hk]
    exact ⟨g, rfl, hc, World.block_lt_of_cell? w _ hc⟩

set_option maxRecDepth 100000 in
set_option maxHeartbeats 8000000 in
theorem eqfold_any (s t : ByteArray) (w : World) (hs : s.size ≤ 2147483647) (ht : t.size ≤ 2147483647) (ha : ∀ k (hk : k < s.size), s[k].toNat < 128) (hb : ∀ k (hk : k < t.size), t[k].toNat < 128) :
    Calls Tryz.prog 74 #[.string s, .string t] w fun e w' => e = .returned (.bool (lowL s.data.toList == lowL t.data.toList)) ∧ Below w.heap.size w w' := by
  have h1 := fun W => fold_any s W hs ha
  have h2 := fun W => fold_any t W ht hb
  have hl1 : (lowL s.data.toList).length = s.size := by rw [lowL_length, list_size]
  have hl2 : (lowL t.data.toList).length = t.size := by rw [lowL_length, list_size]
  obtain ⟨A, hA⟩ : ∃ A, lowL s.data.toList = A := ⟨_, rfl⟩
  obtain ⟨B, hB⟩ : ∃ B, lowL t.data.toList = B := ⟨_, rfl⟩
  rw [hA] at h1 hl1 ⊢
  rw [hB] at h2 hl2 ⊢
  rw [← hl1] at hs
  rw [← hl2] at ht
  obtain ⟨r, hr⟩ : ∃ r, (A == B) = r := ⟨_, rfl⟩
  rw [hr]
  have H1 := Lib.hid h1
  have H2 := Lib.hid h2
  have HR := Lib.hid hr
  clear h1 h2 hr hA hB hl1 hl2 ha hb
  go_enter Tryz.func74, Tryz.ntmps74
  go_wp2_with fail
  refine (H1.out w).mono ?_
  rintro e w1 ⟨v1, rfl, ho1, hb1⟩
  obtain ⟨p1, c1, rfl, hc1⟩ := rowG_slice ho1
  have HC1 := Lib.hid hc1
  have HB1 := Lib.hid hb1
  rw [runV_len]
  clear ho1 hc1 hb1
  go_wp2_with fail
  refine (H2.out w1).mono ?_
  rintro e w2 ⟨v2, rfl, ho2, hb2⟩
  obtain ⟨p2, c2, rfl, hc2⟩ := rowG_slice ho2
  have HC2 := Lib.hid hc2
  have HB2 : Hid (Below w.heap.size w w2) := Lib.hid (HB1.out.trans (hb2.mono HB1.out.size))
  have hcell1 : ∀ k (hk : k < A.length), ∃ g, p1 = some ⟨g, 0, none⟩ ∧ w2.cell? ⟨g, k, none⟩ = some (.int .i32 (A[k].toNat : Int)) := by
    intro k hk
    obtain ⟨g, hg1, hg2, hg3⟩ := HC1.out k (by rw [runV_len]; exact hk)
    refine ⟨g, hg1, ?_⟩
    rw [World.cell?, hb2.block _ hg3]
    exact hg2.trans (by unfold runV; rw [List.getElem_map])
  have hcell2 : ∀ k (hk : k < B.length), ∃ g, p2 = some ⟨g, 0, none⟩ ∧ w2.cell? ⟨g, k, none⟩ = some (.int .i32 (B[k].toNat : Int)) := by
    intro k hk
    obtain ⟨g, hg1, hg2, hg3⟩ := HC2.out k (by rw [runV_len]; exact hk)
    exact ⟨g, hg1, hg2.trans (by unfold runV; rw [List.getElem_map])⟩
  have HCL1 := Lib.hid hcell1
  have HCL2 := Lib.hid hcell2
  rw [runV_len]
  clear ho2 hc2 hb2 hcell1 hcell2 HC1 HC2 H1 H2
  by_cases hlen : A.length = B.length
  · have hne : ((A.length : Int) != (B.length : Int)) = false := by rw [hlen]; simp
    go_wp2_with fail
    go_loopg [4, 22] A.length (fun g rv kv wr => ∃ k j : Nat, g = A.length - k ∧ k ≤ A.length ∧ kv = .int .i64 k ∧ rv = .bool false ∧ wr = w2.drewN j ∧ Hid (∀ m (h1 : m < A.length) (h2 : m < B.length), m < k → A[m] = B[m]))
    case atStart => exact ⟨0, 0, rfl, Nat.zero_le _, rfl, rfl, rfl, Lib.hid fun m _ _ h => by omega⟩
    case round =>
      obtain ⟨k, j, hg, hk, rfl, rfl, rfl, HE⟩ := hrel
      have HG := Lib.hid hg
      clear hg
      by_cases hkl : k < A.length
      · have hd : decide ((k : Int) < (A.length : Int)) = true := by rw [decide_eq_true_eq]; omega
        have hkl2 : k < B.length := by omega
        have nn : (0 : Int) ≤ (k : Int) := Int.natCast_nonneg _
        obtain ⟨g1, rfl, q1⟩ := HCL1.out k hkl
        obtain ⟨g2, rfl, q2⟩ := HCL2.out k hkl2
        have u1 : ∀ n, (w2.drewN n).cell? ⟨g1, k, none⟩ = some (.int .i32 (A[k].toNat : Int)) := fun _ => q1
        have u2 : ∀ n, (w2.drewN n).cell? ⟨g2, k, none⟩ = some (.int .i32 (B[k].toNat : Int)) := fun _ => q2
        have u3 := u1 j
        have u4 := u2 j
        clear q1 q2
        by_cases hab : A[k] = B[k]
        · have e1 : ((A[k].toNat : Int) != (B[k].toNat : Int)) = false := by rw [hab]; simp
          have HE2 : Hid (∀ m (h1 : m < A.length) (h2 : m < B.length), m < k + 1 → A[m] = B[m]) := Lib.hid fun m h1 h2 h3 => by
            rcases Nat.lt_or_ge m k with h4 | h4
            · exact HE.out m h1 h2 h4
            · obtain rfl : m = k := by omega
              exact hab
          go_wp2_with fail
          go_region
          go_wp2_with fail
          go_roundg (A.length - (k + 1))
          case rel => exact ⟨k + 1, j + 1, rfl, by omega, rfl, rfl, rfl, HE2⟩
          case measure => have := HG.out; omega
        · have e1 : ((A[k].toNat : Int) != (B[k].toNat : Int)) = true := by
            rw [bne_iff_ne]
            intro e
            exact hab (UInt8.toNat_inj.1 (by omega))
          have hrf : r = false := by
            rw [← HR.out, beq_eq_false_iff_ne]
            rintro rfl
            exact hab rfl
          have HP : Hid (Below w.heap.size w (w2.drewN (j + 1))) := Lib.hid (HB2.out.trans ⟨rfl, rfl, rfl, Nat.le_refl _, fun _ _ => rfl⟩)
          subst hrf
          clear hab
          go_wp2_with fail
          go_region
          go_wp2_with fail
          go_ret
          exact ⟨rfl, HP.out⟩
      · have hd : decide ((k : Int) < (A.length : Int)) = false := by rw [decide_eq_false_iff_not]; omega
        have hrt : r = true := by
          rw [← HR.out, beq_iff_eq]
          refine List.ext_getElem hlen fun m h1 h2 => HE.out m h1 h2 (by omega)
        have HP : Hid (Below w.heap.size w (w2.drewN j)) := Lib.hid (HB2.out.trans ⟨rfl, rfl, rfl, Nat.le_refl _, fun _ _ => rfl⟩)
        subst hrt
        go_wp2_with fail
        go_ret
        exact ⟨rfl, HP.out⟩
  · have hne : ((A.length : Int) != (B.length : Int)) = true := by rw [bne_iff_ne]; omega
    have hrf : r = false := by
      rw [← HR.out, beq_eq_false_iff_ne]
      rintro rfl
      exact hlen rfl
    subst hrf
    go_wp2_with fail
    go_ret
    exact ⟨rfl, HB2.out⟩
end Go.Proofs.YtlljphipglgjiaaGreatDoor

namespace Go.Proofs.YtlljphipglgjiaaGreatDoor
open Go.RowKit Go.Lib

def declC : ByteArray := ⟨#[118, 101, 114, 115, 105, 111, 110, 61, 34, 49, 46, 48, 34, 32, 101, 110, 99, 111, 100, 105, 110, 103, 61, 34, 85, 84, 70, 45, 56, 34]⟩

set_option maxRecDepth 100000 in
set_option maxHeartbeats 4000000 in
theorem procInst_version (w : World) : Calls Tryz.prog 161 #[.string ⟨#[118, 101, 114, 115, 105, 111, 110]⟩, .string declC] w fun e w' => e = .returned (.string ⟨#[49, 46, 48]⟩) ∧ w = w' := by
  have hI : Calls Tryz.prog 196 #[.string declC, .string ⟨#[118, 101, 114, 115, 105, 111, 110, 61]⟩] w fun e w' => e = .returned (.int .i64 ((0 : Nat) : Int)) ∧ w = w' := zzIndex_found declC _ 0 w (by decide) (by decide) (by decide) (fun k hk => absurd hk (Nat.not_lt_zero _))
  have hB : Calls Tryz.prog 197 #[.string ⟨#[49, 46, 48, 34, 32, 101, 110, 99, 111, 100, 105, 110, 103, 61, 34, 85, 84, 70, 45, 56, 34]⟩, .int .u8 34] w fun e w' => e = .returned (.int .i64 3) ∧ w' = w := Tryz.strings_IndexByte _ 34 w
  have hs : declC.size = 30 := rfl
  have h8 : (declC[8]'(by decide)).toNat = 34 := rfl
  go_enter Tryz.func161, Tryz.ntmps161
  go_wp2_with fail
  rw [show (⟨#[118, 101, 114, 115, 105, 111, 110]⟩ : ByteArray) ++ ⟨#[61]⟩ = ⟨#[118, 101, 114, 115, 105, 111, 110, 61]⟩ from rfl]
  refine wp_loop_once ?_
  go_wp2_with fail
  rw [show declC.extract 0 30 = declC from by decide]
  refine hI.mono ?_
  rintro e w1 ⟨rfl, rfl⟩
  go_wp2_with fail
  rw [show declC.extract 9 30 = ⟨#[49, 46, 48, 34, 32, 101, 110, 99, 111, 100, 105, 110, 103, 61, 34, 85, 84, 70, 45, 56, 34]⟩ from by decide]
  refine hB.mono ?_
  rintro e w2 ⟨rfl, rfl⟩
  go_wp2_with fail
  rw [show declC.extract 9 12 = ⟨#[49, 46, 48]⟩ from by decide]
  go_ret
  exact ⟨rfl, rfl⟩
set_option maxRecDepth 100000 in
set_option maxHeartbeats 4000000 in
theorem procInst_encoding (w : World) : Calls Tryz.prog 161 #[.string ⟨#[101, 110, 99, 111, 100, 105, 110, 103]⟩, .string declC] w fun e w' => e = .returned (.string ⟨#[85, 84, 70, 45, 56]⟩) ∧ w = w' := by
  have hI : Calls Tryz.prog 196 #[.string declC, .string ⟨#[101, 110, 99, 111, 100, 105, 110, 103, 61]⟩] w fun e w' => e = .returned (.int .i64 ((14 : Nat) : Int)) ∧ w = w' := zzIndex_found declC _ 14 w (by decide) (by decide) (by decide) (by decide)
  have hB : Calls Tryz.prog 197 #[.string ⟨#[85, 84, 70, 45, 56, 34]⟩, .int .u8 34] w fun e w' => e = .returned (.int .i64 5) ∧ w' = w := Tryz.strings_IndexByte _ 34 w
  have hs : declC.size = 30 := rfl
  have h8 : (declC[23]'(by decide)).toNat = 34 := rfl
  go_enter Tryz.func161, Tryz.ntmps161
  go_wp2_with fail
  rw [show (⟨#[101, 110, 99, 111, 100, 105, 110, 103]⟩ : ByteArray) ++ ⟨#[61]⟩ = ⟨#[101, 110, 99, 111, 100, 105, 110, 103, 61]⟩ from rfl]
  refine wp_loop_once ?_
  go_wp2_with fail
  rw [show declC.extract 0 30 = declC from by decide]
  refine hI.mono ?_
  rintro e w1 ⟨rfl, rfl⟩
  go_wp2_with fail
  rw [show declC.extract 24 30 = ⟨#[85, 84, 70, 45, 56, 34]⟩ from by decide]
  refine hB.mono ?_
  rintro e w2 ⟨rfl, rfl⟩
  go_wp2_with fail
  rw [show declC.extract 24 29 = ⟨#[85, 84, 70, 45, 56]⟩ from by decide]
  go_ret
  exact ⟨rfl, rfl⟩
end Go.Proofs.YtlljphipglgjiaaGreatDoor

namespace Go.Proofs.YtlljphipglgjiaaGreatDoor
open Go.RowKit Go.Lib

def declL2 : List UInt8 := [118, 101, 114, 115, 105, 111, 110, 61, 34, 49, 46, 48, 34, 32, 101, 110, 99, 111, 100, 105, 110, 103, 61, 34, 85, 84, 70, 45, 56, 34]
theorem declL_eq : declL = 60 :: 63 :: ([120, 109, 108] ++ ([32] ++ (declL2 ++ [63, 62]))) := rfl
/-- The bytes behind the target: the first question mark is the one before the end. -/
theorem decl_get : ∀ k, k < 32 → (0 :: (declL2 ++ [63, 62]) : List UInt8)[k]? = some 63 → k = 31 := by decide

set_option maxRecDepth 100000 in
set_option maxHeartbeats 8000000 in
theorem raw_decl (M : Nat → Prop) (w : World) (L : LS) (s : ByteArray) (i : Nat) (f : Bool) (bs t : List UInt8) (h : LowB M w L s i f bs) (hnc : L.nc = false) (hl : s.data.toList.drop i = declL ++ t) :
    Calls Tryz.prog 117 #[.pointer (some ⟨L.p, 0, none⟩)] w fun e w' => ∃ v, e = .returned (.tuple #[.iface 258 v, .nilIface]) ∧ (∃ bs', LowB M w' L s (i + 38) true bs') ∧ Fr M w w' := by
  obtain ⟨post, hpost⟩ : ∃ post : Ending → World → Prop, (fun e w' => ∃ v, e = .returned (.tuple #[.iface 258 v, .nilIface]) ∧ (∃ bs', LowB M w' L s (i + 38) true bs') ∧ Fr M w w') = post := ⟨_, rfl⟩
  have hfin : ∀ (v : Value) (bs' : List UInt8) (w' : World), LowB M w' L s (i + 38) true bs' → Fr M w w' → post (.returned (.tuple #[.iface 258 v, .nilIface])) w' := by
    intro v bs' w' h1 h2
    rw [← hpost]
    exact ⟨v, rfl, ⟨bs', h1⟩, h2⟩
  rw [hpost]
  have HFIN := Lib.hid hfin
  have hss := h.parts.2.2.2.1
  obtain ⟨c17, c13, c0⟩ := h.plain hnc
  have hl0 : s.data.toList.drop i = 60 :: (63 :: ([120, 109, 108] ++ (32 :: (declL2 ++ [63, 62] ++ t)))) := hl.trans (by rw [declL_eq]; simp)
  obtain ⟨q0, e0, hl1⟩ := at_cons hl0
  obtain ⟨q1, e1, hl2⟩ := at_cons hl1
  have hGN : GoodN [120, 109, 108] := goodN_of (by decide) (by decide)
  obtain ⟨p1, p2, n1, n2, n3, n4, _, n6, n7⟩ := name_at hGN hl2 ⟨32, _, rfl, by decide, by decide⟩
  obtain ⟨q2, e2, hl3⟩ := at_cons n7
  obtain ⟨q3, e3, _⟩ := at_cons (l := declL2.tail ++ [63, 62] ++ t) (x := 118) hl3
  have hget : ∀ k (hk : i + 6 + k < s.size), k < 32 → (0 :: (declL2 ++ [63, 62]) : List UInt8)[k + 1]? = some (s[i + 6 + k]'hk) := by
    intro k hk hk2
    have h4 : (s.data.toList.drop (i + 6))[k]? = some (s[i + 6 + k]'hk) := by
      rw [List.getElem?_drop, List.getElem?_eq_getElem (by rw [list_size]; exact hk)]
      rfl
    have h5 : s.data.toList.drop (i + 6) = (declL2 ++ [63, 62]) ++ t := hl3
    rw [h5, List.getElem?_append_left hk2] at h4
    exact h4
  have hle : i + 38 ≤ s.size := by
    have h5 : s.data.toList.drop (i + 6) = (declL2 ++ [63, 62]) ++ t := hl3
    have := congrArg List.length h5
    rw [List.length_drop, list_size, List.length_append, show (declL2 ++ [63, 62] : List UInt8).length = 32 from rfl] at this
    omega
  have HGET := Lib.hid hget
  have hg1 := getcB h q0
  rw [show ((s[i]'q0).toNat : Int) = 60 by rw [e0]; rfl] at hg1
  have HG1 := Lib.hid hg1
  have hm1 : ∀ (w' : World) (f' : Bool) (bs' : List UInt8), LowB M w' L s (i + 1) f' bs' → Calls Tryz.prog 154 #[.pointer (some ⟨L.p, 0, none⟩)] w' fun e w2 => e = .returned (.tuple #[.int .u8 63, .bool true]) ∧ LowB M w2 L s (i + 1 + 1) true bs' ∧ Fr M w' w2 := by
    intro w' f' bs' h'
    have := mustgetcB h' q1
    rw [show ((s[i + 1]'q1).toNat : Int) = 63 by rw [e1]; rfl] at this
    exact this
  have hnm : ∀ (w' : World) (f' : Bool) (bs' : List UInt8), LowB M w' L s (i + 1 + 1) f' bs' → Calls Tryz.prog 157 #[.pointer (some ⟨L.p, 0, none⟩)] w' fun e w2 => e = .returned (.tuple #[.string ⟨#[120, 109, 108]⟩, .bool true]) ∧ LowB M w2 L s (i + 5) false [120, 109, 108] ∧ Fr M w' w2 := by
    intro w' f' bs' h'
    have := nameB_ok (i + 1 + 1 + 3) h' p1 p2 n1 n2 n3 n4
    rw [show sub s (i + 1 + 1) (i + 1 + 1 + 3) = [120, 109, 108] from n6] at this
    exact this
  have hsp : ∀ (w' : World) (f' : Bool) (bs' : List UInt8), LowB M w' L s (i + 5) f' bs' → Calls Tryz.prog 156 #[.pointer (some ⟨L.p, 0, none⟩)] w' fun e w2 => e = .returned (.tuple #[]) ∧ LowB M w2 L s (i + 6) false bs' ∧ Fr M w' w2 := by
    intro w' f' bs' h'
    refine spaceB (i + 6) h' (Nat.le_succ _) q3 (fun k hk h1 h2 => ?_) (by rw [show s[i + 6]'q3 = 118 from e3]; unfold Blank; decide)
    obtain rfl : k = i + 5 := by omega
    rw [show s[i + 5]'hk = 32 from e2]
    unfold Blank
    decide
  have HM1 := Lib.hid hm1
  have HNM := Lib.hid hnm
  have HSP := Lib.hid hsp
  clear h hnc hl hpost hfin hl0 hl1 hl2 hl3 e0 e1 e2 e3 q0 q1 q2 q3 hget hg1 hm1 hnm hsp p1 p2 n1 n2 n3 n4 n6 n7 hGN
  go_enter Tryz.func117, Tryz.ntmps117
  go_wp2_with fail
  refine HG1.out.mono ?_
  rintro e w1 ⟨rfl, h1, hf1⟩
  have H1 := Lib.hid h1
  have F1 := Lib.hid hf1
  clear h1 hf1
  go_wp2_with fail
  refine (HM1.out _ _ _ H1.out).mono ?_
  rintro e w2 ⟨rfl, h1, hf1⟩
  have H2 := Lib.hid h1
  have F2 := Lib.hid (F1.out.trans hf1)
  clear h1 hf1 H1 F1
  go_wp2_with fail
  refine (HNM.out _ _ _ H2.out).mono ?_
  rintro e w3 ⟨rfl, h1, hf1⟩
  have H3 := Lib.hid h1
  have F3 := Lib.hid (F2.out.trans hf1)
  clear h1 hf1 H2 F2
  go_wp2_with fail
  refine (HSP.out _ _ _ H3.out).mono ?_
  rintro e w4 ⟨rfl, h1, hf1⟩
  have H4 := Lib.hid h1
  have F4 := Lib.hid (F3.out.trans hf1)
  clear h1 hf1 H3 F3
  go_wp2_with fail
  refine (ResetB H4.out).mono ?_
  rintro e w5 ⟨rfl, h1, hf1⟩
  have H5 := Lib.hid h1
  have F5 := Lib.hid (F4.out.trans hf1)
  clear h1 hf1 H4 F4
  go_wp2_with fail
  go_loopg [4, 5, 9] 32 (fun g bv okv b0v wr => ∃ (k : Nat) (b b0 : UInt8) (acc : List UInt8), g = 32 - k ∧ k < 32 ∧ bv = .int .u8 b.toNat ∧ okv = .bool true ∧ b0v = .int .u8 b0.toNat ∧ acc = (declL2 ++ [63, 62]).take k ∧
    LowB M wr L s (i + 6 + k) (decide (0 < k)) acc ∧ Fr M w wr ∧ Hid ((0 :: (declL2 ++ [63, 62]) : List UInt8)[k]? = some b0))
  case atStart => exact ⟨0, 63, 0, [], rfl, by omega, rfl, rfl, rfl, rfl, H5.out, F5.out, Lib.hid rfl⟩
  case round =>
    obtain ⟨k, b, b0, acc, hg, hk, rfl, rfl, rfl, hacc, hlo, hfr, HZ⟩ := hrel
    have HG := Lib.hid hg
    have HL := Lib.hid hlo
    have HF := Lib.hid hfr
    have HA := Lib.hid hacc
    have hal : acc.length ≤ 32 := by rw [hacc, List.length_take]; omega
    clear hg hlo hfr hacc H5 F5
    have hks : i + 6 + k < s.size := by omega
    have hz2 := HGET.out k hks hk
    obtain ⟨d, hd⟩ : ∃ d, s[i + 6 + k]'hks = d := ⟨_, rfl⟩
    have hm := mustgetcB HL.out hks
    rw [hd] at hm hz2
    have HZ2 := Lib.hid hz2
    have HM := Lib.hid hm
    have hacc2 : acc ++ [d] = (declL2 ++ [63, 62]).take (k + 1) := by
      have h6 : (declL2 ++ [63, 62] : List UInt8)[k]? = some d := hz2
      rw [List.take_add_one, h6, HA.out]
      rfl
    have HA2 := Lib.hid hacc2
    clear hz2 hm hd hacc2
    go_wp2_with fail
    refine HM.out.mono ?_
    rintro e w6 ⟨rfl, h1, hf1⟩
    have H6 := Lib.hid h1
    have F6 := Lib.hid (HF.out.trans hf1)
    clear h1 hf1 HM
    go_wp2_with fail
    refine (WriteByteB d H6.out (by omega)).mono ?_
    rintro e w7 ⟨rfl, h1, hf1⟩
    rw [HA2.out] at h1
    have H7 := Lib.hid h1
    have F7 := Lib.hid (F6.out.trans hf1)
    clear h1 hf1 H6 F6
    by_cases hend : k = 31
    · have d0 : b0 = 63 := by have := HZ.out; rw [hend] at this; exact (Option.some.inj this).symm
      have d2 : d = 62 := by have := HZ2.out; rw [hend] at this; exact (Option.some.inj this).symm
      have g0 : ((b0.toNat : Int) == 63) = true := u8_eq 63 rfl d0
      have g2 : ((d.toNat : Int) == 62) = true := u8_eq 62 rfl d2
      clear d0 d2
      go_wp2_with fail
      refine (BytesB H7.out).mono ?_
      rintro e w8 ⟨buf, rfl, hlow, hbuf, h3, hf3⟩
      rw [hend] at h3 hbuf
      have H8 := Lib.hid h3
      have F8 := Lib.hid (F7.out.trans hf3)
      clear h3 hf3 hlow
      rcases hbuf.cases with ⟨rfl, hnil⟩ | ⟨g, cap, cur, rfl, hg, hlc, hm, hcs, ht⟩
      · exact absurd hnil (by decide)
      have hm' := hm
      unfold maxLen at hm'
      have hlen : ((declL2 ++ [63, 62]).take (31 + 1) : List UInt8).length = 32 := rfl
      rw [hlen] at hlc ⊢
      have hconv : (convert 77 9 (.slice (some ⟨g, 0, none⟩) 30 cap)).run Tryz.prog w8 = .ok (.string declC) w8 := by
        have ht2 : cur.toList.take declL2.length = Lib.byteCells declL2 := by
          have e := congrArg (List.take 30) ht
          rw [List.take_take] at e
          exact e
        have h10 : (convert 77 9 (.slice (some ⟨g, 0, none⟩) 30 cap)).run Tryz.prog w8 = .ok (.string (bst declL2)) w8 := run_piece_string (off := 0) (bs := declL2) (l := declL2) hg ht2 (by simp) (Nat.zero_le _) rfl
        exact h10
      have HP1 := Lib.hid (procInst_version w8)
      have HP2 := Lib.hid (procInst_encoding w8)
      clear hbuf hg hcs ht hm
      go_wp2_with fail
      refine HP1.out.mono ?_
      rintro e w9 ⟨rfl, rfl⟩
      go_wp2_with fail
      refine HP2.out.mono ?_
      rintro e w9 ⟨rfl, rfl⟩
      go_wp2_with fail
      exact HFIN.out _ _ _ (by rw [show i + 38 = i + 6 + 31 + 1 by omega]; exact H8.out) F8.out
    · have hb0 : b0 ≠ 63 := fun e => hend (decl_get k hk (by rw [HZ.out, e]))
      have g0 : ((b0.toNat : Int) == 63) = false := u8_ne 63 rfl hb0
      clear hb0
      go_wp2_with fail
      go_roundg (32 - (k + 1))
      case rel => exact ⟨k + 1, d, d, _, rfl, by omega, rfl, rfl, rfl, rfl, H7.out, F7.out, Lib.hid HZ2.out⟩
      case measure => have := HG.out; omega
end Go.Proofs.YtlljphipglgjiaaGreatDoor

namespace Go.Proofs.YtlljphipglgjiaaGreatDoor
open Go.RowKit Go.Lib

section
variable {M : Nat → Prop} {w w' : World} {P m : Nat} {s : ByteArray} {i : Nat} {fr : List Fram} {F : NsF} {bud : Nat}
theorem token_decl (t : List UInt8) (h : DecW M w P m s i none fr F bud) (hl : s.data.toList.drop i = declL ++ t) :
    Calls Tryz.prog 70 #[.pointer (some ⟨P, 0, none⟩)] w fun e w' => ∃ x, e = .returned (.tuple #[.iface 258 x, .nilIface]) ∧ (DecW M w' P m s (i + 38) none fr F bud ∧ Fr M w w') := by
  obtain ⟨L, f, bs, st, fl, n, rfl, hm, hnc, howe, hd, hns, hmM, hst, hfr, hbud⟩ := h
  refine token_plain w L.p L.stk 258 (.inr (.inr rfl)) _ (hd.tokAt hfr) ((raw_decl (Bare M st fl) w L s i f bs t hd.bare hnc hl).mono ?_)
  rintro e w2 ⟨v, rfl, ⟨bs2, h2⟩, hf2⟩
  exact ⟨_, rfl, ⟨⟨L, true, bs2, st, fl, n, rfl, hm, hnc, howe, hd.back h2 hf2 rfl rfl rfl, hns.fr hf2 fun h => hmM h.1, hmM, hst, hfr, hbud⟩, hf2.mono fun _ h => h.1⟩, (h2.plain hnc).2.2⟩

/-- Ahead of the root, behind whose first sign t stands. -/
def RootIn (s : ByteArray) (i : Nat) (t : List UInt8) : Prop := i ≤ s.size ∧ ((∃ l2, s.data.toList.drop i = declL ++ l2 ∧ Prol l2 t) ∨ Prol (s.data.toList.drop i) t)
inductive RootTok (M : Nat → Prop) (w : World) (P m : Nat) (s : ByteArray) (i : Nat) (fr : List Fram) (F : NsF) (nm : List UInt8) (av : List AttrS) (ks : List XEl) (rest t : List UInt8) : Ending → World → Prop
  | text (v : Value) (w' : World) (j : Nat) : i < j → RootIn s j t → DecV M w' P m s j none fr F → Fr (fun y => M y ∨ y = m) w w' → RootTok M w P m s i fr F nm av ks rest t (.returned (.tuple #[.iface 135 v, .nilIface])) w'
  | com (v : Value) (w' : World) (j : Nat) : i < j → RootIn s j t → DecV M w' P m s j none fr F → Fr (fun y => M y ∨ y = m) w w' → RootTok M w P m s i fr F nm av ks rest t (.returned (.tuple #[.iface 259 v, .nilIface])) w'
  | decl (v : Value) (w' : World) (j : Nat) : i < j → RootIn s j t → DecV M w' P m s j none fr F → Fr (fun y => M y ∨ y = m) w w' → RootTok M w P m s i fr F nm av ks rest t (.returned (.tuple #[.iface 258 v, .nilIface])) w'
  | start (w' : World) (j : Nat) (owe : Option (ByteArray × ByteArray)) (a : Option Addr) (n c : Nat) : i < j → Inside s j owe nm ks rest → DecV M w' P m s j owe (frOf nm F :: fr) (nsAll F av) → Fr (fun y => M y ∨ y = m) w w' →
      RootTok M w P m s i fr F nm av ks rest t (.returned (.tuple #[.iface 62 (.agg #[.string (xlate (nsAll F av) true (bst (halvesL nm).1) (bst (halvesL nm).2)), .string (bst (halvesL nm).2), .slice a n c]), .nilIface])) w'
theorem prol_head2 {l t : List UInt8} (h : Prol l t) : l ≠ [] := by
  cases h <;> exact List.cons_ne_nil _ _
theorem root_tok {nm : List UInt8} {av : List AttrS} {ks : List XEl} {rest t t2 r1 : List UInt8} {em : Bool} (htx : TextAll s) (h : DecV M w P m s i none fr F) (hE : Env M m w) (hR : RootIn s i t) (ht : t = nm ++ t2) (hN : GoodN nm) (hA : AttrsR t2 av em r1) (hk : (em = true ∧ ks = [] ∧ rest = r1) ∨ (em = false ∧ Cont r1 nm ks rest)) :
    Calls Tryz.prog 70 #[.pointer (some ⟨P, 0, none⟩)] w (RootTok M w P m s i fr F nm av ks rest t) := by
  have hss := DecW.size h
  have hmM := DecW.notM h
  obtain ⟨hi, ⟨l2, hl, hp⟩ | hp⟩ := hR
  · obtain ⟨j1, j2, j3⟩ := drop_le hl hi
    have e1 : i + 38 = s.size - l2.length := j2
    refine (token_decl l2 h hl).mono ?_
    rintro e w2 ⟨x, rfl, h1, h2⟩
    rw [e1] at h1
    exact .decl x w2 _ (by omega) ⟨j3, .inr (by rw [j1]; exact hp)⟩ (h1.more (by omega)) (h2.mono fun _ h => .inl h)
  · generalize hl : s.data.toList.drop i = l at hp
    cases hp with
    | text c l v t3 r hc htp hg hv hC =>
      obtain ⟨a, ha⟩ := txp_suffix htp
      obtain ⟨j1, j2, j3⟩ := drop_le (hl.trans ha) hi
      have hne : a ≠ [] := by
        rintro rfl
        rw [List.nil_append] at ha
        injection ha with e1
        exact hc e1
      have hlt := List.length_pos_iff.2 hne
      refine (token_text c l v t3 h hE.tabs hE.m4 htx hl hc htp hg hv).mono ?_
      rintro e w2 ⟨x, rfl, h1, h2, _⟩
      exact .text x w2 _ (by omega) ⟨j3, .inr (by rw [j1]; exact hC)⟩ (h1.more (by omega)) (h2.mono fun _ h => .inl h)
    | com c t3 r hc hC =>
      obtain ⟨j1, j2, j3⟩ := drop_le (a := 60 :: 33 :: 45 :: 45 :: (c ++ [45, 45, 62])) (r := t3) (hl.trans (by simp)) hi
      refine (token_com c t3 h hl hc).mono ?_
      rintro e w2 ⟨x, rfl, h1, h2⟩
      simp only [List.length_cons] at j2
      exact .com x w2 _ (by omega) ⟨j3, .inr (by rw [j1]; exact hC)⟩ (h1.more (by omega)) (h2.mono fun _ h => .inl h)
    | here =>
      subst ht
      obtain ⟨a, ha, hal⟩ := attrs_suffix hA
      obtain ⟨j1, j2, j3⟩ := drop_le (a := 60 :: (nm ++ a)) (r := r1) (hl.trans (by rw [ha]; simp)) hi
      simp only [List.length_cons, List.length_append] at j2
      refine (token_start nm t2 av em r1 h (small_bud hss hi _ (by omega)) hE.tabs hE.m4 htx hl hN hA).mono ?_
      rintro e w2 ⟨ga, cap, cur, rfl, h1, h2, h3, h4, h5⟩
      refine .start w2 _ _ _ _ _ (by omega) ⟨j3, ?_⟩ ((h4.wide (fun k hk => hk.1) hmM).more (by omega)) h5
      rcases hk with ⟨rfl, rfl, rfl⟩ | ⟨rfl, hC⟩
      · exact .inl ⟨rfl, rfl, j1, by omega⟩
      · exact .inr ⟨rfl, by rw [j1]; exact hC⟩
end

set_option maxRecDepth 100000 in
set_option maxHeartbeats 8000000 in
theorem fetch_any {M : Nat → Prop} {P m : Nat} {s : ByteArray} {i : Nat} {fr : List Fram} {F : NsF} {nm : List UInt8} {av : List AttrS} {ks : List XEl} {rest t t2 r1 : List UInt8} {em : Bool} (w : World) (htx : TextAll s) (h : DecV M w P m s i none fr F) (hE : Env M m w) (hR : RootIn s i t) (ht : t = nm ++ t2) (hN : GoodN nm) (hA : AttrsR t2 av em r1) (hk : (em = true ∧ ks = [] ∧ rest = r1) ∨ (em = false ∧ Cont r1 nm ks rest)) :
    Calls Tryz.prog 69 #[.pointer (some ⟨P, 0, none⟩)] w fun e w' => ∃ (a : Option Addr) (n c : Nat), e = .returned (.tuple #[.agg #[.string (xlate (nsAll F av) true (bst (halvesL nm).1) (bst (halvesL nm).2)), .string (bst (halvesL nm).2), .slice a n c], .nilIface]) ∧
      ((∃ (j : Nat) (owe : Option (ByteArray × ByteArray)), Inside s j owe nm ks rest ∧ DecV M w' P m s j owe (frOf nm F :: fr) (nsAll F av)) ∧ Fr (fun y => M y ∨ y = m) w w') := by
  obtain ⟨X, hX⟩ : ∃ X, xlate (nsAll F av) true (bst (halvesL nm).1) (bst (halvesL nm).2) = X := ⟨_, rfl⟩
  obtain ⟨lo, hlo⟩ : ∃ X, bst (halvesL nm).2 = X := ⟨_, rfl⟩
  have hrt := fun (M' : Nat → Prop) (w' : World) (i' : Nat) (h' : DecV M' w' P m s i' none fr F) (hE' : Env M' m w') (hR' : RootIn s i' t) => root_tok htx h' hE' hR' ht hN hA hk
  have HRT := Lib.hid hrt
  rw [hX, hlo]
  obtain ⟨post, hpost⟩ : ∃ post : Ending → World → Prop, (fun e w' => ∃ (a : Option Addr) (n c : Nat), e = .returned (.tuple #[.agg #[.string X, .string lo, .slice a n c], .nilIface]) ∧
      ((∃ (j : Nat) (owe : Option (ByteArray × ByteArray)), Inside s j owe nm ks rest ∧ DecV M w' P m s j owe (frOf nm F :: fr) (nsAll F av)) ∧ Fr (fun y => M y ∨ y = m) w w')) = post := ⟨_, rfl⟩
  have hfin : ∀ (a : Option Addr) (n c : Nat) (w' : World) (j : Nat) (owe : Option (ByteArray × ByteArray)), Inside s j owe nm ks rest → DecV M w' P m s j owe (frOf nm F :: fr) (nsAll F av) → Fr (fun y => M y ∨ y = m) w w' → post (.returned (.tuple #[.agg #[.string X, .string lo, .slice a n c], .nilIface])) w' := by
    intro a n c w' j owe h1 h2 h3
    rw [← hpost]
    exact ⟨a, n, c, rfl, ⟨j, owe, h1, h2⟩, h3⟩
  rw [hpost]
  have hNw := DecW.new h
  have hm := DecW.notM h
  have hgl : m < w.heap.size := by
    obtain ⟨L, f, bs, st, fl, n, _, _, _, _, _, hns, _⟩ := h
    exact hns.lt
  obtain ⟨rb, hrb⟩ : ∃ rb, w.heap.size = rb := ⟨_, rfl⟩
  obtain ⟨W, hW⟩ : ∃ W, w.alloc (.cells #[.string ⟨#[]⟩, .string ⟨#[]⟩, .slice none 0 0] 62) = W := ⟨_, rfl⟩
  have hbW : Below w.heap.size w W := by rw [← hW]; exact (Below.refl _ _).alloc (Nat.le_refl _) _
  have hfW : Fr (fun y => M y ∨ y = m) w W := Fr.below hbW (Nat.le_refl _) (fun k hk => .inl (hNw k hk))
  have hk1 : Blk W rb 62 #[.string ⟨#[]⟩, .string ⟨#[]⟩, .slice none 0 0] := by rw [← hW, ← hrb]; exact Blk.new _ _ _
  have hX0 : KnownD [(rb, 62, #[.string ⟨#[]⟩, .string ⟨#[]⟩, .slice none 0 0])] W := fun x hx => by
    simp only [List.mem_cons, List.not_mem_nil, or_false] at hx
    subst hx
    exact ⟨hk1, (by decide : (62 : TypeId) ≠ 197 ∧ (62 : TypeId) ≠ 190 ∧ (62 : TypeId) ≠ 5 ∧ (62 : TypeId) ≠ 200)⟩
  have HD0 : Hid (DecV (Sans M [rb]) W P m s i none fr F) := Lib.hid (DecW.sans (DecW.below h hbW) hX0)
  have HFW := Lib.hid hfW
  have HK1 := Lib.hid hk1
  have HR := Lib.hid hR
  have HE := Lib.hid ((hE.fr hfW).sans [rb])
  have HFIN := Lib.hid hfin
  have HM := Lib.hid hm
  have HN := Lib.hid hNw
  have HW := Lib.hid hW
  have HX := Lib.hid hX
  have HLO := Lib.hid hlo
  have hrbM : M rb := hNw rb (by omega)
  have a1 := ta62_62
  have a2 := ta62_135
  have a3 := ta62_259
  have a4 := ta62_258
  clear h hE htx hR ht hN hA hk hrt hpost hfin hNw hm hbW hfW hk1 hX0 hW hX hlo
  go_enter Tryz.func69, Tryz.ntmps69
  go_wp2_with fail
  rw [HW.out]
  try rw [hrb]
  go_loopg [3] (s.size - i) (fun g ev wr => ∃ i' : Nat, g = s.size - i' ∧ ev = .nilIface ∧ DecV (Sans M [rb]) wr P m s i' none fr F ∧ RootIn s i' t ∧ Env (Sans M [rb]) m wr ∧ Fr (fun y => M y ∨ y = m) w wr ∧ Blk wr rb 62 #[.string ⟨#[]⟩, .string ⟨#[]⟩, .slice none 0 0])
  case atStart => exact ⟨i, rfl, rfl, HD0.out, HR.out, HE.out, HFW.out, HK1.out⟩
  case round =>
    obtain ⟨i', hg, rfl, hd, hi2, he, hf, hk1⟩ := hrel
    have HTK := Lib.hid (HRT.out _ _ _ hd he hi2)
    have HG := Lib.hid hg
    have HEV := Lib.hid he
    have HF := Lib.hid hf
    have HB1 := Lib.hid hk1
    have hout : ¬ (Sans M [rb] rb ∨ rb = m) := by
      rintro (h | h)
      · exact h.2 (by simp)
      · omega
    have HOUT := Lib.hid hout
    clear hg hd hi2 he hf hk1 HD0 HR HE HFW HK1 hout
    go_wp2_with fail
    refine HTK.out.mono ?_
    intro e w2 hk
    cases hk with
    | start _ j owe a n c h1 h2 h3 h4 =>
      have hB1 := HB1.out.fr h4 HOUT.out
      rw [HX.out, HLO.out]
      have H2 := Lib.hid h2
      have H3 := Lib.hid h3
      have HF2 : Hid (Fr (fun y => M y ∨ y = m) w w2) := Lib.hid (HF.out.trans (h4.mono fun y hy => by rcases hy with hy | hy; exact .inl hy.1; exact .inr hy))
      have hbV : Below w2.heap.size w2 (w2.alloc (.cells #[.string X, .string lo, .slice a n c] 62)) := (Below.refl _ _).alloc (Nat.le_refl _) _
      obtain ⟨V, hV⟩ : ∃ V, w2.alloc (.cells #[.string X, .string lo, .slice a n c] 62) = V := ⟨_, rfl⟩
      have hs0 : Blk V w2.heap.size 62 #[.string X, .string lo, .slice a n c] := by rw [← hV]; exact Blk.new _ _ _
      rw [hV] at hbV
      have hr4 : Blk V rb 62 #[.string ⟨#[]⟩, .string ⟨#[]⟩, .slice none 0 0] := (hbV.block _ hB1.lt).trans hB1
      have HV := Lib.hid hV
      have HBV := Lib.hid hbV
      have HR4 := Lib.hid hr4
      have HS0 := Lib.hid hs0
      clear h1 h2 h3 h4 hB1 hV hbV hr4 hs0
      go_upto_region 5 with fail
      rw [HV.out]
      have k0 := HS0.out.cell 0
      have k1 := HS0.out.cell 1
      have k2 := HS0.out.cell 2
      have r0 := HR4.out.cell 0
      have r1 := HR4.out.cell 1
      have r2 := HR4.out.cell 2
      have rf := HR4.out.frozen
      go_wp2_with fail
      have hr5 := ((HR4.out.set 0 (.string X)).set 1 (.string lo)).set 2 (.slice a n c)
      have y0 := hr5.cell 0
      have y1 := hr5.cell 1
      have y2 := hr5.cell 2
      refine bodyPost_ret (v := .tuple #[.agg #[.string X, .string lo, .slice a n c], .nilIface]) (by simp [results, Tryz.results69, go_sem, y0, y1, y2]) rfl ?_
      have hs5 : Fr (fun x => x = rb) V (((V.setCell ⟨rb, 0, none⟩ (.string X)).setCell ⟨rb, 1, none⟩ (.string lo)).setCell ⟨rb, 2, none⟩ (.slice a n c)) := (((Fr.refl (fun x => x = rb) V).setCell (p := ⟨rb, 0, none⟩) rfl _).setCell (p := ⟨rb, 1, none⟩) rfl _).setCell (p := ⟨rb, 2, none⟩) rfl _
      refine HFIN.out a n c _ j owe H2.out ((DecW.other (DecW.below H3.out HBV.out) hs5 fun x hx hlt e => ?_).wide (fun k hk => hk.1) HM.out) ?_
      · rcases hx with hx | hx
        · exact hx.2 (by simp [e])
        · omega
      · exact (HF2.out.trans (Fr.below HBV.out (Nat.le_refl _) fun k hk => .inl (HN.out k (Nat.le_trans HF2.out.size hk)))).trans (hs5.mono fun x hx => .inl (hx ▸ hrbM))
    | _ v _ j h1 h2 h3 h4 =>
      have hlt := h2.1
      have hB1 := HB1.out.fr h4 HOUT.out
      have HJ := Lib.hid h1
      have H2 := Lib.hid h2
      have H4 := Lib.hid h3
      have HE2 := Lib.hid (HEV.out.fr h4)
      have HF2 := Lib.hid (HF.out.trans (h4.mono fun y hy => by rcases hy with hy | hy; exact .inl hy.1; exact .inr hy))
      have HC1 := Lib.hid hB1
      clear h1 h2 h3 h4 hB1
      go_wp2_with fail
      obtain ⟨V, hV⟩ : ∃ V, w2.alloc (.cells #[.string ⟨#[]⟩, .string ⟨#[]⟩, .slice none 0 0] 62) = V := ⟨_, rfl⟩
      have hbV : Below w2.heap.size w2 V := by rw [← hV]; exact (Below.refl _ _).alloc (Nat.le_refl _) _
      have HBV := Lib.hid hbV
      rw [hV]
      clear hbV hV
      go_roundg (s.size - j)
      case rel => exact ⟨j, rfl, rfl, H4.out.below HBV.out, H2.out, HE2.out.fr (Fr.below HBV.out (Nat.le_refl _) fun k hk => .inl (DecW.new H4.out k hk)), HF2.out.trans (Fr.below HBV.out (Nat.le_refl _) fun k hk => .inl (DecW.new H4.out k hk).1), (HBV.out.block _ HC1.out.lt).trans HC1.out⟩
      case measure => have := HG.out; have := HJ.out; omega
end Go.Proofs.YtlljphipglgjiaaGreatDoor
