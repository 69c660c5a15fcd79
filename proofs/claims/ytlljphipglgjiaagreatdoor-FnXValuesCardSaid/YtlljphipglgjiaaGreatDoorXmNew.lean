/-
  zxml's NewDecoder over a strings.Reader.
  strings.NewReader.
  zxml's Decoder.text: both theorems as one contract.
  impl.rootOf: a decoder that stands behind the root's start.
  impl.XRoot, impl.XNames on documents that spec.XRead takes.
  spec.XTextOf of an element with no kid, and with one text.
-/
import Derived.Test.YtlljphipglgjiaaGreatDoorXmNsM
import Derived.Test.YtlljphipglgjiaaGreatDoorXmTxQ
import Derived.Test.YtlljphipglgjiaaGreatDoorXmTxN
import Derived.Test.YtlljphipglgjiaaGreatDoorXmRaw2
import Derived.Test.YtlljphipglgjiaaGreatDoorXmNd
import Derived.Test.YtlljphipglgjiaaGreatDoorXmEl3
import Derived.Deep.CutBlock
import Derived.Deep.RegionHeld3
namespace Go.Proofs.YtlljphipglgjiaaGreatDoor
open Go.RowKit Go.Lib

/-- The decoder's cells as NewDecoder makes them, the reader r. -/
def newCells (m : Nat) (r : Value) : Array Value :=
  #[.bool true, .slice none 0 0, .map none, .nilFunc, .string ⟨#[]⟩, .pointer none, .pointer none, .map (some m), .nilIface, r, .slice none 0 0, .int .i64 0, .int .i8 0, .bool false, .string ⟨#[]⟩, .string ⟨#[]⟩, .int .i64 (-1), .nilIface, .int .i64 1, .int .i64 0, .int .i64 0]

theorem assert_reader (a : Addr) (w : World) : (Instr.typeAssert (.iface 120 (.pointer (some a))) 184 195 true).run Tryz.prog w = .ok (.tuple #[.iface 120 (.pointer (some a)), .bool true]) w := by kernel_rfl
set_option maxRecDepth 100000 in
theorem switch_any (w : World) (P m rb : Nat) (h : Blk w P 197 (newCells m .nilIface)) :
    Calls Tryz.prog 116 #[.pointer (some ⟨P, 0, none⟩), .iface 120 (.pointer (some ⟨rb, 0, none⟩))] w fun e w' => e = .returned (.tuple #[]) ∧ ∃ k, (w.setCell ⟨P, 9, none⟩ (.iface 120 (.pointer (some ⟨rb, 0, none⟩)))).drewN k = w' := by
  have c9 := h.cell 9
  have fz := h.frozen
  unfold newCells at c9
  have ha := assert_reader
  clear h
  go_enter Tryz.func116, Tryz.ntmps116
  go_wp2_with fail
  go_end0
  exact ⟨rfl, 0, rfl⟩

theorem Tryz.info197 : (Tryz.prog.info? 197).map (fun i => i.size) = some 21 := by kernel_rfl
set_option maxRecDepth 100000 in
theorem newDecoder_any (M : Nat → Prop) (w : World) (s : ByteArray) (rb : Nat) (pr : Int) (hs : s.size ≤ 1000000) (hr : Blk w rb 190 #[.string s, .int .i64 0, .int .i64 pr]) (hM : M rb) (hN : New M w) :
    Calls Tryz.prog 68 #[.iface 120 (.pointer (some ⟨rb, 0, none⟩))] w fun e w' => e = .returned (.pointer (some ⟨w.heap.size + 1, 0, none⟩)) ∧
      DecM M w' ⟨w.heap.size + 1, rb, none, none, w.heap.size, false, ⟨#[]⟩, ⟨#[]⟩⟩ s 0 true [] [] [] ∧ NsM w' w.heap.size 0 (fun _ => none) ∧ Below w.heap.size w w' := by
  have HR := Lib.hid hr
  have HN := Lib.hid hN
  have HM := Lib.hid hM
  clear hr hN hM
  have hmk : (Instr.makeMap 191 none).run Tryz.prog w = .ok (.map (some w.heap.size)) (w.alloc (.map #[] 0)) := by kernel_rfl
  go_enter Tryz.func68, Tryz.ntmps68
  go_wp2_with fail
  obtain ⟨W, hW⟩ : ∃ W, (w.alloc (.map #[] 0)).alloc (.cells (newCells w.heap.size .nilIface) 197) = W := ⟨_, rfl⟩
  have hbW : Below w.heap.size w W := by rw [← hW]; exact ((Below.refl _ _).alloc (Nat.le_refl _) _).alloc (by simp) _
  have hP : Blk W (w.heap.size + 1) 197 (newCells w.heap.size .nilIface) := by
    have := Blk.new (w.alloc (.map #[] 0)) 197 (newCells w.heap.size .nilIface)
    rw [hW] at this
    simpa using this
  have hmW : NsM W w.heap.size 0 (fun _ => none) := by
    have h1 := (World.ownsMap_made (H := Unit) w Tryz.prog 9 (plainElem Tryz.prog 9)).alloc (.cells (newCells w.heap.size .nilIface) 197)
    rw [hW] at h1
    exact ⟨_, h1, fun _ => rfl⟩
  have HP := Lib.hid hP
  have HMW := Lib.hid hmW
  have HBW := Lib.hid hbW
  have HS := Lib.hid (switch_any W (w.heap.size + 1) w.heap.size rb hP)
  unfold newCells at hW
  have HW := Lib.hid hW
  clear hP hmW hbW hW hmk
  rw [HW.out]
  refine HS.out.mono ?_
  rintro e w2 ⟨rfl, k, hk⟩
  have HK := Lib.hid hk
  clear hk
  go_wp2_with fail
  go_ret
  have hf1 : Fr (fun x => x = w.heap.size + 1) W w2 := by rw [← HK.out]; exact ((Fr.refl (fun x => x = w.heap.size + 1) W).setCell (p := ⟨w.heap.size + 1, 9, none⟩) rfl _).drewN k
  have hrl := HR.out.lt
  have hfw : Fr (fun x => w.heap.size ≤ x) w w2 := (Fr.below HBW.out (Nat.le_refl _) fun _ h => h).trans (hf1.mono fun x hx => by omega)
  have hP2 : Blk w2 (w.heap.size + 1) 197 ((newCells w.heap.size .nilIface).setIfInBounds 9 (.iface 120 (.pointer (some ⟨rb, 0, none⟩)))) := by rw [← HK.out]; exact (HP.out.set 9 _).drewN k
  refine ⟨rfl, ⟨⟨HN.out _ (Nat.le_succ _), HM.out, fun x hx => HN.out x (Nat.le_trans hfw.size hx), hs, by simp, .slice none 0 0, ⟨0, -1, 0, pr, 1, 0, 0, hP2.eq rfl, HR.out.fr hfw (Nat.not_le.2 hrl), .inl ⟨rfl, rfl, rfl, Nat.zero_le _⟩⟩, BufH.nil _, fun g hg => by cases hg⟩, rfl, rfl, by simp, fun b hb => by simp at hb⟩,
    HMW.out.fr hf1 (by omega), hfw.toBelow fun _ h => h⟩
end Go.Proofs.YtlljphipglgjiaaGreatDoor

namespace Go.Proofs.YtlljphipglgjiaaGreatDoor
open Go.RowKit Go.Lib

set_option maxRecDepth 100000 in
theorem newReader_any (w : World) (s : ByteArray) : Calls Tryz.prog 67 #[.string s] w fun e w' => e = .returned (.pointer (some ⟨w.heap.size, 0, none⟩)) ∧ w.alloc (.cells #[.string s, .int .i64 0, .int .i64 (-1)] 190) = w' := by
  go_enter Tryz.func67, Tryz.ntmps67
  go_wp2_with fail
  go_ret
  exact ⟨rfl, rfl⟩
end Go.Proofs.YtlljphipglgjiaaGreatDoor

namespace Go.Proofs.YtlljphipglgjiaaGreatDoor
open Go.RowKit Go.Lib

theorem text_all (s : ByteArray) : TextAll s := by
  intro L q qv je fe j M w i f bs v r hmode h hT hT4 hP hG hj hjs hv
  rcases hmode with ⟨rfl, rfl, rfl, rfl⟩ | ⟨hq, rfl, rfl, rfl⟩
  · exact textN_any _ M w L s i f bs v r h hT hT4 hP hG hj hjs hv
  · exact textQ_any q j M w L s i f bs v r hq h hT hT4 hP hG hj hjs hv
end Go.Proofs.YtlljphipglgjiaaGreatDoor

namespace Go.Proofs.YtlljphipglgjiaaGreatDoor
open Go.RowKit Go.Lib

theorem LowB.noMap {M : Nat → Prop} {w : World} {L : LS} {s : ByteArray} {i : Nat} {f : Bool} {bs : List UInt8} {m n : Nat} {F : NsF} (h : LowB M w L s i f bs) (hns : NsM w m n F) : LowB (Sans M [m]) w L s i f bs := by
  obtain ⟨h1, h2, h3, h4, h5, buf, ⟨lr, nb, ri, pr, line, ls, off, q1, q2, q3⟩, hB, hM⟩ := h
  refine ⟨⟨h1, fun hm => ?_⟩, ⟨h2, fun hm => ?_⟩, fun k hk => ⟨h3 k hk, fun hm => ?_⟩, h4, h5, buf, ⟨lr, nb, ri, pr, line, ls, off, q1, q2, q3⟩, hB, fun g hg => ⟨⟨(hM g hg).1, fun hm => ?_⟩, (hM g hg).2⟩⟩
  · rw [List.mem_singleton] at hm
    exact hns.not_blk q1 hm.symm
  · rw [List.mem_singleton] at hm
    exact hns.not_blk q2 hm.symm
  · rw [List.mem_singleton] at hm
    have := hns.lt
    omega
  · rw [List.mem_singleton] at hm
    rcases hB.cases with ⟨rfl, _⟩ | ⟨g', cap, cur, rfl, hg', _⟩
    · cases hg
    · cases hg
      exact hns.not_blk hg' hm.symm
theorem DecM.noMap {M : Nat → Prop} {w : World} {L : LS} {s : ByteArray} {i : Nat} {f : Bool} {bs : List UInt8} {st fl : List (Nat × SRec)} {m n : Nat} {F : NsF} (h : DecM M w L s i f bs st fl) (hns : NsM w m n F) : DecM (Sans M [m]) w L s i f bs st fl := by
  obtain ⟨h1, h2, h3, h4, h5⟩ := h
  refine ⟨h1.noMap hns, h2, h3, h4, fun b hb => ⟨⟨(h5 b hb).1, fun hm => ?_⟩, (h5 b hb).2⟩⟩
  rw [List.mem_singleton] at hm
  have hc : ∃ cs, Blk w b 200 cs := by
    rcases List.mem_append.1 hb with hb | hb
    · exact h2.blk _ hb
    · exact h3.blk _ hb
  obtain ⟨cs, hc⟩ := hc
  exact hns.not_blk hc hm.symm

/-- No name spaces. -/
def nF : NsF := fun _ => none
/-- A document that spec.XRead takes: its root. -/
def DocOk (s : ByteArray) (nm : List UInt8) (av : List AttrS) (ks : List XEl) (rest : List UInt8) : Prop :=
  ∃ t t2 r1 em, RootIn s 0 t ∧ t = nm ++ t2 ∧ GoodN nm ∧ AttrsR t2 av em r1 ∧ ((em = true ∧ ks = [] ∧ rest = r1) ∨ (em = false ∧ Cont r1 nm ks rest))
theorem doc_ok {s : ByteArray} {e : XEl} (h : xreadL s.data.toList = some e) : ∃ nm av ks rest, e = .mk nm av [] ks ∧ DocOk s nm av ks rest := by
  obtain ⟨l2, t, nm, av, em, t2, r1, ks, r, h1, h2, h3, h4, h5, h6, h7⟩ := xread_doc h
  refine ⟨nm, av, ks, if em then r1 else r, h6, t, t2, r1, em, ⟨Nat.zero_le _, ?_⟩, h3, h4, h5, ?_⟩
  · rcases h1 with h1 | h1
    · exact .inl ⟨l2, h1, h2⟩
    · exact .inr (by rw [List.drop_zero, h1]; exact h2)
  · rcases h7 with ⟨rfl, rfl⟩ | ⟨rfl, h7⟩
    · exact .inl ⟨rfl, rfl, rfl⟩
    · exact .inr ⟨rfl, h7⟩

/-- A decoder behind a root's start; all it has is new. -/
def RootW (w w' : World) (P m : Nat) (M : Nat → Prop) (s : ByteArray) (nm : List UInt8) (av : List AttrS) (ks : List XEl) (rest : List UInt8) : Prop :=
  (∃ (j : Nat) (owe : Option (ByteArray × ByteArray)), Inside s j owe nm ks rest ∧ DecV M w' P m s j owe [frOf nm nF] (nsAll nF av)) ∧ Env M m w' ∧ (∀ x, M x → w.heap.size ≤ x) ∧ w.heap.size ≤ m ∧ Below w.heap.size w w'

set_option maxRecDepth 100000 in
set_option maxHeartbeats 8000000 in
theorem rootOf_any (s : ByteArray) (w : World) (nm : List UInt8) (av : List AttrS) (ks : List XEl) (rest : List UInt8) (hs : s.size ≤ 1000000) (hT : Utf8Tabs 4 5 w) (h5 : 5 < w.heap.size) (hD : DocOk s nm av ks rest) :
    Calls Tryz.prog 31 #[.string s] w fun e w' => ∃ (P m : Nat) (M : Nat → Prop) (a : Option Addr) (n c : Nat), e = .returned (.tuple #[.pointer (some ⟨P, 0, none⟩), .agg #[.string (xlate (nsAll nF av) true (bst (halvesL nm).1) (bst (halvesL nm).2)), .string (bst (halvesL nm).2), .slice a n c], .bool true]) ∧ RootW w w' P m M s nm av ks rest := by
  obtain ⟨X, hX⟩ : ∃ X, xlate (nsAll nF av) true (bst (halvesL nm).1) (bst (halvesL nm).2) = X := ⟨_, rfl⟩
  obtain ⟨lo, hlo⟩ : ∃ X, bst (halvesL nm).2 = X := ⟨_, rfl⟩
  rw [hX, hlo]
  obtain ⟨post, hpost⟩ : ∃ post : Ending → World → Prop, (fun e w' => ∃ (P m : Nat) (M : Nat → Prop) (a : Option Addr) (n c : Nat), e = .returned (.tuple #[.pointer (some ⟨P, 0, none⟩), .agg #[.string X, .string lo, .slice a n c], .bool true]) ∧ RootW w w' P m M s nm av ks rest) = post := ⟨_, rfl⟩
  have hfin : ∀ (P m : Nat) (M : Nat → Prop) (a : Option Addr) (n c : Nat) (w' : World), RootW w w' P m M s nm av ks rest → post (.returned (.tuple #[.pointer (some ⟨P, 0, none⟩), .agg #[.string X, .string lo, .slice a n c], .bool true])) w' := by
    intro P m M a n c w' h1
    rw [← hpost]
    exact ⟨P, m, M, a, n, c, rfl, h1⟩
  rw [hpost]
  have HFIN := Lib.hid hfin
  have HT := Lib.hid hT
  have HD := Lib.hid hD
  have HX := Lib.hid hX
  have HLO := Lib.hid hlo
  obtain ⟨cb, hcb⟩ : ∃ cb, w.heap.size = cb := ⟨_, rfl⟩
  obtain ⟨W1, hW1⟩ : ∃ W, w.alloc (.cells #[.string ⟨#[]⟩, .string ⟨#[]⟩, .slice none 0 0] 62) = W := ⟨_, rfl⟩
  have hs1 : W1.heap.size = cb + 1 := by rw [← hW1, ← hcb]; simp
  have hb1 : Below w.heap.size w W1 := by rw [← hW1]; exact (Below.refl _ _).alloc (Nat.le_refl _) _
  have hk1 : Blk W1 cb 62 #[.string ⟨#[]⟩, .string ⟨#[]⟩, .slice none 0 0] := by rw [← hW1, ← hcb]; exact Blk.new _ _ _
  have HW1 := Lib.hid hW1
  have HB1 := Lib.hid hb1
  have HK1 := Lib.hid hk1
  clear hpost hfin hT hD hX hlo hW1 hb1 hk1
  go_enter Tryz.func31, Tryz.ntmps31
  go_wp2_with fail
  rw [HW1.out]
  refine (newReader_any W1 s).mono ?_
  rintro e w2 ⟨rfl, hw2⟩
  have hb2 : Below W1.heap.size W1 w2 := by rw [← hw2]; exact (Below.refl _ _).alloc (Nat.le_refl _) _
  have hs2 : w2.heap.size = cb + 2 := by rw [← hw2]; simp; omega
  have hr2 : Blk w2 (cb + 1) 190 #[.string s, .int .i64 0, .int .i64 (-1)] := by rw [← hw2, ← hs1]; exact Blk.new _ _ _
  have hnd := newDecoder_any (fun x => cb ≤ x) w2 s (cb + 1) (-1) hs hr2 (Nat.le_succ _) (fun k hk => by rw [hs2] at hk; show cb ≤ k; omega)
  rw [hs2] at hnd
  have HND := Lib.hid hnd
  have HB2 := Lib.hid hb2
  have hk2 : Blk w2 cb 62 #[.string ⟨#[]⟩, .string ⟨#[]⟩, .slice none 0 0] := (hb2.block _ HK1.out.lt).trans HK1.out
  have HK2 := Lib.hid hk2
  clear hb2 hr2 hnd hk2 hw2
  rw [hs1]
  go_wp2_with fail
  refine HND.out.mono ?_
  rintro e w3 ⟨rfl, hd3, hns3, hb3⟩
  have hk3 : Blk w3 cb 62 #[.string ⟨#[]⟩, .string ⟨#[]⟩, .slice none 0 0] := (hb3.block _ (by omega)).trans HK2.out
  have hbw3 : Below w.heap.size w w3 := (HB1.out.trans (HB2.out.mono HB1.out.size)).trans (hb3.mono (by omega))
  have hX0 : KnownD [(cb, 62, #[.string ⟨#[]⟩, .string ⟨#[]⟩, .slice none 0 0])] w3 := fun x hx => by
    simp only [List.mem_cons, List.not_mem_nil, or_false] at hx
    subst hx
    exact ⟨hk3, (by decide : (62 : TypeId) ≠ 197 ∧ (62 : TypeId) ≠ 190 ∧ (62 : TypeId) ≠ 5 ∧ (62 : TypeId) ≠ 200)⟩
  have hT3 : Utf8Tabs 4 5 w3 := utf8_fr (M := fun x => w.heap.size ≤ x) HT.out (Fr.below hbw3 (Nat.le_refl _) (fun _ h => h)) ⟨by omega, by omega⟩
  have hdv : DecV (Sans (Sans (fun x => cb ≤ x) [cb + 2]) [cb]) w3 (cb + 2 + 1) (cb + 2) s 0 none [] nF :=
    DecW.sans (X := [(cb, 62, #[.string ⟨#[]⟩, .string ⟨#[]⟩, .slice none 0 0])]) (by
      refine ⟨_, true, [], [], [], 0, rfl, rfl, rfl, (fun p hp => nomatch hp), hd3.noMap hns3, hns3, fun h => h.2 (by simp), (fun p hp => by cases hp), rfl, Nat.le_refl _⟩) hX0
  obtain ⟨M, hMe⟩ : ∃ M : Nat → Prop, Sans (Sans (fun x => cb ≤ x) [cb + 2]) [cb] = M := ⟨_, rfl⟩
  have hM1 : ∀ x, M x → cb ≤ x := by intro x hx; rw [← hMe] at hx; exact hx.1.1
  have hMc : ¬ M cb := by intro hx; rw [← hMe] at hx; exact hx.2 (by simp)
  rw [hMe] at hdv
  have hE3 : Env M (cb + 2) w3 := ⟨hT3, ⟨fun h => by have := hM1 4 h; omega, fun h => by have := hM1 5 h; omega⟩, by omega, by omega⟩
  obtain ⟨t, t2, r1, em, d1, d2, d3, d4, d5⟩ := HD.out
  have hft := fetch_any (M := M) w3 (text_all s) hdv hE3 d1 d2 d3 d4 d5
  rw [HX.out, HLO.out] at hft
  have HFT := Lib.hid hft
  have HE3 := Lib.hid hE3
  have HK3 := Lib.hid hk3
  have HBW3 := Lib.hid hbw3
  clear hd3 hns3 hb3 hk3 hX0 hT3 hdv hE3 d1 d2 d3 d4 d5 hft hMe HND HK2 HB2 HK1 HB1
  go_wp2_with fail
  refine HFT.out.mono ?_
  rintro e w4 ⟨a, n, c, rfl, ⟨j, owe, g1, g2⟩, g3⟩
  have hk4 : Blk w4 cb 62 #[.string ⟨#[]⟩, .string ⟨#[]⟩, .slice none 0 0] := HK3.out.fr g3 (fun h => by rcases h with h | h; exact hMc h; omega)
  have G1 := Lib.hid g1
  have G2 := Lib.hid g2
  have hbw4 : Below w.heap.size w w4 := HBW3.out.trans (Fr.toBelow g3 (fun x hx => by
    rcases hx with hx | hx
    · rw [hcb]; exact hM1 x hx
    · omega))
  have hE4 := HE3.out.fr g3
  have HK4 := Lib.hid hk4
  have HBW4 := Lib.hid hbw4
  have HE4 := Lib.hid hE4
  clear g1 g2 g3 hk4 hbw4 hE4 HFT HE3 HK3 HBW3
  have hbV : Below w4.heap.size w4 (w4.alloc (.cells #[.string X, .string lo, .slice a n c] 62)) := (Below.refl _ _).alloc (Nat.le_refl _) _
  have hs0 := Blk.new w4 62 #[.string X, .string lo, .slice a n c]
  obtain ⟨V, hV⟩ : ∃ V, w4.alloc (.cells #[.string X, .string lo, .slice a n c] 62) = V := ⟨_, rfl⟩
  rw [hV] at hbV hs0
  have hkV : Blk V cb 62 #[.string ⟨#[]⟩, .string ⟨#[]⟩, .slice none 0 0] := (hbV.block _ HK4.out.lt).trans HK4.out
  have hcV : cb ≠ w4.heap.size := by have := HK4.out.lt; omega
  have HV := Lib.hid hV
  have HBV := Lib.hid hbV
  have HKV := Lib.hid hkV
  have HS0 := Lib.hid hs0
  clear hV hbV hs0 hkV HK4
  go_upto_region 3 with fail
  rw [HV.out]
  have k0 := HS0.out.cell 0
  have k1 := HS0.out.cell 1
  have k2 := HS0.out.cell 2
  have r0 := HKV.out.cell 0
  have r1 := HKV.out.cell 1
  have r2 := HKV.out.cell 2
  have rf := HKV.out.frozen
  go_region
  go_wp2_with fail
  have z0 := (HKV.out.set 0 (.string X)).cell 0
  have z1 := ((HKV.out.set 0 (.string X)).set 1 (.string lo)).cell 1
  have z2 := (((HKV.out.set 0 (.string X)).set 1 (.string lo)).set 2 (.slice a n c)).cell 2
  have hs5 : Fr (fun x => x = cb) V (((V.setCell ⟨cb, 0, none⟩ (.string X)).setCell ⟨cb, 1, none⟩ (.string lo)).setCell ⟨cb, 2, none⟩ (.slice a n c)).drew := ((((Fr.refl (fun x => x = cb) V)).setCell (p := ⟨cb, 0, none⟩) rfl _).setCell (p := ⟨cb, 1, none⟩) rfl _).setCell (p := ⟨cb, 2, none⟩) rfl _ |>.drew
  have hbf : Below w.heap.size w (((V.setCell ⟨cb, 0, none⟩ (.string X)).setCell ⟨cb, 1, none⟩ (.string lo)).setCell ⟨cb, 2, none⟩ (.slice a n c)).drew := (HBW4.out.trans (HBV.out.mono HBW4.out.size)).trans (hs5.toBelow fun x hx => by rw [hx]; omega)
  refine bodyPost_ret (v := .tuple #[.pointer (some ⟨cb + 2 + 1, 0, none⟩), .agg #[.string X, .string lo, .slice a n c], .bool true]) (by simp [results, Tryz.results31, go_sem, z0, z1, z2]) rfl (HFIN.out (cb + 2 + 1) (cb + 2) M a n c _ ⟨⟨j, owe, G1.out, DecW.other (DecW.below G2.out HBV.out) hs5 fun x hx hlt e => ?_⟩, ⟨?_, HE4.out.m4, HE4.out.n4⟩, fun x hx => by rw [hcb]; exact hM1 x hx, by omega, hbf⟩)
  · rcases hx with hx | hx
    · exact hMc (e ▸ hx)
    · omega
  · exact utf8_fr (M := fun x => w.heap.size ≤ x) HT.out (Fr.below hbf (Nat.le_refl _) (fun _ h => h)) ⟨by omega, by omega⟩
end Go.Proofs.YtlljphipglgjiaaGreatDoor

namespace Go.Proofs.YtlljphipglgjiaaGreatDoor
open Go.RowKit Go.Lib

set_option maxRecDepth 100000 in
theorem xroot_any (s : ByteArray) (w : World) (nm : List UInt8) (av : List AttrS) (ks : List XEl) (rest : List UInt8) (hs : s.size ≤ 1000000) (hT : Utf8Tabs 4 5 w) (h5 : 5 < w.heap.size) (hD : DocOk s nm av ks rest) :
    Calls Tryz.prog 15 #[.string s] w fun e w' => e = .returned (.tuple #[.string (bst (halvesL nm).2), .bool true]) ∧ Below w.heap.size w w' := by
  obtain ⟨lo, hlo⟩ : ∃ X, bst (halvesL nm).2 = X := ⟨_, rfl⟩
  have hr := rootOf_any s w nm av ks rest hs hT h5 hD
  rw [hlo] at hr ⊢
  have HR := Lib.hid hr
  clear hr hlo hD hT
  go_enter Tryz.func15, Tryz.ntmps15
  go_wp2_with fail
  refine HR.out.mono ?_
  rintro e w1 ⟨P, m, M, a, n, c, rfl, _, _, _, _, hb⟩
  have HB := Lib.hid hb
  clear hb
  obtain ⟨X, hX⟩ : ∃ X, xlate (nsAll nF av) true (bst (halvesL nm).1) lo = X := ⟨_, rfl⟩
  rw [hX]
  have hk := Blk.new w1 62 #[.string X, .string lo, .slice a n c]
  have k0 := hk.cell 0
  have k1 := hk.cell 1
  have k2 := hk.cell 2
  clear hk hX
  go_wp2_with fail
  go_ret2
  exact ⟨rfl, HB.out.trans (((Below.refl w1.heap.size w1).alloc (Nat.le_refl _) _).mono HB.out.size)⟩

theorem Tryz.info9 : (Tryz.prog.info? 9).map (fun i => (i.zero, i.size, i.bytes)) = some (some (.string ⟨#[]⟩), 1, 16) := by kernel_rfl
/-- A row of strings that the call itself has made. -/
def RowStr (v : Value) (names : List ByteArray) (X : Known) : Prop :=
  (v = .slice none 0 0 ∧ names = [] ∧ X = []) ∨ ∃ (g cap : Nat) (cur : Array Value), v = .slice (some ⟨g, 0, none⟩) names.length cap ∧ X = [(g, 9, cur)] ∧ names.length ≤ cap ∧ cap ≤ maxLen ∧ cur.size = cap * 1 ∧ cur.toList.take (names.length * 1) = names.map Value.string
theorem RowStr.owns {w : World} {v : Value} {names : List ByteArray} {X : Known} (h : RowStr v names X) (hX : ∀ x ∈ X, Blk w x.1 x.2.1 x.2.2) : w.ownsRow 0 9 1 v names.length (names.map Value.string) := by
  rcases h with ⟨rfl, rfl, rfl⟩ | ⟨g, cap, cur, rfl, rfl, h1, h2, h3, h4⟩
  · exact ⟨rfl, .inl ⟨rfl, rfl⟩⟩
  · exact ⟨by simp, .inr ⟨g, cap, cur, rfl, Nat.zero_le _, hX (g, 9, cur) (by simp), h1, h2, h3, h4⟩⟩
theorem RowStr.blocks {v : Value} {names : List ByteArray} {X : Known} (h : RowStr v names X) : ∀ g, v.ownBlock = some g ↔ g ∈ X.map (·.1) := by
  intro g
  rcases h with ⟨rfl, rfl, rfl⟩ | ⟨g', cap, cur, rfl, rfl, _⟩
  · simp [Value.ownBlock]
  · simp [Value.ownBlock, eq_comm]
/-- The decoder within the root, the node's block, the names so far. -/
structure NmSt (M : Nat → Prop) (w wr : World) (P m : Nat) (s : ByteArray) (i : Nat) (owe : Option (ByteArray × ByteArray)) (fr : List Fram) (F : NsF) (nb : Nat) (cs : Array Value) (v : Value) (names : List ByteArray) (X : Known) : Prop where
  dec : DecV M wr P m s i owe fr F
  env : Env M m wr
  ok : KnownD ((nb, 66, cs) :: X) wr
  row : RowStr v names X
  bel : Below w.heap.size w wr
  xb : ∀ x ∈ X.map (·.1), w.heap.size ≤ x ∧ x ≠ nb
section
variable {M : Nat → Prop} {w wr w2 : World} {P m : Nat} {s : ByteArray} {i j : Nat} {owe owe2 : Option (ByteArray × ByteArray)} {fr fr2 : List Fram} {F F2 : NsF} {nb : Nat} {cs : Array Value} {v : Value} {names : List ByteArray} {X : Known}
theorem NmSt.decS (h : NmSt M w wr P m s i owe fr F nb cs v names X) : DecV (Sans M (nb :: X.map (·.1))) wr P m s i owe fr F := DecW.sans h.dec h.ok
theorem NmSt.mlt (h : NmSt M w wr P m s i owe fr F nb cs v names X) : m < wr.heap.size := by
  obtain ⟨L, f, bs, st, fl, n, _, _, _, _, _, hns, _⟩ := h.dec
  exact hns.lt
theorem NmSt.mne (h : NmSt M w wr P m s i owe fr F nb cs v names X) : ∀ x ∈ nb :: X.map (·.1), m ≠ x := by
  intro x hx
  obtain ⟨L, f, bs, st, fl, n, _, _, _, _, _, hns, _⟩ := h.dec
  have : x ∈ ((nb, 66, cs) :: X : Known).map (·.1) := hx
  obtain ⟨y, hy, rfl⟩ := List.mem_map.1 this
  exact hns.not_blk (h.ok y hy).1
/-- Behind a callee that works on the decoder. -/
theorem NmSt.after (h : NmSt M w wr P m s i owe fr F nb cs v names X) (h2 : DecV (Sans M (nb :: X.map (·.1))) w2 P m s j owe2 fr2 F2) (hf : Fr (fun y => Sans M (nb :: X.map (·.1)) y ∨ y = m) wr w2) (hMw : ∀ x, M x → w.heap.size ≤ x) (hmw : w.heap.size ≤ m) : NmSt M w w2 P m s j owe2 fr2 F2 nb cs v names X :=
  ⟨DecW.wide h2 (fun k hk => hk.1) (DecW.notM h.dec), h.env.fr (hf.mono fun y hy => by rcases hy with hy | hy; exact .inl hy.1; exact .inr hy), h.ok.fr hf (fun x hx e => by
    rcases e with e | e
    · exact e.2 hx
    · exact h.mne x hx e.symm), h.row, h.bel.trans (hf.toBelow fun x hx => by rcases hx with hx | hx; exact hMw x hx.1; rw [hx]; exact hmw), h.xb⟩
theorem NmSt.wid (h : NmSt M w wr P m s i owe fr F nb cs v names X) (hb : Below wr.heap.size wr w2) : NmSt M w w2 P m s i owe fr F nb cs v names X := by
  have hf : Fr (fun x => wr.heap.size ≤ x) wr w2 := Fr.below hb (Nat.le_refl _) fun _ h => h
  exact ⟨DecW.below h.dec hb, h.env.fr (hf.mono fun y hy => .inl (DecW.new h.dec y hy)), h.ok.fr hf (fun x hx => Nat.not_le.2 (by
    obtain ⟨y, hy, rfl⟩ := List.mem_map.1 hx
    exact (h.ok y hy).1.lt)), h.row, h.bel.trans (hb.mono h.bel.size), h.xb⟩
/-- One name more. -/
theorem NmSt.snoc (h : NmSt M w wr P m s i owe fr F nb cs v names X) {x : ByteArray} {v2 : Value} (hown : w2.ownsRow 0 9 1 v2 (names.length + 1) (names.map Value.string ++ [.string x])) (hg : wr.grownBy w2 v.ownBlock) (hat : RowAt wr v v2) (h5 : 5 < w.heap.size) :
    ∃ X2, NmSt M w w2 P m s i owe fr F nb cs v2 (names ++ [x]) X2 := by
  obtain ⟨hlen, ⟨_, h0⟩ | ⟨g2, cap2, cur2, rfl, _, hb2, k1, k2, k3, k4⟩⟩ := hown
  · omega
  have hf : Fr (fun y => wr.heap.size ≤ y ∨ v.ownBlock = some y) wr w2 :=
    ⟨hg.os, hg.tape, hg.output, hg.size, fun k hk => by
      rcases Nat.lt_or_ge k wr.heap.size with h1 | h1
      · exact hg.block k h1 fun e => hk (.inr e.symm)
      · exact absurd (.inl h1) hk⟩
  have hnbk := h.ok (nb, 66, cs) (by simp)
  have hbl := h.row.blocks
  have hrow : ∀ y, v.ownBlock = some y → y ∈ X.map (·.1) := fun y hy => (hbl y).1 hy
  have hal : (names ++ [x]).length = names.length + 1 := by simp
  have hg2 : w.heap.size ≤ g2 ∧ g2 ≠ nb := by
    rcases hat with e | ⟨g3, e, hge⟩
    · exact h.xb g2 (hrow g2 e.symm)
    · have e1 : g2 = g3 := Option.some.inj e
      have := h.bel.size
      have := hnbk.1.lt
      dsimp only at this
      rw [e1]
      exact ⟨by omega, by omega⟩
  refine ⟨[(g2, 9, cur2)], ?_, ?_, ?_, .inr ⟨g2, cap2, cur2, by rw [hal], rfl, by rw [hal]; exact k1, k2, k3, by rw [hal, k4]; simp⟩, ?_, ?_⟩
  · exact DecW.wide (DecW.other h.decS hf fun y hy hlt e => by
      rcases e with e | e
      · omega
      · have := hrow y e
        rcases hy with hy | hy
        · exact hy.2 (by simp [this])
        · exact h.mne y (by simp [this]) hy.symm) (fun k hk => hk.1) (DecW.notM h.dec)
  · refine ⟨utf8_fr h.env.tabs hf ⟨fun e => ?_, fun e => ?_⟩, h.env.m4, h.env.n4⟩
    · rcases e with e | e
      · exact h.env.m4.1 (DecW.new h.dec 4 e)
      · have := (h.xb 4 (hrow 4 e)).1
        omega
    · rcases e with e | e
      · exact h.env.m4.2 (DecW.new h.dec 5 e)
      · have := (h.xb 5 (hrow 5 e)).1
        omega
  · intro y hy
    simp only [List.mem_cons, List.not_mem_nil, or_false] at hy
    rcases hy with rfl | rfl
    · refine ⟨hnbk.1.fr hf (fun e => ?_), hnbk.2⟩
      rcases e with e | e
      · have := hnbk.1.lt; dsimp only at this e; omega
      · exact (h.xb nb (hrow nb e)).2 rfl
    · exact ⟨hb2, (by decide : (9 : TypeId) ≠ 197 ∧ (9 : TypeId) ≠ 190 ∧ (9 : TypeId) ≠ 5 ∧ (9 : TypeId) ≠ 200)⟩
  · exact h.bel.trans (hf.toBelow fun y hy => by
      rcases hy with hy | hy
      · exact Nat.le_trans h.bel.size hy
      · exact (h.xb y (hrow y hy)).1)
  · intro y hy
    simp only [List.map_cons, List.map_nil, List.mem_singleton] at hy
    rw [hy]
    exact hg2
end

def localsOf (ks : List XEl) : List ByteArray := (elemsOf ks).map fun e => bst (halvesL e.name).2
set_option maxRecDepth 100000 in
set_option maxHeartbeats 8000000 in
theorem names_any (s : ByteArray) (w : World) (nm : List UInt8) (av : List AttrS) (ks : List XEl) (rest : List UInt8) (hs : s.size ≤ 1000000) (hT : Utf8Tabs 4 5 w) (h5 : 5 < w.heap.size) (hD : DocOk s nm av ks rest) :
    Calls Tryz.prog 13 #[.string s] w fun e w' => ∃ v, e = .returned (.tuple #[v, .bool true]) ∧ (w'.ownsRow 0 9 1 v (localsOf ks).length ((localsOf ks).map Value.string) ∧ (∀ g, v.ownBlock = some g → w.heap.size ≤ g) ∧ Below w.heap.size w w') := by
  obtain ⟨post, hpost⟩ : ∃ post : Ending → World → Prop, (fun e w' => ∃ v, e = .returned (.tuple #[v, .bool true]) ∧ (w'.ownsRow 0 9 1 v (localsOf ks).length ((localsOf ks).map Value.string) ∧ (∀ g, v.ownBlock = some g → w.heap.size ≤ g) ∧ Below w.heap.size w w')) = post := ⟨_, rfl⟩
  have hfin : ∀ (v : Value) (w' : World), w'.ownsRow 0 9 1 v (localsOf ks).length ((localsOf ks).map Value.string) → (∀ g, v.ownBlock = some g → w.heap.size ≤ g) → Below w.heap.size w w' → post (.returned (.tuple #[v, .bool true])) w' := by
    intro v w' h1 h2 h3
    rw [← hpost]
    exact ⟨v, rfl, h1, h2, h3⟩
  have hr := rootOf_any s w nm av ks rest hs hT h5 hD
  obtain ⟨lo, hlo⟩ : ∃ X, bst (halvesL nm).2 = X := ⟨_, rfl⟩
  obtain ⟨X, hX⟩ : ∃ X, xlate (nsAll nF av) true (bst (halvesL nm).1) (bst (halvesL nm).2) = X := ⟨_, rfl⟩
  rw [hX, hlo] at hr
  rw [hpost]
  obtain ⟨i9, hi9, hz9a, hz9b, hz9c⟩ := info_parts Tryz.info9
  have HFIN := Lib.hid hfin
  have HR := Lib.hid hr
  have HX := Lib.hid hX
  have HLO := Lib.hid hlo
  clear hr hfin hpost hX hlo hD hT
  go_enter Tryz.func13, Tryz.ntmps13
  go_wp2_with fail
  refine HR.out.mono ?_
  rintro e w1 ⟨P, m, M, a, n, c, rfl, ⟨j0, owe0, hI0, hD0⟩, hE0, hMw, hmw, hb⟩
  have hk := Blk.new w1 62 #[.string X, .string lo, .slice a n c]
  have k0 := hk.cell 0
  have k1 := hk.cell 1
  have k2 := hk.cell 2
  have HWR := Lib.hid (wrap_any (w1.alloc (.cells #[.string X, .string lo, .slice a n c] 62)) P X lo a n c)
  have HI0 := Lib.hid hI0
  have HD0 := Lib.hid hD0
  have HE0 := Lib.hid hE0
  have HMW := Lib.hid hMw
  have HB := Lib.hid hb
  clear hk hI0 hD0 hE0 hMw hb
  go_wp2_with fail
  refine HWR.out.mono ?_
  rintro e w2 ⟨rfl, hb2⟩
  have hb12 : Below w1.heap.size w1 w2 := ((Below.refl w1.heap.size w1).alloc (Nat.le_refl _) _).trans (hb2.mono (by simp))
  have hst0 : NmSt M w (w2.alloc (.cells #[.pointer (some ⟨P, 0, none⟩), .string X, .string lo, .slice a n c] 66)) P m s j0 owe0 [frOf nm nF] (nsAll nF av) w2.heap.size #[.pointer (some ⟨P, 0, none⟩), .string X, .string lo, .slice a n c] (.slice none 0 0) [] [] := by
    have hbb : Below w1.heap.size w1 (w2.alloc (.cells #[.pointer (some ⟨P, 0, none⟩), .string X, .string lo, .slice a n c] 66)) := hb12.alloc hb12.size _
    refine ⟨DecW.below HD0.out hbb, HE0.out.fr (Fr.below hbb (Nat.le_refl _) fun k hk => .inl (DecW.new HD0.out k hk)), fun x hx => ?_, .inl ⟨rfl, rfl, rfl⟩, HB.out.trans (hbb.mono HB.out.size), fun x hx => by simp at hx⟩
    simp only [List.mem_cons, List.not_mem_nil, or_false] at hx
    subst hx
    exact ⟨Blk.new w2 66 _, (by decide : (66 : TypeId) ≠ 197 ∧ (66 : TypeId) ≠ 190 ∧ (66 : TypeId) ≠ 5 ∧ (66 : TypeId) ≠ 200)⟩
  obtain ⟨nb, hnb⟩ : ∃ nb, w2.heap.size = nb := ⟨_, rfl⟩
  obtain ⟨W, hW⟩ : ∃ W, w2.alloc (.cells #[.pointer (some ⟨P, 0, none⟩), .string X, .string lo, .slice a n c] 66) = W := ⟨_, rfl⟩
  rw [hnb, hW] at hst0
  have HST0 := Lib.hid hst0
  have HW := Lib.hid hW
  clear hst0 hb12 hb2 hW HWR HD0 HE0 k0 k1 k2
  go_wp2_with fail
  rw [HW.out]
  try rw [hnb]
  go_loopg [2, 3, 8] (s.size - j0) (fun g r2 r3 ov wr => ∃ (i : Nat) (owe : Option (ByteArray × ByteArray)) (kk : List XEl) (names : List ByteArray) (ap : Option Addr) (an ac : Nat) (Y : Known), g = s.size - i ∧ r2 = .slice none 0 0 ∧ r3 = .bool false ∧ ov = .slice ap an ac ∧
    NmSt M w wr P m s i owe [frOf nm nF] (nsAll nF av) nb #[.pointer (some ⟨P, 0, none⟩), .string X, .string lo, .slice a n c] (.slice ap an ac) names Y ∧ Inside s i owe nm kk rest ∧ Hid (names ++ localsOf kk = localsOf ks) ∧ names.length ≤ i)
  case atStart => exact ⟨j0, owe0, ks, [], none, 0, 0, [], rfl, rfl, rfl, rfl, HST0.out, HI0.out, Lib.hid rfl, Nat.zero_le _⟩
  case round =>
    obtain ⟨i, owe, kk, names, ap, an, ac, Y, hg, rfl, rfl, rfl, hst, hin, HNM, hnl⟩ := hrel
    have HG := Lib.hid hg
    have HS := Lib.hid hst
    have HIN := Lib.hid hin
    have hil := hin.1
    have hnk := (hst.ok (nb, 66, #[.pointer (some ⟨P, 0, none⟩), .string X, .string lo, .slice a n c]) (by simp)).1
    have nc0 := hnk.cell 0
    have nc1 := hnk.cell 1
    have nc2 := hnk.cell 2
    have nc3 := hnk.cell 3
    have HTK := Lib.hid (node_tok (w := wr) X lo a n c (text_all s) hst.decS hin (hst.env.sans _) HX.out.symm HLO.out.symm)
    clear hg hst hin hnk HST0
    go_wp2_with fail
    refine HTK.out.mono ?_
    intro e w3 hk
    generalize hEl : elemsOf kk = E at hk
    cases hk with
    | done _ h1 h2 =>
      obtain ⟨j, h3, h4, h6, h7⟩ := h1
      have hst3 := HS.out.after h7 h2 HMW.out hmw
      have hall : names = localsOf ks := by
        have e : localsOf kk = [] := by
          unfold localsOf
          rw [hEl]
          rfl
        have := HNM.out
        rw [e, List.append_nil] at this
        exact this
      have hst4 := hst3.wid ((Below.refl w3.heap.size w3).alloc (Nat.le_refl _) (.cells #[.string ⟨#[]⟩, .string ⟨#[]⟩, .slice none 0 0] 62))
      have HP := Lib.hid (HFIN.out (.slice ap an ac) _ (by rw [← hall]; exact hst4.row.owns fun x hx => (hst4.ok x (by simp [hx])).1) (fun g hg => (hst4.xb g ((hst4.row.blocks g).1 hg)).1) hst4.bel)
      clear h2 h3 h4 h6 h7 hst3 hst4 hall hEl
      go_wp2_with fail
      exact HP.out
    | start _ j n2 av2 k2 ks2 rest2 owe2 a2 m2 c2 h1 h2 h3 h4 h6 h7 =>
      have hst3 := HS.out.after h6 h7 HMW.out hmw
      obtain ⟨X2, hX2⟩ : ∃ X2, xlate (nsAll (nsAll nF av) av2) true (bst (halvesL n2).1) (bst (halvesL n2).2) = X2 := ⟨_, rfl⟩
      obtain ⟨lo2, hlo2⟩ : ∃ lo2, bst (halvesL n2).2 = lo2 := ⟨_, rfl⟩
      rw [hX2, hlo2]
      have hnm : (names ++ [lo2]) ++ localsOf ks2 = localsOf ks := by
        have e : localsOf kk = lo2 :: localsOf ks2 := by
          unfold localsOf
          rw [hEl, List.map_cons, ← hlo2]
          rfl
        have := HNM.out
        rw [e] at this
        rw [← this, List.append_assoc]
        rfl
      have HST3 := Lib.hid (hst3.wid ((Below.refl w3.heap.size w3).alloc (Nat.le_refl _) (.cells #[.string X2, .string lo2, .slice a2 m2 c2] 62)))
      have htb := Blk.new w3 62 #[.string X2, .string lo2, .slice a2 m2 c2]
      obtain ⟨tb, htb2⟩ : ∃ tb, w3.heap.size = tb := ⟨_, rfl⟩
      obtain ⟨V, hV⟩ : ∃ V, w3.alloc (.cells #[.string X2, .string lo2, .slice a2 m2 c2] 62) = V := ⟨_, rfl⟩
      rw [hV] at HST3 htb
      rw [htb2] at htb
      have t1 := htb.cell 1
      have HV := Lib.hid hV
      have HNM2 := Lib.hid hnm
      have HJ := Lib.hid h1
      have H3 := Lib.hid h3
      have H4 := Lib.hid h4
      have HOWN : Hid (V.ownsRow 0 9 1 (.slice ap an ac) names.length (names.map Value.string)) := Lib.hid (HST3.out.row.owns fun x hx => (HST3.out.ok x (by simp [hx])).1)
      have hnl2 : names.length ≤ 1000000 := by omega
      have hj2 := h3.1
      clear h1 h2 h3 h4 h6 h7 hst3 hEl hnm hV htb hX2 hlo2 nc0 nc1 nc2 nc3
      go_upto_region 11 with fail
      rw [HV.out]
      try rw [htb2]
      go_wp2_with ((at_builtin; refine wpList_append_where _ rfl _ _ 29 rfl 0 9 i9 (.string ⟨#[]⟩) 1 16 Tryz.underlying29 hi9 hz9a hz9b hz9c rfl (by decide) _ _ _ rfl (HOWN.out.alloc _) ⟨V.heap.size, 0, none⟩ 1 1 [.string lo2] rfl rfl ?c1 ?c2 ?c3 ?c4 ?c5 ?_))
      case c1 => exact World.news_of_block (cs := #[.string lo2]) (t := 9) (fr := (0, 0)) (heap_alloc_new V _)
      case c2 => simp [Value.oneCell']
      case c3 => unfold maxLen; omega
      case c4 => omega
      case c5 => exact Nat.zero_le _
      intro v2 w4 hown2 hgrow hat2
      obtain ⟨vp2, vn2, vc2, rfl⟩ : ∃ ap an ac, v2 = .slice ap an ac := by
        rcases hown2.2 with ⟨rfl, _⟩ | ⟨g, cap, cur, rfl, _⟩
        · exact ⟨_, _, _, rfl⟩
        · exact ⟨_, _, _, rfl⟩
      obtain ⟨Y2, hst4⟩ := (HST3.out.wid ((Below.refl V.heap.size V).alloc (Nat.le_refl _) (.cells #[.string lo2] 9))).snoc hown2 hgrow hat2 h5
      have HST4 := Lib.hid hst4
      have HSK := Lib.hid (skip_any w4 (text_all s) hst4.decS H3.out (hst4.env.sans _))
      clear hst4 hown2 hgrow hat2 t1
      go_wp2_with fail
      refine HSK.out.mono ?_
      rintro e w5 ⟨rfl, ⟨j2, g1, g2, g3, g4⟩, g5⟩
      have HST5 := Lib.hid (HST4.out.after g4 g5 HMW.out hmw)
      have HG2 := Lib.hid g2
      have HG3 := Lib.hid g3
      clear g3 g4 g5 HST4 HSK
      go_wp2_with fail
      go_roundg (s.size - j2)
      case rel => exact ⟨j2, none, ks2, names ++ [lo2], vp2, vn2, vc2, Y2, rfl, rfl, rfl, rfl, HST5.out, ⟨HG2.out, .inr ⟨rfl, by rw [HG3.out]; exact H4.out⟩⟩, HNM2, by rw [List.length_append, List.length_singleton]; have := HJ.out; omega⟩
      case measure => have := HG.out; have := HJ.out; omega
end Go.Proofs.YtlljphipglgjiaaGreatDoor

namespace Go.Proofs.YtlljphipglgjiaaGreatDoor
open Go.RowKit Go.Lib

theorem textOf_none (nm tx : ByteArray) (ap : Option Addr) (an ac : Nat) (kp : Option Addr) (kc : Nat) (w : World) :
    Calls Tryz.prog 19 #[.agg #[.string nm, .slice ap an ac, .string tx, .slice kp 0 kc]] w fun e w' => e = .returned (.tuple #[.string ⟨#[]⟩, .bool true]) ∧ Below w.heap.size w w' := by
  go_enter Tryz.func19, Tryz.ntmps19
  go_wp2_with fail
  exact bodyPost_ret (v := .tuple #[.string ⟨#[]⟩, .bool true]) (by simp [results, Tryz.results19, go_sem]) rfl ⟨rfl, (Below.refl _ w).alloc (Nat.le_refl _) _⟩

theorem textOf_one (nm tx t : ByteArray) (ap : Option Addr) (an ac g kc : Nat) (w : World) (h0 : w.cell? ⟨g, 0, none⟩ = some (.string ⟨#[]⟩)) (h2 : w.cell? ⟨g, 2, none⟩ = some (.string t)) (hg : g < w.heap.size) :
    Calls Tryz.prog 19 #[.agg #[.string nm, .slice ap an ac, .string tx, .slice (some ⟨g, 0, none⟩) 1 kc]] w fun e w' => e = .returned (.tuple #[.string t, .bool true]) ∧ Below w.heap.size w w' := by
  obtain ⟨W, hW⟩ : ∃ W, w.alloc (.cells #[.string nm, .slice ap an ac, .string tx, .slice (some ⟨g, 0, none⟩) 1 kc] 25) = W := ⟨_, rfl⟩
  have hb : Below w.heap.size w W := by rw [← hW]; exact (Below.refl _ _).alloc (Nat.le_refl _) _
  have k := Blk.new w 25 #[.string nm, .slice ap an ac, .string tx, .slice (some ⟨g, 0, none⟩) 1 kc]
  rw [hW] at k
  have k3 := k.cell 3
  have g0 : W.cell? ⟨g, 0, none⟩ = some (.string ⟨#[]⟩) := by rw [World.cell?, hb.block _ hg]; exact h0
  have g2 : W.cell? ⟨g, 2, none⟩ = some (.string t) := by rw [World.cell?, hb.block _ hg]; exact h2
  have HB := Lib.hid hb
  clear hb h0 h2 k
  go_enter Tryz.func19, Tryz.ntmps19
  go_wp2_with fail
  go_quiet (fail)
  go_wp2_with fail
  exact bodyPost_ret (v := .tuple #[.string t, .bool true]) (by simp [results, Tryz.results19, go_sem]) rfl ⟨rfl, ((Fr.below (M := fun x => w.heap.size ≤ x) HB.out (Nat.le_refl _) (fun _ h => h)).drewN _).toBelow (fun _ h => h)⟩

end Go.Proofs.YtlljphipglgjiaaGreatDoor
