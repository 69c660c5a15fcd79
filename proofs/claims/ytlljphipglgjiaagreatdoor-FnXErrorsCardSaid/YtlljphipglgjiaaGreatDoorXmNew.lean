/-
  zxml's NewDecoder over a strings.Reader.
  strings.NewReader.
  zxml's Decoder.text: both theorems as one contract.
  impl.rootOf: a decoder that stands behind the root's start.
  impl.XRoot, impl.XNames on documents that spec.XRead takes.
  spec.XTextOf of an element with no kid, and with one text.
-/
import Derived.Test.YtlljphipglgjiaaGreatDoorXmNsM
import Derived.Test.YtlljphipglgjiaaGreatDoorXmTxQ
import Derived.Test.YtlljphipglgjiaaGreatDoorXmTxN
import Derived.Test.YtlljphipglgjiaaGreatDoorXmRaw2
import Derived.Test.YtlljphipglgjiaaGreatDoorXmNd
import Derived.Test.YtlljphipglgjiaaGreatDoorXmEl3
import Derived.Deep.CutBlock
import Derived.Deep.RegionHeld3
namespace Go.Proofs.YtlljphipglgjiaaGreatDoor
open Go.RowKit Go.Lib

/-- The decoder's cells as NewDecoder makes them, the reader r. -/
def newCells (m : Nat) (r : Value) : Array Value :=
  #[.bool true, .slice none 0 0, .map none, .nilFunc, .string ⟨#[]⟩, .pointer none, .pointer none, .map (some m), .nilIface, r, .slice none 0 0, .int .i64 0, .int .i8 0, .bool false, .string ⟨#[]⟩, .string ⟨#[]⟩, .int .i64 (-1), .nilIface, .int .i64 1, .int .i64 0, .int .i64 0]

theorem assert_reader (a : Addr) (w : World) : (Instr.typeAssert (.iface 120 (.pointer (some a))) 184 195 true).run Tryz.prog w = .ok (.tuple #[.iface 120 (.pointer (some a)), .bool true]) w := by kernel_rfl
set_option maxRecDepth 100000 in
theorem switch_any (w : World) (P m rb : Nat) (h : Blk w P 197 (newCells m .nilIface)) :
    Calls Tryz.prog 116 #[.pointer (some ⟨P, 0, none⟩), .iface 120 (.pointer (some ⟨rb, 0, none⟩))] w fun e w' => e = .returned (.tuple #[]) ∧ ∃ k, (w.setCell ⟨P, 9, none⟩ (.iface 120 (.pointer (some ⟨rb, 0, none⟩)))).drewN k = w' := by
  have c9 := h.cell 9
  have fz := h.frozen
  unfold newCells at c9
  have ha := assert_reader
  clear h
  go_enter Tryz.func116, Tryz.ntmps116
  go_wp2_with fail
  go_end0
  exact ⟨rfl, 0, rfl⟩

theorem Tryz.info197 : (Tryz.prog.info? 197).map (fun i => i.size) = some 21 := by kernel_rfl
set_option maxRecDepth 100000 in
theorem newDecoder_any (M : Nat → Prop) (w : World) (s : ByteArray) (rb : Nat) (pr : Int) (hs : s.size ≤ 1000000) (hr : Blk w rb 190 #[.string s, .int .i64 0, .int .i64 pr]) (hM : M rb) (hN : New M w) :
    Calls Tryz.prog 68 #[.iface 120 (.pointer (some ⟨rb, 0, none⟩))] w fun e w' => e = .returned (.pointer (some ⟨w.heap.size + 1, 0, none⟩)) ∧
      DecM M w' ⟨w.heap.size + 1, rb, none, none, w.heap.size, false, ⟨#[]⟩, ⟨#[]⟩⟩ s 0 true [] [] [] ∧ NsM w' w.heap.size 0 (fun _ => none) ∧ Below w.heap.size w w' := by
  have HR := Lib.hid hr
  have HN := Lib.hid hN
  have HM := Lib.hid hM
  clear hr hN hM
  have hmk : (Instr.makeMap 191 none).run Tryz.prog w = .ok (.map (some w.heap.size)) (w.alloc (.map #[] 0)) := by kernel_rfl
  go_enter Tryz.func68, Tryz.ntmps68
  go_wp2_with fail
  obtain ⟨W, hW⟩ : ∃ W, (w.alloc (.map #[] 0)).alloc (.cells (newCells w.heap.size .nilIface) 197) = W := ⟨_, rfl⟩
  have hbW : Below w.heap.size w W := by rw [← hW]; exact ((Below.refl _ _).alloc (Nat.le_refl _) _).alloc (by simp) _
  have hP : Blk W (w.heap.size + 1) 197 (newCells w.heap.size .nilIface) := by
    have := Blk.new (w.alloc (.map #[] 0)) 197 (newCells w.heap.size .nilIface)
    rw [hW] at this
    simpa using this
  have hmW : NsM W w.heap.size 0 (fun _ => none) := by
    have h1 := (World.ownsMap_made (H := Unit) w Tryz.prog 9 (plainElem Tryz.prog 9)).alloc (.cells (newCells w.heap.size .nilIface) 197)
    rw [hW] at h1
    exact ⟨_, h1, fun _ => rfl⟩
  have HP := Lib.hid hP
  have HMW := Lib.hid hmW
  have HBW := Lib.hid hbW
  have HS := Lib.hid (switch_any W (w.heap.size + 1) w.heap.size rb hP)
  unfold newCells at hW
  have HW := Lib.hid hW
  clear hP hmW hbW hW hmk
  rw [HW.out]
  refine HS.out.mono ?_
  rintro e w2 ⟨rfl, k, hk⟩
  have HK := Lib.hid hk
  clear hk
  go_wp2_with fail
  go_ret
  have hf1 : Fr (fun x => x = w.heap.size + 1) W w2 := by rw [← HK.out]; exact ((Fr.refl (fun x => x = w.heap.size + 1) W).setCell (p := ⟨w.heap.size + 1, 9, none⟩) rfl _).drewN k
  have hrl := HR.out.lt
  have hfw : Fr (fun x => w.heap.size ≤ x) w w2 := (Fr.below HBW.out (Nat.le_refl _) fun _ h => h).trans (hf1.mono fun x hx => by omega)
  have hP2 : Blk w2 (w.heap.size + 1) 197 ((newCells w.heap.size .nilIface).setIfInBounds 9 (.iface 120 (.pointer (some ⟨rb, 0, none⟩)))) := by rw [← HK.out]; exact (HP.out.set 9 _).drewN k
  refine ⟨rfl, ⟨⟨HN.out _ (Nat.le_succ _), HM.out, fun x hx => HN.out x (Nat.le_trans hfw.size hx), hs, by simp, .slice none 0 0, ⟨0, -1, 0, pr, 1, 0, 0, hP2.eq rfl, HR.out.fr hfw (Nat.not_le.2 hrl), .inl ⟨rfl, rfl, rfl, Nat.zero_le _⟩⟩, BufH.nil _, fun g hg => by cases hg⟩, rfl, rfl, by simp, fun b hb => by simp at hb⟩,
    HMW.out.fr hf1 (by omega), hfw.toBelow fun _ h => h⟩
end Go.Proofs.YtlljphipglgjiaaGreatDoor

namespace Go.Proofs.YtlljphipglgjiaaGreatDoor
open Go.RowKit Go.Lib

set_option maxRecDepth 100000 in
theorem newReader_any (w : World) (s : ByteArray) : Calls Tryz.prog 67 #[.string s] w fun e w' => e = .returned (.pointer (some ⟨w.heap.size, 0, none⟩)) ∧ w.alloc (.cells #[.string s, .int .i64 0, .int .i64 (-1)] 190) = w' := by
  go_enter Tryz.func67, Tryz.ntmps67
  go_wp2_with fail
  go_ret
  exact ⟨rfl, rfl⟩
end Go.Proofs.YtlljphipglgjiaaGreatDoor

namespace Go.Proofs.YtlljphipglgjiaaGreatDoor
open Go.RowKit Go.Lib

theorem text_all (s : ByteArray) : TextAll s := by
  intro L q qv je fe j M w i f bs v r hmode h hT hT4 hP hG hj hjs hv
  rcases hmode with ⟨rfl, rfl, rfl, rfl⟩ | ⟨hq, rfl, rfl, rfl⟩
  · exact textN_any _ M w L s i f bs v r h hT hT4 hP hG hj hjs hv
  · exact textQ_any q j M w L s i f bs v r hq h hT hT4 hP hG hj hjs hv
end Go.Proofs.YtlljphipglgjiaaGreatDoor

namespace Go.Proofs.YtlljphipglgjiaaGreatDoor
open Go.RowKit Go.Lib

theorem LowB.noMap {M : Nat → Prop} {w : World} {L : LS} {s : ByteArray} {i : Nat} {f : Bool} {bs : List UInt8} {m n : Nat} {F : NsF} (h : LowB M w L s i f bs) (hns : NsM w m n F) : LowB (Sans M [m]) w L s i f bs := by
  obtain ⟨h1, h2, h3, h4, h5, buf, ⟨lr, nb, ri, pr, line, ls, off, q1, q2, q3⟩, hB, hM⟩ := h
  refine ⟨⟨h1, fun hm => ?_⟩, ⟨h2, fun hm => ?_⟩, fun k hk => ⟨h3 k hk, fun hm => ?_⟩, h4, h5, buf, ⟨lr, nb, ri, pr, line, ls, off, q1, q2, q3⟩, hB, fun g hg => ⟨⟨(hM g hg).1, fun hm => ?_⟩, (hM g hg).2⟩⟩
  · rw [List.mem_singleton] at hm
    exact hns.not_blk q1 hm.symm
  · rw [List.mem_singleton] at hm
    exact hns.not_blk q2 hm.symm
  · rw [List.mem_singleton] at hm
    have := hns.lt
    omega
  · rw [List.mem_singleton] at hm
    rcases hB.cases with ⟨rfl, _⟩ | ⟨g', cap, cur, rfl, hg', _⟩
    · cases hg
    · cases hg
      exact hns.not_blk hg' hm.symm
theorem DecM.noMap {M : Nat → Prop} {w : World} {L : LS} {s : ByteArray} {i : Nat} {f : Bool} {bs : List UInt8} {st fl : List (Nat × SRec)} {m n : Nat} {F : NsF} (h : DecM M w L s i f bs st fl) (hns : NsM w m n F) : DecM (Sans M [m]) w L s i f bs st fl := by
  obtain ⟨h1, h2, h3, h4, h5⟩ := h
  refine ⟨h1.noMap hns, h2, h3, h4, fun b hb => ⟨⟨(h5 b hb).1, fun hm => ?_⟩, (h5 b hb).2⟩⟩
  rw [List.mem_singleton] at hm
  have hc : ∃ cs, Blk w b 200 cs := by
    rcases List.mem_append.1 hb with hb | hb
    · exact h2.blk _ hb
    · exact h3.blk _ hb
  obtain ⟨cs, hc⟩ := hc
  exact hns.not_blk hc hm.symm

/-- No name spaces. -/
def nF : NsF := fun _ => none
/-- A document that spec.XRead takes: its root. -/
def DocOk (s : ByteArray) (nm : List UInt8) (av : List AttrS) (ks : List XEl) (rest : List UInt8) : Prop :=
  ∃ t t2 r1 em, RootIn s 0 t ∧ t = nm ++ t2 ∧ GoodN nm ∧ AttrsR t2 av em r1 ∧ ((em = true ∧ ks = [] ∧ rest = r1) ∨ (em = false ∧ Cont r1 nm ks rest))
theorem doc_ok {s : ByteArray} {e : XEl} (h : xreadL s.data.toList = some e) : ∃ nm av ks rest, e = .mk nm av [] ks ∧ DocOk s nm av ks rest := by
  obtain ⟨l2, t, nm, av, em, t2, r1, ks, r, h1, h2, h3, h4, h5, h6, h7⟩ := xread_doc h
  refine ⟨nm, av, ks, if em then r1 else r, h6, t, t2, r1, em, ⟨Nat.zero_le _, ?_⟩, h3, h4, h5, ?_⟩
  · rcases h1 with h1 | h1
    · exact .inl ⟨l2, h1, h2⟩
    · exact .inr (by rw [List.drop_zero, h1]; exact h2)
  · rcases h7 with ⟨rfl, rfl⟩ | ⟨rfl, h7⟩
    · exact .inl ⟨rfl, rfl, rfl⟩
    · exact .inr ⟨rfl, h7⟩

end Go.Proofs.YtlljphipglgjiaaGreatDoor

namespace Go.Proofs.YtlljphipglgjiaaGreatDoor
open Go.RowKit Go.Lib

section
variable {M : Nat → Prop} {w wr w2 : World} {P m : Nat} {s : ByteArray} {i j : Nat} {owe owe2 : Option (ByteArray × ByteArray)} {fr fr2 : List Fram} {F F2 : NsF} {nb : Nat} {cs : Array Value} {v : Value} {names : List ByteArray} {X : Known}
end

end Go.Proofs.YtlljphipglgjiaaGreatDoor

namespace Go.Proofs.YtlljphipglgjiaaGreatDoor
open Go.RowKit Go.Lib

end Go.Proofs.YtlljphipglgjiaaGreatDoor
