/-
  The encoder: NewBuffer, NewEncoder, newValue, RootElement, Encoder.String.
  The encoder: RootElement, Encoder.String, startOf.
  The encoder: Encoder.String, startOf.
  impl.startOf.
  impl.value at the kinds XNone and XString.
  impl.XEncode, of a node whose value a contract tells.
-/
import Derived.Test.YtlljphipglgjiaaGreatDoorXmStart2
import Derived.Deep.AppendLies
import Derived.Deep.RegionHeld3
namespace Go.Proofs.YtlljphipglgjiaaGreatDoor
open Go.RowKit Go.Lib
set_option linter.unusedSimpArgs false

theorem newBuffer_any (w : World) :
    Calls Tryz.prog 44 #[.slice none 0 0] w fun e w' => e = .returned (.pointer (some ⟨w.heap.size, 0, none⟩)) ∧ w.alloc (.cells encCs 146) = w' := by
  go_enter Tryz.func44, Tryz.ntmps44
  go_wp2_with fail
  go_ret
  exact ⟨rfl, rfl⟩

/-- The scratch of an encoder: the block g holds a slice of bytes over the row r. -/
def Scr (w : World) (g r : Nat) : Prop := ∃ (n cap : Nat) (cur : Array Value), Blk w g 77 #[.slice (some ⟨r, 0, none⟩) n cap] ∧ w.heap[r]? = some (.cells cur 5 (0, 0)) ∧ n ≤ cap ∧ cap ≤ maxLen ∧ cur.size = cap

set_option maxRecDepth 100000 in
set_option maxHeartbeats 1000000 in
theorem newEncoder_any (b : Nat) (w : World) :
    Calls Tryz.prog 43 #[wr b] w fun e w' => e = .returned (.pointer (some ⟨w.heap.size + 2, 0, none⟩)) ∧ Blk w' (w.heap.size + 2) 142 #[wr b, .pointer (some ⟨w.heap.size + 1, 0, none⟩)] ∧ Scr w' (w.heap.size + 1) w.heap.size ∧ Below w.heap.size w w' ∧ w'.heap.size = w.heap.size + 3 := by
  have hmk : ∀ w, (Instr.makeSlice 77 (.int .i64 64) (.int .i64 64)).run Tryz.prog w = .ok (.slice (some ⟨w.heap.size, 0, none⟩) 64 64) (w.alloc (.cells (Array.replicate 64 (.int .u8 0)) 5)) := fun _ => by kernel_rfl
  unfold wr
  go_enter Tryz.func43, Tryz.ntmps43
  go_wp2_with fail
  have hz : (Array.replicate 64 (Value.int IntKind.u8 0)).size = 64 := Array.size_replicate
  go_ret
  have b1 : Blk ((w.alloc (.cells (Array.replicate 64 (.int .u8 0)) 5)).alloc (.cells #[.slice (some ⟨w.heap.size, 0, none⟩) 64 64] 77)) (w.heap.size + 1) 77 #[.slice (some ⟨w.heap.size, 0, none⟩) 64 64] := by
    have := Blk.new (w.alloc (.cells (Array.replicate 64 (.int .u8 0)) 5)) 77 #[.slice (some ⟨w.heap.size, 0, none⟩) 64 64]
    simpa using this
  have b0 : Blk (w.alloc (.cells (Array.replicate 64 (.int .u8 0)) 5)) w.heap.size 5 (Array.replicate 64 (.int .u8 0)) := Blk.new _ _ _
  have b2 := Blk.new ((w.alloc (.cells (Array.replicate 64 (.int .u8 0)) 5)).alloc (.cells #[.slice (some ⟨w.heap.size, 0, none⟩) 64 64] 77)) 142 #[wr b, .pointer (some ⟨w.heap.size + 1, 0, none⟩)]
  refine ⟨rfl, by simpa [wr] using b2, ⟨64, 64, Array.replicate 64 (.int .u8 0), b1.alloc _, ((b0.alloc _).alloc _), Nat.le_refl _, by decide, hz⟩, ?_, by simp⟩
  exact (((Below.refl _ _).alloc (Nat.le_refl _) _).alloc (by simp) _).alloc (by simp; omega) _

/-- With a block that is not of bytes, and not the buffer's own, taken out of those that may turn. -/
theorem EncB.without {M : Nat → Prop} {w : World} {b g : Nat} {bs : List UInt8} {cs : Array Value} {T : TypeId} {fr : Nat × Nat} (h : EncB M w b bs) (hg : w.heap[g]? = some (.cells cs T fr)) (hT : T ≠ 5) (hgb : g ≠ b) : EncB (fun k => M k ∧ k ≠ g) w b bs := by
  obtain ⟨hb, hN, hT2, hl, buf, lr, hblk, hs, h1, hB, hM⟩ := h
  have hlt : g < w.heap.size := (Array.getElem?_eq_some_iff.1 hg).1
  refine ⟨⟨hb, fun e => hgb e.symm⟩, fun k hk => ⟨hN k hk, by omega⟩, ⟨hT2.1, fun h => hT2.2.1 h.1, fun h => hT2.2.2 h.1⟩, hl, buf, lr, hblk, hs, h1, hB, fun g' hg' => ⟨⟨(hM g' hg').1, ?_⟩, (hM g' hg').2⟩⟩
  rintro rfl
  rcases hB.cases with ⟨rfl, rfl⟩ | ⟨g2, cap, cur, rfl, hg2, hl, hm, hcs, ht⟩
  · cases hg'
  · cases hg'
    rw [hg2] at hg
    injection hg with hg
    injection hg with _ hg _
    exact hT hg.symm

theorem EncB.alloc {M : Nat → Prop} {w : World} {b : Nat} {bs : List UInt8} (h : EncB M w b bs) (o : Obj) : EncB M (w.alloc o) b bs := h.fr ((Fr.refl _ _).alloc (fun _ hk => hk) o)
theorem EncB.tabs {M : Nat → Prop} {w : World} {b : Nat} {bs : List UInt8} (h : EncB M w b bs) : Tabs M w := h.2.2.1
theorem EncB.newM {M : Nat → Prop} {w : World} {b : Nat} {bs : List UInt8} (h : EncB M w b bs) : New M w := h.2.1

theorem Tabs.lt {M : Nat → Prop} {w : World} (h : Tabs M w) : 4 < w.heap.size ∧ 5 < w.heap.size :=
  ⟨World.block_lt_of_cell? w _ (h.1.1 0 (by decide)), World.block_lt_of_cell? w _ (h.1.2 0 (by decide)).1⟩
/-- A store elsewhere leaves the buffer. -/
theorem EncB.setOther {M : Nat → Prop} {w : World} {b : Nat} {bs : List UInt8} (h : EncB M w b bs) {q : Addr} (hq : ¬ M q.block) (h4 : q.block ≠ 4) (h5 : q.block ≠ 5) (v : Value) : EncB M (w.setCell q v) b bs := by
  obtain ⟨hb, hN, hT, hl, buf, lr, hblk, hs, h1, hB, hM⟩ := h
  have f : Fr (fun k => k = q.block) w (w.setCell q v) := Fr.setCell (M := fun k => k = q.block) (Fr.refl _ _) (show q.block = q.block from rfl) _
  refine ⟨hb, hN.setCell _ _, ⟨⟨fun c hc => (cell_fr f (fun e => h4 e.symm)).trans (hT.1.1 c hc), fun i hi => ⟨(cell_fr f (fun e => h5 e.symm)).trans (hT.1.2 i hi).1, (cell_fr f (fun e => h5 e.symm)).trans (hT.1.2 i hi).2⟩⟩, hT.2⟩, hl, buf, lr, hblk.far (fun e => hq (e ▸ hb)) _, hs, h1, hB.keep' fun g hg cur hcur => f.heap hcur fun e => hq (e ▸ (hM g hg).1), hM⟩

set_option maxRecDepth 100000 in
set_option maxHeartbeats 4000000 in
theorem newValue_any (M : Nat → Prop) (b : Nat) (bs : List UInt8) (sa : Option Addr) (sp loc : ByteArray) (at' : Value) (l : List AttrS) (w : World) (h : EncB M w b bs) (hat : AttrsH w at' l) (hatM : ∀ g, at'.ownBlock = some g → ¬ M g)
    (hloc : 0 < loc.size) (hall : ∀ a ∈ l, 0 < a.loc.size) (hlim : bs.length + 20 * sp.size + 20 * loc.size + attrsSize l + 100 ≤ 50000000) :
    Calls Tryz.prog 99 #[wr b, .pointer sa, .agg #[.string sp, .string loc, at']] w fun e w' => e = .returned (.agg #[wr b, .pointer sa, .string sp, .string loc, at', .bool false]) ∧ EncB M w' b (bs ++ startTag sp loc l) ∧ Fr M w w' := by
  have hN := h.newM
  obtain ⟨ap, an, ac, rfl⟩ : ∃ ap an ac, at' = .slice ap an ac := by
    rcases hat.cases with ⟨rfl, _⟩ | ⟨g, cap, cur, rfl, _⟩
    · exact ⟨_, _, _, rfl⟩
    · exact ⟨_, _, _, rfl⟩
  obtain ⟨W, hW⟩ : ∃ W, (w.alloc (.cells #[.string sp, .string loc, (.slice ap an ac)] 93)).alloc (.cells #[.nilIface, .pointer none, .string ⟨#[]⟩, .string ⟨#[]⟩, .slice none 0 0, .bool false] 95) = W := ⟨_, rfl⟩
  have hb1 : EncB (fun k => M k ∧ k ≠ w.heap.size) (w.alloc (.cells #[.string sp, .string loc, (.slice ap an ac)] 93)) b bs := h.but _
  have hb2 : EncB (fun k => (M k ∧ k ≠ w.heap.size) ∧ k ≠ w.heap.size + 1) W b bs := by
    rw [← hW]
    have := hb1.but (.cells #[.nilIface, .pointer none, .string ⟨#[]⟩, .string ⟨#[]⟩, .slice none 0 0, .bool false] 95)
    simpa using this
  have hf : Fr M w W := by rw [← hW]; exact ((Fr.refl _ _).alloc hN _).alloc hN _
  have hk1 : Blk W w.heap.size 93 #[.string sp, .string loc, (.slice ap an ac)] := by rw [← hW]; exact (Blk.new _ _ _).alloc _
  have hk2 : Blk W (w.heap.size + 1) 95 #[.nilIface, .pointer none, .string ⟨#[]⟩, .string ⟨#[]⟩, .slice none 0 0, .bool false] := by
    rw [← hW]
    have := Blk.new (w.alloc (.cells #[.string sp, .string loc, (.slice ap an ac)] 93)) 95 #[.nilIface, .pointer none, .string ⟨#[]⟩, .string ⟨#[]⟩, .slice none 0 0, .bool false]
    simpa using this
  have hatW : AttrsH W (.slice ap an ac) l := hat.fr hf hatM
  have HB := Lib.hid hb2
  have HF := Lib.hid hf
  have HK1 := Lib.hid hk1
  have HK2 := Lib.hid hk2
  have HAT := Lib.hid hatW
  have HTB := Lib.hid (h.tabs.fr hf)
  have HLT : Hid (w.heap.size + 1 ≠ 4 ∧ w.heap.size + 1 ≠ 5) := Lib.hid (by have := h.tabs.lt; omega)
  clear hb1 hb2 hf hk2 hatW h hat
  unfold wr
  go_enter Tryz.func99, Tryz.ntmps99
  have c0 := hk1.cell 0
  have c1 := hk1.cell 1
  have c2 := hk1.cell 2
  clear hk1
  go_wp2_with fail
  refine (writeStart_any _ b bs sp loc (.slice ap an ac) l W HB.out HAT.out (fun g hg h => hatM g hg h.1.1) hloc hall hlim).mono ?_
  rintro e w2 ⟨rfl, h2, hf2⟩
  have hk1 := HK1.out.fr hf2 (fun h => h.1.2 rfl)
  have hk2 := HK2.out.fr hf2 (fun h => h.2 rfl)
  have c0 := hk1.cell 0
  have c1 := hk1.cell 1
  have c2 := hk1.cell 2
  have d0 := hk2.cell 0
  have d1 := hk2.cell 1
  have d2 := hk2.cell 2
  have d3 := hk2.cell 3
  have d4 := hk2.cell 4
  have d5 := hk2.cell 5
  have fz := hk2.frozen
  have H2 := Lib.hid h2
  have HF2 := Lib.hid hf2
  have HK2' := Lib.hid hk2
  clear h2 hf2 hk1 hk2
  go_wp2_with fail
  obtain ⟨V, hV⟩ : ∃ V, ((((((w2.setCell ⟨w.heap.size + 1, 0, none⟩ (.iface 84 (.pointer (some ⟨b, 0, none⟩)))).setCell ⟨w.heap.size + 1, 1, none⟩ (.pointer sa)).setCell ⟨w.heap.size + 1, 2, none⟩ (.string sp)).setCell
    ⟨w.heap.size + 1, 3, none⟩ (.string loc)).setCell ⟨w.heap.size + 1, 4, none⟩ (.slice ap an ac)).setCell ⟨w.heap.size + 1, 5, none⟩ (.bool false)) = V := ⟨_, rfl⟩
  rw [hV]
  have hn : ∀ q : Nat, ¬ ((M (⟨w.heap.size + 1, q, none⟩ : Addr).block ∧ (⟨w.heap.size + 1, q, none⟩ : Addr).block ≠ w.heap.size) ∧ (⟨w.heap.size + 1, q, none⟩ : Addr).block ≠ w.heap.size + 1) := fun q h => h.2 rfl
  have h45 := HLT.out
  have hV1 : EncB (fun k => (M k ∧ k ≠ w.heap.size) ∧ k ≠ w.heap.size + 1) V b (bs ++ startTag sp loc l) := by
    rw [← hV]
    exact (((((H2.out.setOther (hn 0) h45.1 h45.2 _).setOther (hn 1) h45.1 h45.2 _).setOther (hn 2) h45.1 h45.2 _).setOther (hn 3) h45.1 h45.2 _).setOther (hn 4) h45.1 h45.2 _).setOther (hn 5) h45.1 h45.2 _
  have hMg : M (w.heap.size + 1) := hN _ (by omega)
  have hV2 : Fr M W V := by
    rw [← hV]
    have h0 : Fr M W w2 := HF2.out.mono fun k hk => hk.1.1
    exact (((((h0.setCell (p := ⟨w.heap.size + 1, 0, none⟩) hMg _).setCell (p := ⟨w.heap.size + 1, 1, none⟩) hMg _).setCell (p := ⟨w.heap.size + 1, 2, none⟩) hMg _).setCell (p := ⟨w.heap.size + 1, 3, none⟩) hMg _).setCell (p := ⟨w.heap.size + 1, 4, none⟩) hMg _).setCell (p := ⟨w.heap.size + 1, 5, none⟩) hMg _
  have hV3 : Blk V (w.heap.size + 1) 95 #[.iface 84 (.pointer (some ⟨b, 0, none⟩)), .pointer sa, .string sp, .string loc, .slice ap an ac, .bool false] := by
    rw [← hV]
    exact ((((((HK2'.out.set 0 _).set 1 _).set 2 _).set 3 _).set 4 _).set 5 _).eq rfl
  have k0 := hV3.cell 0
  have k1 := hV3.cell 1
  have k2 := hV3.cell 2
  have k3 := hV3.cell 3
  have k4 := hV3.cell 4
  have k5 := hV3.cell 5
  exact bodyPost_ret (v := .agg #[.iface 84 (.pointer (some ⟨b, 0, none⟩)), .pointer sa, .string sp, .string loc, .slice ap an ac, .bool false]) (by simp [results, Tryz.results99, go_sem, k0, k1, k2, k3, k4, k5]) rfl ⟨rfl, hV1.wide (fun k hk => hk.1.1) (HTB.out.fr hV2), HF.out.trans hV2⟩

end Go.Proofs.YtlljphipglgjiaaGreatDoor

namespace Go.Proofs.YtlljphipglgjiaaGreatDoor
open Go.RowKit Go.Lib
set_option linter.unusedSimpArgs false

theorem AttrsT.slice {T : TypeId} {w : World} {v : Value} {l : List AttrS} (h : AttrsT T w v l) : ∃ ap an ac, v = .slice ap an ac := by
  rcases h.cases with ⟨rfl, _⟩ | ⟨g, cap, cur, rfl, _⟩
  · exact ⟨_, _, _, rfl⟩
  · exact ⟨_, _, _, rfl⟩

set_option maxRecDepth 100000 in
set_option maxHeartbeats 4000000 in
theorem rootElement_any (M : Nat → Prop) (b : Nat) (bs : List UInt8) (sa : Option Addr) (sp loc : ByteArray) (at' : Value) (l : List AttrS) (w : World) (h : EncB M w b bs) (hat : AttrsH w at' l) (hatM : ∀ g, at'.ownBlock = some g → ¬ M g)
    (hloc : 0 < loc.size) (hall : ∀ a ∈ l, 0 < a.loc.size) (hlim : bs.length + 20 * sp.size + 20 * loc.size + attrsSize l + 100 ≤ 50000000) :
    Calls Tryz.prog 46 #[.agg #[wr b, .pointer sa], .agg #[.string sp, .string loc, at']] w fun e w' => e = .returned (.agg #[wr b, .pointer sa, .string sp, .string loc, at', .bool false]) ∧ EncB M w' b (bs ++ startTag sp loc l) ∧ Fr M w w' := by
  have hN := h.newM
  obtain ⟨ap, an, ac, rfl⟩ := hat.slice
  obtain ⟨W1, hW1⟩ : ∃ W, w.alloc (.cells #[wr b, .pointer sa] 142) = W := ⟨_, rfl⟩
  obtain ⟨W2, hW2⟩ : ∃ W, W1.alloc (.cells #[.string sp, .string loc, .slice ap an ac] 93) = W := ⟨_, rfl⟩
  obtain ⟨W, hW⟩ : ∃ W, W2.alloc (.cells #[.nilIface, .pointer none, .string ⟨#[]⟩, .string ⟨#[]⟩, .slice none 0 0, .bool false] 95) = W := ⟨_, rfl⟩
  have s1 : W1.heap.size = w.heap.size + 1 := by rw [← hW1]; simp
  have s2 : W2.heap.size = w.heap.size + 2 := by rw [← hW2]; simp [s1]
  have f1 : Fr M w W1 := by rw [← hW1]; exact (Fr.refl _ _).alloc hN _
  have f2 : Fr M w W2 := by rw [← hW2]; exact f1.alloc hN _
  have f3 : Fr M w W := by rw [← hW]; exact f2.alloc hN _
  have b3 : Blk W (w.heap.size + 2) 95 #[.nilIface, .pointer none, .string ⟨#[]⟩, .string ⟨#[]⟩, .slice none 0 0, .bool false] := by rw [← hW, ← s2]; exact Blk.new _ _ _
  have b2 : Blk W (w.heap.size + 1) 93 #[.string sp, .string loc, .slice ap an ac] := by
    rw [← hW, ← s1]
    refine Blk.alloc ?_ _
    rw [← hW2]
    exact Blk.new _ _ _
  have b1 : Blk W w.heap.size 142 #[wr b, .pointer sa] := by
    rw [← hW]
    refine Blk.alloc ?_ _
    rw [← hW2]
    refine Blk.alloc ?_ _
    rw [← hW1]
    exact Blk.new _ _ _
  have hb : EncB (fun k => M k ∧ k ≠ w.heap.size + 2) W b bs := by
    have h2 : EncB M W2 b bs := by rw [← hW2]; refine EncB.alloc ?_ _; rw [← hW1]; exact h.alloc _
    rw [← hW, ← s2]
    exact h2.but _
  have hatW : AttrsH W (.slice ap an ac) l := hat.fr f3 hatM
  have HB := Lib.hid hb
  have HK := Lib.hid b3
  have HAT := Lib.hid hatW
  have HF := Lib.hid f3
  have HTB := Lib.hid (h.tabs.fr f3)
  have HLT : Hid (w.heap.size + 2 ≠ 4 ∧ w.heap.size + 2 ≠ 5) := Lib.hid (by have := h.tabs.lt; omega)
  have hEq : ((w.alloc (.cells #[wr b, .pointer sa] 142)).alloc (.cells #[.string sp, .string loc, .slice ap an ac] 93)).alloc (.cells #[.nilIface, .pointer none, .string ⟨#[]⟩, .string ⟨#[]⟩, .slice none 0 0, .bool false] 95) = W := by rw [hW1, hW2, hW]
  clear hb b3 hatW f1 f2 f3 h hat hW hW1 hW2 s1 s2
  have c0 := b1.cell 0
  have c1 := b1.cell 1
  have e0 := b2.cell 0
  have e1 := b2.cell 1
  have e2 := b2.cell 2
  clear b1 b2
  unfold wr at hEq c0 ⊢
  go_enter Tryz.func46, Tryz.ntmps46
  go_wp2_with fail
  refine (newValue_any _ b bs sa sp loc _ l W HB.out HAT.out (fun g hg h => hatM g hg h.1) hloc hall hlim).mono ?_
  rintro e w2 ⟨rfl, h2, hf2⟩
  have hk2 := HK.out.fr hf2 (fun h => h.2 rfl)
  have d0 := hk2.cell 0
  have d1 := hk2.cell 1
  have d2 := hk2.cell 2
  have d3 := hk2.cell 3
  have d4 := hk2.cell 4
  have d5 := hk2.cell 5
  have fz := hk2.frozen
  have H2 := Lib.hid h2
  have HF2 := Lib.hid hf2
  have HK2 := Lib.hid hk2
  clear h2 hf2 hk2
  unfold wr
  go_wp2_with fail
  obtain ⟨V, hV⟩ : ∃ V, ((((((w2.setCell ⟨w.heap.size + 2, 0, none⟩ (.iface 84 (.pointer (some ⟨b, 0, none⟩)))).setCell ⟨w.heap.size + 2, 1, none⟩ (.pointer sa)).setCell ⟨w.heap.size + 2, 2, none⟩ (.string sp)).setCell
    ⟨w.heap.size + 2, 3, none⟩ (.string loc)).setCell ⟨w.heap.size + 2, 4, none⟩ (.slice ap an ac)).setCell ⟨w.heap.size + 2, 5, none⟩ (.bool false)) = V := ⟨_, rfl⟩
  rw [hV]
  have hn : ∀ q : Nat, ¬ (M (⟨w.heap.size + 2, q, none⟩ : Addr).block ∧ (⟨w.heap.size + 2, q, none⟩ : Addr).block ≠ w.heap.size + 2) := fun q h => h.2 rfl
  have h45 := HLT.out
  have hV1 : EncB (fun k => M k ∧ k ≠ w.heap.size + 2) V b (bs ++ startTag sp loc l) := by
    rw [← hV]
    exact (((((H2.out.setOther (hn 0) h45.1 h45.2 _).setOther (hn 1) h45.1 h45.2 _).setOther (hn 2) h45.1 h45.2 _).setOther (hn 3) h45.1 h45.2 _).setOther (hn 4) h45.1 h45.2 _).setOther (hn 5) h45.1 h45.2 _
  have hMg : M (w.heap.size + 2) := hN _ (by omega)
  have hV2 : Fr M W V := by
    rw [← hV]
    have h0 : Fr M W w2 := HF2.out.mono fun k hk => hk.1
    exact (((((h0.setCell (p := ⟨w.heap.size + 2, 0, none⟩) hMg _).setCell (p := ⟨w.heap.size + 2, 1, none⟩) hMg _).setCell (p := ⟨w.heap.size + 2, 2, none⟩) hMg _).setCell (p := ⟨w.heap.size + 2, 3, none⟩) hMg _).setCell (p := ⟨w.heap.size + 2, 4, none⟩) hMg _).setCell (p := ⟨w.heap.size + 2, 5, none⟩) hMg _
  have hV3 : Blk V (w.heap.size + 2) 95 #[.iface 84 (.pointer (some ⟨b, 0, none⟩)), .pointer sa, .string sp, .string loc, .slice ap an ac, .bool false] := by
    rw [← hV]
    exact ((((((HK2.out.set 0 _).set 1 _).set 2 _).set 3 _).set 4 _).set 5 _).eq rfl
  have k0 := hV3.cell 0
  have k1 := hV3.cell 1
  have k2 := hV3.cell 2
  have k3 := hV3.cell 3
  have k4 := hV3.cell 4
  have k5 := hV3.cell 5
  exact bodyPost_ret (v := .agg #[.iface 84 (.pointer (some ⟨b, 0, none⟩)), .pointer sa, .string sp, .string loc, .slice ap an ac, .bool false]) (by simp [results, Tryz.results46, go_sem, k0, k1, k2, k3, k4, k5]) rfl ⟨rfl, hV1.wide (fun k hk => hk.1) (HTB.out.fr hV2), HF.out.trans hV2⟩

end Go.Proofs.YtlljphipglgjiaaGreatDoor

namespace Go.Proofs.YtlljphipglgjiaaGreatDoor
open Go.RowKit Go.Lib
set_option linter.unusedSimpArgs false

theorem below_drewN' {B : Nat} {a w : World} (h : Below B a w) (n : Nat) : Below B a (w.drewN n) := ⟨h.os, h.tape, h.output, h.size, h.block⟩
theorem EncB.isBuffer {M : Nat → Prop} {w : World} {b : Nat} {bs : List UInt8} (h : EncB M w b bs) : Lib.IsBuffer 146 5 0 b (Lib.byteCells bs) w := by
  obtain ⟨hb, hN, hT, hl, buf, lr, hblk, hs, h1, hB, hM⟩ := h
  refine ⟨Nat.zero_le _, buf, lr, hblk.eq rfl, ?_, fun e => (hM b e).2 rfl⟩
  have := hB
  unfold BufH at this
  rwa [← Lib.byteCells_length bs] at this

set_option maxRecDepth 100000 in
set_option maxHeartbeats 1000000 in
theorem encString_any (M : Nat → Prop) (b : Nat) (bs : List UInt8) (sa : Option Addr) (w : World) (h : EncB M w b bs) :
    Calls Tryz.prog 48 #[.agg #[wr b, .pointer sa]] w fun e w' => e = .returned (.string (bst bs)) ∧ Below w.heap.size w w' := by
  have m1 := method_String
  have m2 := nilAhead_String
  have HB := Lib.hid (h.alloc (.cells #[wr b, .pointer sa] 142))
  clear h
  unfold wr at HB ⊢
  go_enter Tryz.func48, Tryz.ntmps48
  go_wp2_with fail
  refine (Tryz.Buffer_String 0 b bs _ HB.out.isBuffer).mono ?_
  rintro e w2 ⟨rfl, n, rfl⟩
  go_wp2_with fail
  go_ret
  exact ⟨rfl, below_drewN' ((Below.refl _ _).alloc (Nat.le_refl _) _) _⟩

end Go.Proofs.YtlljphipglgjiaaGreatDoor

namespace Go.Proofs.YtlljphipglgjiaaGreatDoor
open Go.RowKit Go.Lib
set_option linter.unusedSimpArgs false

/-- The twelve cells of an impl.XNode. -/
def nodeCs (sp loc : ByteArray) (ap : Option Addr) (an ac : Nat) (fl : Bool) (kind : Int) (text : ByteArray) (int width bits : Int) (escp : Bool) (item : ByteArray) (kp : Option Addr) (kn kc : Nat) : Array Value :=
  #[.string sp, .string loc, .slice ap an ac, .bool fl, .int .i64 kind, .string text, .int .i64 int, .int .i64 width, .int .u64 bits, .bool escp, .string item, .slice kp kn kc]

theorem Tryz.info171 : (Tryz.prog.info? 171).map (fun i => (i.zero, i.size, i.bytes)) = some (some (.agg #[.string ⟨#[]⟩, .string ⟨#[]⟩, .string ⟨#[]⟩]), 3, 48) := by kernel_rfl

theorem Fr.one (w : World) (g q : Nat) (v : Value) : Fr (fun j => j = g) w (w.setCell ⟨g, q, none⟩ v) := Fr.setCell (M := fun j => j = g) (Fr.refl _ _) (p := ⟨g, q, none⟩) rfl v
theorem owns_ne {w : World} {base E size n k : Nat} {T : TypeId} {v : Value} {xs : List Value} {cs : Array Value} (h : w.ownsRow base E size v n xs) (hk : Blk w k T cs) (hT : T ≠ E) : v.ownBlock ≠ some k := by
  intro e
  rcases h.2 with ⟨rfl, _⟩ | ⟨g, cap, cur, rfl, _, hg, _⟩
  · cases e
  · cases e
    unfold Blk at hk
    rw [hg] at hk
    injection hk with hk
    injection hk with _ hk
    exact hT hk.symm
theorem blk_grown {w w' : World} {row : Option Nat} {k : Nat} {T : TypeId} {cs : Array Value} (h : Blk w k T cs) (hg : w.grownBy w' row) (hne : row ≠ some k) : Blk w' k T cs :=
  (hg.block _ h.lt fun e => hne e.symm).trans h
theorem below_grown {B : Nat} {a w w' : World} {row : Option Nat} (h : Below B a w) (hg : w.grownBy w' row) (hr : ∀ k, row = some k → B ≤ k) (hB : B ≤ w.heap.size) : Below B a w' :=
  ⟨hg.os.trans h.os, hg.tape.trans h.tape, hg.output.trans h.output, Nat.le_trans h.size hg.size, fun i hi => (hg.block i (by omega) (fun e => by have := hr i e.symm; omega)).trans (h.block i hi)⟩

set_option maxRecDepth 100000 in
set_option maxHeartbeats 4000000 in
theorem startOf_any (sp loc : ByteArray) (ap : Option Addr) (an ac : Nat) (fl : Bool) (kind : Int) (text : ByteArray) (int width bits : Int) (escp : Bool) (item : ByteArray) (kp : Option Addr) (kn kc : Nat) (l : List AttrS) (w : World)
    (hat : AttrsT 49 w (.slice ap an ac) l) (hmax : l.length ≤ 1000000) :
    Calls Tryz.prog 47 #[.agg (nodeCs sp loc ap an ac fl kind text int width bits escp item kp kn kc)] w fun e w' => ∃ v, e = .returned (.agg #[.string sp, .string loc, v]) ∧ AttrsH w' v l ∧ (∀ g, v.ownBlock = some g → w.heap.size ≤ g) ∧ Below w.heap.size w w' := by
  obtain ⟨i0, hi, hz0, hz1, hz2⟩ := info_parts Tryz.info171
  unfold nodeCs
  have han : an = l.length := by
    rcases hat.cases with ⟨h, rfl⟩ | ⟨g, cap, cur, h, _⟩
    · cases h; rfl
    · cases h; rfl
  subst han
  have HAT := Lib.hid hat
  obtain ⟨post, hpost⟩ : ∃ post : Ending → World → Prop, (fun e w' => ∃ v, e = .returned (.agg #[.string sp, .string loc, v]) ∧ AttrsH w' v l ∧ (∀ g, v.ownBlock = some g → w.heap.size ≤ g) ∧ Below w.heap.size w w') = post := ⟨_, rfl⟩
  have hfin : ∀ v W, AttrsH W v l → (∀ g, v.ownBlock = some g → w.heap.size ≤ g) → Below w.heap.size w W → post (.returned (.agg #[.string sp, .string loc, v])) W := fun v W h1 h2 h3 => by rw [← hpost]; exact ⟨v, rfl, h1, h2, h3⟩
  rw [hpost]
  have HFIN := Lib.hid hfin
  clear hpost hat hfin
  go_enter Tryz.func47, Tryz.ntmps47
  go_wp2_with fail
  have hN0 : Blk (((w.alloc (.cells #[.string sp, .string loc, .slice ap l.length ac, .bool fl, .int .i64 kind, .string text, .int .i64 int, .int .i64 width, .int .u64 bits, .bool escp, .string item, .slice kp kn kc] 44)).alloc
      (.cells #[.string ⟨#[]⟩, .string ⟨#[]⟩, .slice none 0 0] 93)).alloc (.cells #[.string sp, .string loc, .slice none 0 0] 93)) (w.heap.size + 1) 93 #[.string ⟨#[]⟩, .string ⟨#[]⟩, .slice none 0 0] := by
    refine Blk.alloc ?_ _
    have := Blk.new (w.alloc (.cells #[.string sp, .string loc, .slice ap l.length ac, .bool fl, .int .i64 kind, .string text, .int .i64 int, .int .i64 width, .int .u64 bits, .bool escp, .string item, .slice kp kn kc] 44)) 93 #[.string ⟨#[]⟩, .string ⟨#[]⟩, .slice none 0 0]
    simpa using this
  have hN1 : Blk (((w.alloc (.cells #[.string sp, .string loc, .slice ap l.length ac, .bool fl, .int .i64 kind, .string text, .int .i64 int, .int .i64 width, .int .u64 bits, .bool escp, .string item, .slice kp kn kc] 44)).alloc
      (.cells #[.string ⟨#[]⟩, .string ⟨#[]⟩, .slice none 0 0] 93)).alloc (.cells #[.string sp, .string loc, .slice none 0 0] 93)) (w.heap.size + 1 + 1) 93 #[.string sp, .string loc, .slice none 0 0] := by
    have := Blk.new ((w.alloc (.cells #[.string sp, .string loc, .slice ap l.length ac, .bool fl, .int .i64 kind, .string text, .int .i64 int, .int .i64 width, .int .u64 bits, .bool escp, .string item, .slice kp kn kc] 44)).alloc
      (.cells #[.string ⟨#[]⟩, .string ⟨#[]⟩, .slice none 0 0] 93)) 93 #[.string sp, .string loc, .slice none 0 0]
    simpa using this
  have hBel : Below w.heap.size w (((w.alloc (.cells #[.string sp, .string loc, .slice ap l.length ac, .bool fl, .int .i64 kind, .string text, .int .i64 int, .int .i64 width, .int .u64 bits, .bool escp, .string item, .slice kp kn kc] 44)).alloc
      (.cells #[.string ⟨#[]⟩, .string ⟨#[]⟩, .slice none 0 0] 93)).alloc (.cells #[.string sp, .string loc, .slice none 0 0] 93)) :=
    (((Below.refl _ _).alloc (Nat.le_refl _) _).alloc (by simp) _).alloc (by simp; omega) _
  have HN0 := Lib.hid hN0
  have HN1 := Lib.hid hN1
  have HBEL := Lib.hid hBel
  clear hN0 hN1 hBel
  go_loopg [15] l.length (fun gk iv wr => ∃ (k : Nat) (v : Value), gk = l.length - k ∧ k ≤ l.length ∧ iv = .int .i64 k ∧ Blk wr (w.heap.size + 1) 93 #[.string ⟨#[]⟩, .string ⟨#[]⟩, .slice none 0 0] ∧ Blk wr (w.heap.size + 1 + 1) 93 #[.string sp, .string loc, v] ∧
    wr.ownsRow w.heap.size 171 3 v k ((l.take k).flatMap AttrS.cells) ∧ Below w.heap.size w wr)
  case atStart => exact ⟨0, _, rfl, Nat.zero_le _, rfl, HN0.out, HN1.out, ⟨rfl, .inl ⟨rfl, rfl⟩⟩, HBEL.out⟩
  case round =>
    obtain ⟨k, v, hgk, hk, rfl, hb0, hb1, hown, hbel⟩ := hrel
    obtain ⟨vp, vn, vc, rfl⟩ : ∃ ap an ac, v = .slice ap an ac := by
      rcases hown.2 with ⟨rfl, _⟩ | ⟨g, cap, cur, rfl, _⟩
      · exact ⟨_, _, _, rfl⟩
      · exact ⟨_, _, _, rfl⟩
    have e0 := hb1.cell 0
    have e1 := hb1.cell 1
    have e2 := hb1.cell 2
    have fz1 := hb1.frozen
    have r0 := hb0.cell 0
    have r1 := hb0.cell 1
    have r2 := hb0.cell 2
    have fz0 := hb0.frozen
    have H0 := Lib.hid hb0
    have H1 := Lib.hid hb1
    have HO := Lib.hid hown
    have HB := Lib.hid hbel
    have HG := Lib.hid hgk
    clear hb0 hb1 hown hbel hgk HN0 HN1 HBEL
    by_cases hkl : k < l.length
    · rcases HAT.out.cases with ⟨h, rfl⟩ | ⟨g, cap, cur, h, hg, hl, hm, hcs, ht⟩
      · simp at hkl
      cases h
      have hgr : wr.heap[g]? = some (.cells cur 49 (0, 0)) := (HB.out.block g (Blk.lt (t := 49) (cs := cur) hg)).trans hg
      have a0 : wr.cell? ⟨g, k * 3, none⟩ = some (.string l[k].sp) := AttrsT.cell hgr ht k 0 hkl (by omega)
      have a1 : wr.cell? ⟨g, k * 3 + 1, none⟩ = some (.string l[k].loc) := AttrsT.cell hgr ht k 1 hkl (by omega)
      have a2 : wr.cell? ⟨g, k * 3 + 2, none⟩ = some (.string l[k].val) := AttrsT.cell hgr ht k 2 hkl (by omega)
      clear hg hl hcs ht hgr r0 r1 r2
      unfold maxLen at hm
      have q1 : IntKind.i64.wrap ((k : Int) + 1) = (k : Int) + 1 := by rw [IntKind.wrap_i64]; omega
      obtain ⟨V, hV⟩ : ∃ V, wr.alloc (.cells #[.string l[k].sp, .string l[k].loc, .string l[k].val] 49) = V := ⟨_, rfl⟩
      have v1 : Blk V (w.heap.size + 1 + 1) 93 #[.string sp, .string loc, .slice vp vn vc] := by rw [← hV]; exact H1.out.alloc _
      have v0 : Blk V (w.heap.size + 1) 93 #[.string ⟨#[]⟩, .string ⟨#[]⟩, .slice none 0 0] := by rw [← hV]; exact H0.out.alloc _
      have va : Blk V wr.heap.size 49 #[.string l[k].sp, .string l[k].loc, .string l[k].val] := by rw [← hV]; exact Blk.new _ _ _
      have HOV : Hid (V.ownsRow w.heap.size 171 3 (.slice vp vn vc) k ((l.take k).flatMap AttrS.cells)) := Lib.hid (by rw [← hV]; exact HO.out.alloc _)
      have HBV : Hid (Below w.heap.size w V) := Lib.hid (by rw [← hV]; exact HB.out.alloc HB.out.size _)
      have e2 := v1.cell 2
      have b0 := va.cell 0
      have b1 := va.cell 1
      have b2 := va.cell 2
      have HV0 := Lib.hid v0
      have HV1 := Lib.hid v1
      have HVE : Hid ((.slice vp vn vc : Value).ownBlock ≠ some (w.heap.size + 1) ∧ (.slice vp vn vc : Value).ownBlock ≠ some (w.heap.size + 1 + 1)) := Lib.hid ⟨owns_ne HOV.out v0 (by decide), owns_ne HOV.out v1 (by decide)⟩
      clear v0 v1 va e0 e1 fz1 fz0
      go_wp2_with ((at_builtin; refine wpList_append_own _ rfl _ _ 91 rfl w.heap.size 171 i0 (.agg #[.string ⟨#[]⟩, .string ⟨#[]⟩, .string ⟨#[]⟩]) 3 48 Tryz.underlying91 hi hz0 hz1 hz2 rfl (by decide) _ _ _ rfl (HOV.out.alloc _) ⟨V.heap.size, 0, none⟩ 1 1 [.string l[k].sp, .string l[k].loc, .string l[k].val] rfl rfl ?c1 ?c2 ?c3 ?c4 ?c5 ?_))
      case c1 => exact World.news_of_block (cs := #[.string l[k].sp, .string l[k].loc, .string l[k].val]) (t := 171) (fr := (0, 0)) (heap_alloc_new V _)
      case c2 => simp [Value.oneCell']
      case c3 => unfold maxLen; omega
      case c4 => omega
      case c5 => have := HBV.out.size; simp; omega
      intro v2 w2 hown2 hgrow _
      obtain ⟨vp2, vn2, vc2, rfl⟩ : ∃ ap an ac, v2 = .slice ap an ac := by
        rcases hown2.2 with ⟨rfl, _⟩ | ⟨g, cap, cur, rfl, _⟩
        · exact ⟨_, _, _, rfl⟩
        · exact ⟨_, _, _, rfl⟩
      have n0 := blk_grown (HV0.out.alloc _) hgrow HVE.out.1
      have n1 := blk_grown (HV1.out.alloc _) hgrow HVE.out.2
      have fz1 := n1.frozen
      have e2 := n1.cell 2
      have HN0 := Lib.hid n0
      have HN1 := Lib.hid n1
      have HO2 := Lib.hid hown2
      have HB2 : Hid (Below w.heap.size w w2) := Lib.hid (below_grown (HBV.out.alloc HBV.out.size _) hgrow (fun j hj => (HOV.out.lt j hj).1) (by have := HBV.out.size; simp; omega))
      clear n0 n1 hown2 hgrow b0 b1 b2
      go_wp2_with fail
      go_roundg (l.length - (k + 1))
      case rel =>
        refine ⟨k + 1, .slice vp2 vn2 vc2, rfl, by omega, by go_num, HN0.out.far (by simp) _, (HN1.out.set 2 _).eq rfl, ?_, HB2.out.setCell (by simp; omega) _⟩
        rw [List.take_succ_eq_append_getElem hkl, List.flatMap_append]
        have := owns_fr (M := fun j => j = w.heap.size + 1 + 1) HO2.out (Fr.setCell (M := fun j => j = w.heap.size + 1 + 1) (Fr.refl _ _) (p := ⟨w.heap.size + 1 + 1, 2, none⟩) rfl (.slice vp2 vn2 vc2)) (fun j hj e => by subst e; exact owns_ne HO2.out HN1.out (by decide) hj)
        simpa [AttrS.cells] using this
      case measure => have := HG.out; omega
    · obtain rfl : k = l.length := by omega
      have hfa : AttrsH wr (.slice vp vn vc) l := by
        have := HO.out
        rw [List.take_length] at this
        exact ⟨this.1, by
          rcases this.2 with h | ⟨g, cap, cur, h1, h2, h3⟩
          · exact .inl h
          · exact .inr ⟨g, cap, cur, h1, Nat.zero_le _, h3⟩⟩
      have hlo : ∀ g, (.slice vp vn vc : Value).ownBlock = some g → w.heap.size ≤ g := fun g hg => (HO.out.lt g hg).1
      have hne : (.slice vp vn vc : Value).ownBlock ≠ some (w.heap.size + 1) := owns_ne HO.out H0.out (by decide)
      have HFA := Lib.hid hfa
      have HLO := Lib.hid hlo
      have HNE := Lib.hid hne
      clear hfa hlo hne
      go_wp2_with fail
      obtain ⟨V, hV⟩ : ∃ V, ((wr.setCell ⟨w.heap.size + 1, 0, none⟩ (.string sp)).setCell ⟨w.heap.size + 1, 1, none⟩ (.string loc)).setCell ⟨w.heap.size + 1, 2, none⟩ (.slice vp vn vc) = V := ⟨_, rfl⟩
      rw [hV]
      have hf : Fr (fun j => j = w.heap.size + 1) wr V := by
        rw [← hV]
        exact ((Fr.one _ _ 0 _).trans (Fr.one _ _ 1 _)).trans (Fr.one _ _ 2 _)
      have hB : Below w.heap.size w V := by
        rw [← hV]
        exact ((HB.out.setCell (by simp) _).setCell (by simp) _).setCell (by simp) _
      have hV3 : Blk V (w.heap.size + 1) 93 #[.string sp, .string loc, .slice vp vn vc] := by
        rw [← hV]
        exact (((H0.out.set 0 _).set 1 _).set 2 _).eq rfl
      have k0 := hV3.cell 0
      have k1 := hV3.cell 1
      have k2 := hV3.cell 2
      exact bodyPost_ret (v := .agg #[.string sp, .string loc, .slice vp vn vc]) (by simp [results, Tryz.results47, go_sem, k0, k1, k2]) rfl (HFIN.out _ V (HFA.out.fr hf fun g hg e => HNE.out (e ▸ hg)) HLO.out hB)

end Go.Proofs.YtlljphipglgjiaaGreatDoor

namespace Go.Proofs.YtlljphipglgjiaaGreatDoor
open Go.RowKit Go.Lib
set_option linter.unusedSimpArgs false

set_option maxRecDepth 100000 in
set_option maxHeartbeats 4000000 in
theorem value_string (M : Nat → Prop) (b : Nat) (bs : List UInt8) (sa : Option Addr) (sp loc : ByteArray) (vp : Option Addr) (vn vc : Nat) (fv : Bool)
    (sp2 loc2 : ByteArray) (ap : Option Addr) (an ac : Nat) (fl : Bool) (text : ByteArray) (int width bits : Int) (escp : Bool) (item : ByteArray) (kp : Option Addr) (kn kc : Nat) (w : World)
    (h : EncB M w b bs) (hloc : 0 < loc.size) (hlim : bs.length + 20 * sp.size + 20 * loc.size + 20 * text.size + 100 ≤ 50000000) :
    Calls Tryz.prog 45 #[.agg #[wr b, .pointer sa, .string sp, .string loc, .slice vp vn vc, .bool fv], .agg (nodeCs sp2 loc2 ap an ac fl 1 text int width bits escp item kp kn kc)] w
      fun e w' => e = .returned (.tuple #[]) ∧ EncB M w' b (bs ++ esc text.data.toList ++ endTag sp loc) ∧ Fr M w w' := by
  have hN := h.newM
  have HB := Lib.hid ((h.alloc (.cells #[wr b, .pointer sa, .string sp, .string loc, .slice vp vn vc, .bool fv] 95)).alloc (.cells (nodeCs sp2 loc2 ap an ac fl 1 text int width bits escp item kp kn kc) 44))
  have HF := Lib.hid (((Fr.refl M w).alloc hN (.cells #[wr b, .pointer sa, .string sp, .string loc, .slice vp vn vc, .bool fv] 95)).alloc hN (.cells (nodeCs sp2 loc2 ap an ac fl 1 text int width bits escp item kp kn kc) 44))
  clear h
  unfold nodeCs wr at *
  go_enter Tryz.func45, Tryz.ntmps45
  go_wp2_with fail
  refine (string_any M b bs _ _ _ sp loc text _ HB.out hloc hlim).mono ?_
  rintro e w2 ⟨rfl, h2, hf2⟩
  have H2 := Lib.hid h2
  have HF2 := Lib.hid (HF.out.trans hf2)
  clear h2 hf2
  go_wp2_with fail
  go_end0
  exact ⟨rfl, H2.out, HF2.out⟩

set_option maxRecDepth 100000 in
set_option maxHeartbeats 4000000 in
theorem value_none (M : Nat → Prop) (b : Nat) (bs : List UInt8) (sa : Option Addr) (sp loc : ByteArray) (vp : Option Addr) (vn vc : Nat) (fv : Bool)
    (sp2 loc2 : ByteArray) (ap : Option Addr) (an ac : Nat) (fl : Bool) (text : ByteArray) (int width bits : Int) (escp : Bool) (item : ByteArray) (kp : Option Addr) (kn kc : Nat) (w : World)
    (h : EncB M w b bs) (hloc : 0 < loc.size) (hlim : bs.length + 20 * sp.size + 20 * loc.size + 100 ≤ 50000000) :
    Calls Tryz.prog 45 #[.agg #[wr b, .pointer sa, .string sp, .string loc, .slice vp vn vc, .bool fv], .agg (nodeCs sp2 loc2 ap an ac fl 0 text int width bits escp item kp kn kc)] w
      fun e w' => e = .returned (.tuple #[]) ∧ EncB M w' b (bs ++ endTag sp loc) ∧ Fr M w w' := by
  have hN := h.newM
  have HB := Lib.hid ((h.alloc (.cells #[wr b, .pointer sa, .string sp, .string loc, .slice vp vn vc, .bool fv] 95)).alloc (.cells (nodeCs sp2 loc2 ap an ac fl 0 text int width bits escp item kp kn kc) 44))
  have HF := Lib.hid (((Fr.refl M w).alloc hN (.cells #[wr b, .pointer sa, .string sp, .string loc, .slice vp vn vc, .bool fv] 95)).alloc hN (.cells (nodeCs sp2 loc2 ap an ac fl 0 text int width bits escp item kp kn kc) 44))
  clear h
  unfold nodeCs wr at *
  go_enter Tryz.func45, Tryz.ntmps45
  go_wp2_with fail
  refine (close_any M b bs _ _ _ sp loc _ HB.out hloc hlim).mono ?_
  rintro e w2 ⟨rfl, h2, hf2⟩
  have H2 := Lib.hid h2
  have HF2 := Lib.hid (HF.out.trans hf2)
  clear h2 hf2
  go_wp2_with fail
  go_end0
  exact ⟨rfl, H2.out, HF2.out⟩

end Go.Proofs.YtlljphipglgjiaaGreatDoor

namespace Go.Proofs.YtlljphipglgjiaaGreatDoor
open Go.RowKit Go.Lib
set_option linter.unusedSimpArgs false

theorem EncB.same {M M' : Nat → Prop} {w : World} {b : Nat} {bs : List UInt8} (h : EncB M w b bs) (hM : ∀ k, M k ↔ M' k) : EncB M' w b bs := by
  obtain rfl : M = M' := funext fun k => propext (hM k)
  exact h
theorem EncB.withoutRow {M : Nat → Prop} {w : World} {b : Nat} {bs : List UInt8} {v : Value} {l : List AttrS} (h : EncB M w b bs) {cs : Array Value} (hat : AttrsH w v l) (hb : Blk w b 146 cs) : EncB (fun k => M k ∧ v.ownBlock ≠ some k) w b bs := by
  rcases hat.cases with ⟨rfl, _⟩ | ⟨g, cap, cur, rfl, hg, _⟩
  · exact h.same fun k => ⟨fun h => ⟨h, by simp [Value.ownBlock]⟩, fun h => h.1⟩
  · refine (h.without hg (by decide) ?_).same fun k => ⟨fun h => ⟨h.1, fun e => h.2 (by simpa [Value.ownBlock] using e.symm)⟩, fun h => ⟨h.1, fun e => h.2 (by simp [Value.ownBlock, e])⟩⟩
    rintro rfl
    unfold Blk at hb
    rw [hg] at hb
    injection hb with hb
    injection hb with _ hb _
    exact absurd hb (by decide)
theorem EncB.blk {M : Nat → Prop} {w : World} {b : Nat} {bs : List UInt8} (h : EncB M w b bs) : ∃ cs, Blk w b 146 cs := by
  obtain ⟨hb, hN, hT, hl, buf, lr, hblk, _⟩ := h
  exact ⟨_, hblk⟩
theorem encB_new (M : Nat → Prop) (w : World) (b : Nat) (hT : Tabs M w) (hN : New M w) (hb : M b) (hblk : Blk w b 146 encCs) : EncB M w b [] :=
  ⟨hb, hN, hT, by simp, .slice none 0 0, 0, hblk.eq rfl, by decide, rfl, BufH.nil _, fun g hg => by simp [Value.ownBlock] at hg⟩

end Go.Proofs.YtlljphipglgjiaaGreatDoor
