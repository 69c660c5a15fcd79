/-
  The encoder: NewBuffer, NewEncoder, newValue, RootElement, Encoder.String.
-/
import Derived.Test.YtlljphipglgjiaaGreatDoorXmStart2
namespace Go.Proofs.YtlljphipglgjiaaGreatDoor
open Go.RowKit Go.Lib
set_option linter.unusedSimpArgs false

theorem newBuffer_any (w : World) :
    Calls Tryz.prog 44 #[.slice none 0 0] w fun e w' => e = .returned (.pointer (some ⟨w.heap.size, 0, none⟩)) ∧ w.alloc (.cells encCs 146) = w' := by
  go_enter Tryz.func44, Tryz.ntmps44
  go_wp2_with fail
  go_ret
  exact ⟨rfl, rfl⟩

/-- The scratch of an encoder: the block g holds a slice of bytes over the row r. -/
def Scr (w : World) (g r : Nat) : Prop := ∃ (n cap : Nat) (cur : Array Value), Blk w g 77 #[.slice (some ⟨r, 0, none⟩) n cap] ∧ w.heap[r]? = some (.cells cur 5 (0, 0)) ∧ n ≤ cap ∧ cap ≤ maxLen ∧ cur.size = cap

set_option maxRecDepth 100000 in
set_option maxHeartbeats 1000000 in
theorem newEncoder_any (b : Nat) (w : World) :
    Calls Tryz.prog 43 #[wr b] w fun e w' => e = .returned (.pointer (some ⟨w.heap.size + 2, 0, none⟩)) ∧ Blk w' (w.heap.size + 2) 142 #[wr b, .pointer (some ⟨w.heap.size + 1, 0, none⟩)] ∧ Scr w' (w.heap.size + 1) w.heap.size ∧ Below w.heap.size w w' ∧ w'.heap.size = w.heap.size + 3 := by
  have hmk : ∀ w, (Instr.makeSlice 77 (.int .i64 64) (.int .i64 64)).run Tryz.prog w = .ok (.slice (some ⟨w.heap.size, 0, none⟩) 64 64) (w.alloc (.cells (Array.replicate 64 (.int .u8 0)) 5)) := fun _ => by kernel_rfl
  unfold wr
  go_enter Tryz.func43, Tryz.ntmps43
  go_wp2_with fail
  have hz : (Array.replicate 64 (Value.int IntKind.u8 0)).size = 64 := Array.size_replicate
  go_ret
  have b1 : Blk ((w.alloc (.cells (Array.replicate 64 (.int .u8 0)) 5)).alloc (.cells #[.slice (some ⟨w.heap.size, 0, none⟩) 64 64] 77)) (w.heap.size + 1) 77 #[.slice (some ⟨w.heap.size, 0, none⟩) 64 64] := by
    have := Blk.new (w.alloc (.cells (Array.replicate 64 (.int .u8 0)) 5)) 77 #[.slice (some ⟨w.heap.size, 0, none⟩) 64 64]
    simpa using this
  have b0 : Blk (w.alloc (.cells (Array.replicate 64 (.int .u8 0)) 5)) w.heap.size 5 (Array.replicate 64 (.int .u8 0)) := Blk.new _ _ _
  have b2 := Blk.new ((w.alloc (.cells (Array.replicate 64 (.int .u8 0)) 5)).alloc (.cells #[.slice (some ⟨w.heap.size, 0, none⟩) 64 64] 77)) 142 #[wr b, .pointer (some ⟨w.heap.size + 1, 0, none⟩)]
  refine ⟨rfl, by simpa [wr] using b2, ⟨64, 64, Array.replicate 64 (.int .u8 0), b1.alloc _, ((b0.alloc _).alloc _), Nat.le_refl _, by decide, hz⟩, ?_, by simp⟩
  exact (((Below.refl _ _).alloc (Nat.le_refl _) _).alloc (by simp) _).alloc (by simp; omega) _

/-- With a block that is not of bytes, and not the buffer's own, taken out of those that may turn. -/
theorem EncB.without {M : Nat → Prop} {w : World} {b g : Nat} {bs : List UInt8} {cs : Array Value} {T : TypeId} {fr : Nat × Nat} (h : EncB M w b bs) (hg : w.heap[g]? = some (.cells cs T fr)) (hT : T ≠ 5) (hgb : g ≠ b) : EncB (fun k => M k ∧ k ≠ g) w b bs := by
  obtain ⟨hb, hN, hT2, hl, buf, lr, hblk, hs, h1, hB, hM⟩ := h
  have hlt : g < w.heap.size := (Array.getElem?_eq_some_iff.1 hg).1
  refine ⟨⟨hb, fun e => hgb e.symm⟩, fun k hk => ⟨hN k hk, by omega⟩, ⟨hT2.1, fun h => hT2.2.1 h.1, fun h => hT2.2.2 h.1⟩, hl, buf, lr, hblk, hs, h1, hB, fun g' hg' => ⟨⟨(hM g' hg').1, ?_⟩, (hM g' hg').2⟩⟩
  rintro rfl
  rcases hB.cases with ⟨rfl, rfl⟩ | ⟨g2, cap, cur, rfl, hg2, hl, hm, hcs, ht⟩
  · cases hg'
  · cases hg'
    rw [hg2] at hg
    injection hg with hg
    injection hg with _ hg _
    exact hT hg.symm

theorem EncB.alloc {M : Nat → Prop} {w : World} {b : Nat} {bs : List UInt8} (h : EncB M w b bs) (o : Obj) : EncB M (w.alloc o) b bs := h.fr ((Fr.refl _ _).alloc (fun _ hk => hk) o)
theorem EncB.tabs {M : Nat → Prop} {w : World} {b : Nat} {bs : List UInt8} (h : EncB M w b bs) : Tabs M w := h.2.2.1
theorem EncB.newM {M : Nat → Prop} {w : World} {b : Nat} {bs : List UInt8} (h : EncB M w b bs) : New M w := h.2.1

theorem Tabs.lt {M : Nat → Prop} {w : World} (h : Tabs M w) : 4 < w.heap.size ∧ 5 < w.heap.size :=
  ⟨World.block_lt_of_cell? w _ (h.1.1 0 (by decide)), World.block_lt_of_cell? w _ (h.1.2 0 (by decide)).1⟩
/-- A store elsewhere leaves the buffer. -/
theorem EncB.setOther {M : Nat → Prop} {w : World} {b : Nat} {bs : List UInt8} (h : EncB M w b bs) {q : Addr} (hq : ¬ M q.block) (h4 : q.block ≠ 4) (h5 : q.block ≠ 5) (v : Value) : EncB M (w.setCell q v) b bs := by
  obtain ⟨hb, hN, hT, hl, buf, lr, hblk, hs, h1, hB, hM⟩ := h
  have f : Fr (fun k => k = q.block) w (w.setCell q v) := Fr.setCell (M := fun k => k = q.block) (Fr.refl _ _) (show q.block = q.block from rfl) _
  refine ⟨hb, hN.setCell _ _, ⟨⟨fun c hc => (cell_fr f (fun e => h4 e.symm)).trans (hT.1.1 c hc), fun i hi => ⟨(cell_fr f (fun e => h5 e.symm)).trans (hT.1.2 i hi).1, (cell_fr f (fun e => h5 e.symm)).trans (hT.1.2 i hi).2⟩⟩, hT.2⟩, hl, buf, lr, hblk.far (fun e => hq (e ▸ hb)) _, hs, h1, hB.keep' fun g hg cur hcur => f.heap hcur fun e => hq (e ▸ (hM g hg).1), hM⟩

set_option maxRecDepth 100000 in
set_option maxHeartbeats 4000000 in
theorem newValue_any (M : Nat → Prop) (b : Nat) (bs : List UInt8) (sa : Option Addr) (sp loc : ByteArray) (at' : Value) (l : List AttrS) (w : World) (h : EncB M w b bs) (hat : AttrsH w at' l) (hatM : ∀ g, at'.ownBlock = some g → ¬ M g)
    (hloc : 0 < loc.size) (hall : ∀ a ∈ l, 0 < a.loc.size) (hlim : bs.length + 20 * sp.size + 20 * loc.size + attrsSize l + 100 ≤ 50000000) :
    Calls Tryz.prog 99 #[wr b, .pointer sa, .agg #[.string sp, .string loc, at']] w fun e w' => e = .returned (.agg #[wr b, .pointer sa, .string sp, .string loc, at', .bool false]) ∧ EncB M w' b (bs ++ startTag sp loc l) ∧ Fr M w w' := by
  have hN := h.newM
  obtain ⟨ap, an, ac, rfl⟩ : ∃ ap an ac, at' = .slice ap an ac := by
    rcases hat.cases with ⟨rfl, _⟩ | ⟨g, cap, cur, rfl, _⟩
    · exact ⟨_, _, _, rfl⟩
    · exact ⟨_, _, _, rfl⟩
  obtain ⟨W, hW⟩ : ∃ W, (w.alloc (.cells #[.string sp, .string loc, (.slice ap an ac)] 93)).alloc (.cells #[.nilIface, .pointer none, .string ⟨#[]⟩, .string ⟨#[]⟩, .slice none 0 0, .bool false] 95) = W := ⟨_, rfl⟩
  have hb1 : EncB (fun k => M k ∧ k ≠ w.heap.size) (w.alloc (.cells #[.string sp, .string loc, (.slice ap an ac)] 93)) b bs := h.but _
  have hb2 : EncB (fun k => (M k ∧ k ≠ w.heap.size) ∧ k ≠ w.heap.size + 1) W b bs := by
    rw [← hW]
    have := hb1.but (.cells #[.nilIface, .pointer none, .string ⟨#[]⟩, .string ⟨#[]⟩, .slice none 0 0, .bool false] 95)
    simpa using this
  have hf : Fr M w W := by rw [← hW]; exact ((Fr.refl _ _).alloc hN _).alloc hN _
  have hk1 : Blk W w.heap.size 93 #[.string sp, .string loc, (.slice ap an ac)] := by rw [← hW]; exact (Blk.new _ _ _).alloc _
  have hk2 : Blk W (w.heap.size + 1) 95 #[.nilIface, .pointer none, .string ⟨#[]⟩, .string ⟨#[]⟩, .slice none 0 0, .bool false] := by
    rw [← hW]
    have := Blk.new (w.alloc (.cells #[.string sp, .string loc, (.slice ap an ac)] 93)) 95 #[.nilIface, .pointer none, .string ⟨#[]⟩, .string ⟨#[]⟩, .slice none 0 0, .bool false]
    simpa using this
  have hatW : AttrsH W (.slice ap an ac) l := hat.fr hf hatM
  have HB := Lib.hid hb2
  have HF := Lib.hid hf
  have HK1 := Lib.hid hk1
  have HK2 := Lib.hid hk2
  have HAT := Lib.hid hatW
  have HTB := Lib.hid (h.tabs.fr hf)
  have HLT : Hid (w.heap.size + 1 ≠ 4 ∧ w.heap.size + 1 ≠ 5) := Lib.hid (by have := h.tabs.lt; omega)
  clear hb1 hb2 hf hk2 hatW h hat
  unfold wr
  go_enter Tryz.func99, Tryz.ntmps99
  have c0 := hk1.cell 0
  have c1 := hk1.cell 1
  have c2 := hk1.cell 2
  clear hk1
  go_wp2_with fail
  refine (writeStart_any _ b bs sp loc (.slice ap an ac) l W HB.out HAT.out (fun g hg h => hatM g hg h.1.1) hloc hall hlim).mono ?_
  rintro e w2 ⟨rfl, h2, hf2⟩
  have hk1 := HK1.out.fr hf2 (fun h => h.1.2 rfl)
  have hk2 := HK2.out.fr hf2 (fun h => h.2 rfl)
  have c0 := hk1.cell 0
  have c1 := hk1.cell 1
  have c2 := hk1.cell 2
  have d0 := hk2.cell 0
  have d1 := hk2.cell 1
  have d2 := hk2.cell 2
  have d3 := hk2.cell 3
  have d4 := hk2.cell 4
  have d5 := hk2.cell 5
  have fz := hk2.frozen
  have H2 := Lib.hid h2
  have HF2 := Lib.hid hf2
  have HK2' := Lib.hid hk2
  clear h2 hf2 hk1 hk2
  go_wp2_with fail
  obtain ⟨V, hV⟩ : ∃ V, ((((((w2.setCell ⟨w.heap.size + 1, 0, none⟩ (.iface 84 (.pointer (some ⟨b, 0, none⟩)))).setCell ⟨w.heap.size + 1, 1, none⟩ (.pointer sa)).setCell ⟨w.heap.size + 1, 2, none⟩ (.string sp)).setCell
    ⟨w.heap.size + 1, 3, none⟩ (.string loc)).setCell ⟨w.heap.size + 1, 4, none⟩ (.slice ap an ac)).setCell ⟨w.heap.size + 1, 5, none⟩ (.bool false)) = V := ⟨_, rfl⟩
  rw [hV]
  have hn : ∀ q : Nat, ¬ ((M (⟨w.heap.size + 1, q, none⟩ : Addr).block ∧ (⟨w.heap.size + 1, q, none⟩ : Addr).block ≠ w.heap.size) ∧ (⟨w.heap.size + 1, q, none⟩ : Addr).block ≠ w.heap.size + 1) := fun q h => h.2 rfl
  have h45 := HLT.out
  have hV1 : EncB (fun k => (M k ∧ k ≠ w.heap.size) ∧ k ≠ w.heap.size + 1) V b (bs ++ startTag sp loc l) := by
    rw [← hV]
    exact (((((H2.out.setOther (hn 0) h45.1 h45.2 _).setOther (hn 1) h45.1 h45.2 _).setOther (hn 2) h45.1 h45.2 _).setOther (hn 3) h45.1 h45.2 _).setOther (hn 4) h45.1 h45.2 _).setOther (hn 5) h45.1 h45.2 _
  have hMg : M (w.heap.size + 1) := hN _ (by omega)
  have hV2 : Fr M W V := by
    rw [← hV]
    have h0 : Fr M W w2 := HF2.out.mono fun k hk => hk.1.1
    exact (((((h0.setCell (p := ⟨w.heap.size + 1, 0, none⟩) hMg _).setCell (p := ⟨w.heap.size + 1, 1, none⟩) hMg _).setCell (p := ⟨w.heap.size + 1, 2, none⟩) hMg _).setCell (p := ⟨w.heap.size + 1, 3, none⟩) hMg _).setCell (p := ⟨w.heap.size + 1, 4, none⟩) hMg _).setCell (p := ⟨w.heap.size + 1, 5, none⟩) hMg _
  have hV3 : Blk V (w.heap.size + 1) 95 #[.iface 84 (.pointer (some ⟨b, 0, none⟩)), .pointer sa, .string sp, .string loc, .slice ap an ac, .bool false] := by
    rw [← hV]
    exact ((((((HK2'.out.set 0 _).set 1 _).set 2 _).set 3 _).set 4 _).set 5 _).eq rfl
  have k0 := hV3.cell 0
  have k1 := hV3.cell 1
  have k2 := hV3.cell 2
  have k3 := hV3.cell 3
  have k4 := hV3.cell 4
  have k5 := hV3.cell 5
  exact bodyPost_ret (v := .agg #[.iface 84 (.pointer (some ⟨b, 0, none⟩)), .pointer sa, .string sp, .string loc, .slice ap an ac, .bool false]) (by simp [results, Tryz.results99, go_sem, k0, k1, k2, k3, k4, k5]) rfl ⟨rfl, hV1.wide (fun k hk => hk.1.1) (HTB.out.fr hV2), HF.out.trans hV2⟩

end Go.Proofs.YtlljphipglgjiaaGreatDoor
