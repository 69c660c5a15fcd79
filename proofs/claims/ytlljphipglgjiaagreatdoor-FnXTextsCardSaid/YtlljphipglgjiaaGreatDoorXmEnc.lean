/-
  The encoder's writer: a bytes.Buffer that stands alone, behind an interface.
-/
import Derived.Test.YtlljphipglgjiaaGreatDoorXmWr
import Derived.Test.YtlljphipglgjiaaGreatDoorShelf2
namespace Go.Proofs.YtlljphipglgjiaaGreatDoor
open Go.RowKit

/-- The two tables of unicode/utf8 lie where they lie, and do not turn. -/
def Tabs (M : Nat → Prop) (w : World) : Prop := Lib.Utf8Tabs 4 5 w ∧ ¬ M 4 ∧ ¬ M 5

theorem cell_fr {M : Nat → Prop} {w w' : World} (f : Fr M w w') {a : Addr} (ha : ¬ M a.block) : w'.cell? a = w.cell? a := by
  simp only [World.cell?, f.block _ ha]
theorem Tabs.fr {M : Nat → Prop} {w w' : World} (h : Tabs M w) (f : Fr M w w') : Tabs M w' :=
  ⟨⟨fun c hc => (cell_fr f h.2.1).trans (h.1.1 c hc), fun i hi => ⟨(cell_fr f h.2.2).trans (h.1.2 i hi).1, (cell_fr f h.2.2).trans (h.1.2 i hi).2⟩⟩, h.2⟩

def encCs : Array Value := #[.slice none 0 0, .int .i64 0, .int .i8 0]
/-- The encoder's buffer is the block b; it holds bs. -/
def EncB (M : Nat → Prop) (w : World) (b : Nat) (bs : List UInt8) : Prop := M b ∧ New M w ∧ Tabs M w ∧ bs.length ≤ 100000000 ∧ BufM M w b 0 146 encCs bs

theorem BufH.keep' {w w' : World} {bs : List UInt8} {buf : Value} (h : BufH w buf bs) (hk : ∀ g, buf.ownBlock = some g → ∀ cur, w.heap[g]? = some (.cells cur 5 (0, 0)) → w'.heap[g]? = some (.cells cur 5 (0, 0))) : BufH w' buf bs := by
  rcases h.cases with ⟨rfl, rfl⟩ | ⟨g, cap, cur, rfl, hg, hl, hm, hcs, ht⟩
  · exact BufH.nil _
  · exact BufH.mk (hk g rfl cur hg) hl hm hcs ht

/-- A step that turns only blocks to come leaves the buffer. -/
theorem EncB.fr {M : Nat → Prop} {w w' : World} {b : Nat} {bs : List UInt8} (h : EncB M w b bs) (f : Fr (fun k => w.heap.size ≤ k) w w') : EncB M w' b bs := by
  obtain ⟨hb, hN, hT, hl, buf, lr, hblk, hs, h1, hB, hM⟩ := h
  have f' : Fr M w w' := f.mono fun x hx => hN x hx
  refine ⟨hb, hN.fr f, hT.fr f', hl, buf, lr, hblk.fr f (by have := hblk.lt; omega), hs, h1, hB.keep' fun g hg cur hcur => f.heap hcur ?_, hM⟩
  have : Blk w g 5 cur := hcur
  have := this.lt
  omega
theorem Fr.ofBelow {w w' : World} (h : Below w.heap.size w w') : Fr (fun k => w.heap.size ≤ k) w w' := Fr.below h (Nat.le_refl _) fun _ hk => hk
theorem EncB.new {M : Nat → Prop} {w w' : World} {b : Nat} {bs : List UInt8} (h : EncB M w b bs) (f : Below w.heap.size w w') : EncB M w' b bs ∧ Fr M w w' :=
  ⟨h.fr (Fr.ofBelow f), (Fr.ofBelow f).mono fun x hx => h.2.1 x hx⟩
/-- With the block to come taken out of those that may turn. -/
theorem EncB.but {M : Nat → Prop} {w : World} {b : Nat} {bs : List UInt8} (h : EncB M w b bs) (o : Obj) : EncB (fun k => M k ∧ k ≠ w.heap.size) (w.alloc o) b bs := by
  obtain ⟨hb, hN, hT, hl, buf, lr, hblk, hs, h1, hB, hM⟩ := h
  have f : Fr (fun k => w.heap.size ≤ k) w (w.alloc o) := (Fr.refl _ _).alloc (fun k hk => hk) o
  have hT' := hT.fr ((Fr.refl M w).alloc hN o)
  refine ⟨⟨hb, by have := hblk.lt; omega⟩, fun k hk => ?_, ⟨hT'.1, fun h => hT'.2.1 h.1, fun h => hT'.2.2 h.1⟩, hl, buf, lr, hblk.fr f (by have := hblk.lt; omega), hs, h1, hB.keep' fun g hg cur hcur => f.heap hcur ?_, fun g hg => ?_⟩
  · simp at hk
    exact ⟨hN k (by omega), by omega⟩
  · have : Blk w g 5 cur := hcur
    have := this.lt
    omega
  · refine ⟨⟨(hM g hg).1, ?_⟩, (hM g hg).2⟩
    rcases hB.cases with ⟨rfl, rfl⟩ | ⟨g', cap, cur, rfl, hg', hl, hm, hcs, ht⟩
    · cases hg
    · cases hg
      have h5 : Blk w g' 5 cur := hg'
      exact Nat.ne_of_lt h5.lt
theorem EncB.wide {M M' : Nat → Prop} {w : World} {b : Nat} {bs : List UInt8} (h : EncB M' w b bs) (hi : ∀ k, M' k → M k) (hT : Tabs M w) : EncB M w b bs := by
  obtain ⟨hb, hN, -, hl, buf, lr, hblk, hs, h1, hB, hM⟩ := h
  exact ⟨hi _ hb, fun k hk => hi _ (hN k hk), hT, hl, buf, lr, hblk, hs, h1, hB, fun g hg => ⟨hi _ (hM g hg).1, (hM g hg).2⟩⟩

theorem EncB.put {M : Nat → Prop} {w w' : World} {b : Nat} {bs bs' : List UInt8} (h : EncB M w b bs) (h2 : BufM M w' b 0 146 encCs bs') (f : Fr M w w') (hl : bs'.length ≤ 100000000) : EncB M w' b bs' :=
  ⟨h.1, h.2.1.fr f, h.2.2.1.fr f, hl, h2⟩

def wr (b : Nat) : Value := .iface 84 (.pointer (some ⟨b, 0, none⟩))

theorem enc_WriteString (M : Nat → Prop) (b : Nat) (bs : List UInt8) (s : ByteArray) (w : World) (h : EncB M w b bs) (hlim : bs.length + s.size ≤ 100000000) :
    Calls Tryz.prog 190 #[.pointer (some ⟨b, 0, none⟩), .string s] w fun e w' => e = .returned (.tuple #[.int .i64 s.size, .nilIface]) ∧ EncB M w' b (bs ++ s.data.toList) ∧ Fr M w w' := by
  have hsl : s.data.toList.length = s.size := by rw [Array.length_toList]; rfl
  refine (buf_WriteString M b 0 146 encCs bs s w h.2.2.2.2 h.1 h.2.1 (by omega)).mono ?_
  rintro e w' ⟨rfl, h1, hf⟩
  exact ⟨rfl, h.put h1 hf (by rw [List.length_append, hsl]; exact hlim), hf⟩
theorem enc_Write (M : Nat → Prop) (b : Nat) (bs news : List UInt8) (n : Nat) (a : Addr) (c : Nat) (w : World) (h : EncB M w b bs) (hsl : news.length = n) (hsrc : SrcB w a news) (ha : ¬ M a.block) (hlim : bs.length + n ≤ 100000000) :
    Calls Tryz.prog 284 #[.pointer (some ⟨b, 0, none⟩), .slice (some a) n c] w fun e w' => e = .returned (.tuple #[.int .i64 n, .nilIface]) ∧ EncB M w' b (bs ++ news) ∧ Fr M w w' := by
  refine (buf_Write M b 0 146 encCs bs news n a c w h.2.2.2.2 h.1 h.2.1 hsl hsrc ha (by omega)).mono ?_
  rintro e w' ⟨rfl, h1, hf⟩
  exact ⟨rfl, h.put h1 hf (by rw [List.length_append, hsl]; exact hlim), hf⟩

set_option maxRecDepth 100000 in
set_option maxHeartbeats 400000 in
theorem enc_WriteRune (M : Nat → Prop) (b : Nat) (bs : List UInt8) (c : UInt8) (w : World) (h : EncB M w b bs) (hc : c.toNat < 128) (hlim : bs.length + 1 ≤ 100000000) :
    Calls Tryz.prog 285 #[.pointer (some ⟨b, 0, none⟩), .int .i32 c.toNat] w fun e w' => e = .returned (.tuple #[.int .i64 1, .nilIface]) ∧ EncB M w' b (bs ++ [c]) ∧ Fr M w w' := by
  have hw1 : IntKind.u32.wrap (c.toNat : Int) = c.toNat := by rw [IntKind.wrap_u32]; omega
  have hw2 : IntKind.u8.wrap (c.toNat : Int) = c.toNat := by rw [IntKind.wrap_u8]; omega
  have HH := Lib.hid h
  clear h
  go_enter Tryz.func285, Tryz.ntmps285
  go_wp2_with fail
  refine (buf_WriteByte M b 0 146 encCs bs c w HH.out.2.2.2.2 HH.out.1 HH.out.2.1 (by omega)).mono ?_
  rintro e w' ⟨rfl, h1, hf⟩
  have H1 := Lib.hid h1
  have HF := Lib.hid hf
  clear h1 hf
  go_wp2_with fail
  go_ret2
  exact ⟨rfl, HH.out.put H1.out HF.out (by simpa using hlim), HF.out⟩

end Go.Proofs.YtlljphipglgjiaaGreatDoor
