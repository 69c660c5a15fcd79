/-
  The decoder with the bytes of its buffer: the low functions once more, each with a frame.
-/
import Derived.Test.YtlljphipglgjiaaGreatDoorXmSpace
import Derived.Test.YtlljphipglgjiaaGreatDoorXmWrite2
namespace Go.Proofs.YtlljphipglgjiaaGreatDoor
open Go.RowKit

/-- The decoder stands at place i of s; its buffer holds bs. M: the blocks that may turn (among them the decoder's, and all that are yet to come). -/
def LowB (M : Nat → Prop) (w : World) (L : LS) (s : ByteArray) (i : Nat) (f : Bool) (bs : List UInt8) : Prop :=
  M L.p ∧ M L.rb ∧ New M w ∧ s.size ≤ 1000000 ∧ bs.length ≤ 5000000 ∧ ∃ (buf : Value), Low w L s i f buf ∧ BufH w buf bs ∧ ∀ g, buf.ownBlock = some g → M g ∧ g ≠ L.p

section
variable {M : Nat → Prop} {w w' : World} {L : LS} {s : ByteArray} {i : Nat} {f : Bool} {bs : List UInt8}

theorem BufH.keep {buf : Value} (h : BufH w buf bs) (hk : ∀ g, buf.ownBlock = some g → ∀ cur, w.heap[g]? = some (.cells cur 5 (0, 0)) → w'.heap[g]? = some (.cells cur 5 (0, 0))) : BufH w' buf bs := by
  rcases h.cases with ⟨rfl, rfl⟩ | ⟨g, cap, cur, rfl, hg, hl, hm, hcs, ht⟩
  · exact BufH.nil _
  · exact BufH.mk (hk g rfl cur hg) hl hm hcs ht

theorem LowB.le (h : LowB M w L s i f bs) : i ≤ s.size := by obtain ⟨_, _, _, _, _, _, h, _⟩ := h; exact h.le

/-- Behind a step that turns the decoder's and the reader's block alone. -/
theorem LowB.step {j : Nat} {f' : Bool} {buf : Value} (hMp : M L.p) (hMr : M L.rb) (hN : New M w) (hs : s.size ≤ 1000000) (hbl : bs.length ≤ 5000000) (h0 : Low w L s i f buf) (h : Low w' L s j f' buf) (hB : BufH w buf bs)
    (hM : ∀ g, buf.ownBlock = some g → M g ∧ g ≠ L.p) (hf : Fr (fun k => k = L.p ∨ k = L.rb) w w') : LowB M w' L s j f' bs ∧ Fr M w w' := by
  have hf' : Fr M w w' := hf.mono fun x hx => by rcases hx with rfl | rfl <;> assumption
  refine ⟨⟨hMp, hMr, hN.fr hf, hs, hbl, buf, h, hB.keep fun g hg cur hcur => ?_, hM⟩, hf'⟩
  refine hf.heap hcur ?_
  rintro (rfl | rfl)
  · exact (hM _ hg).2 rfl
  · obtain ⟨_, _, _, _, _, _, _, _, hr, _⟩ := h0
    have hcur' : Blk w L.rb 5 cur := hcur
    exact hr.ne hcur' (by decide) rfl

theorem LowB.toM (h : LowB M w L s i f bs) : ∃ (nb : Int) (ri : Nat) (pr line ls off : Int), BufM M w L.p 10 197 (lcells L (.slice none 0 0) 0 nb line ls off) bs ∧ Blk w L.rb 190 #[.string s, .int .i64 ri, .int .i64 pr] ∧ Cur s i f nb ri := by
  obtain ⟨_, _, _, _, _, buf, ⟨lr, nb, ri, pr, line, ls, off, h1, h2, h3⟩, hB, hM⟩ := h
  exact ⟨nb, ri, pr, line, ls, off, ⟨buf, lr, h1.eq rfl, by show 12 < 21; decide, rfl, hB, hM⟩, h2, h3⟩

theorem LowB.ofM {nb : Int} {ri : Nat} {pr line ls off : Int} (hMp : M L.p) (hMr : M L.rb) (hN : New M w) (hs : s.size ≤ 1000000) (hbl : bs.length ≤ 5000000) (h : BufM M w L.p 10 197 (lcells L (.slice none 0 0) 0 nb line ls off) bs)
    (h2 : Blk w L.rb 190 #[.string s, .int .i64 ri, .int .i64 pr]) (h3 : Cur s i f nb ri) : LowB M w L s i f bs := by
  obtain ⟨buf, lr, hb, -, -, hB, hM⟩ := h
  exact ⟨hMp, hMr, hN, hs, hbl, buf, ⟨lr, nb, ri, pr, line, ls, off, hb.eq rfl, h2, h3⟩, hB, hM⟩

/-- A change of the buffer leaves the reader where it is: its block is neither the decoder's nor a row of bytes; a buffer's step writes those alone. -/
theorem getcB (h : LowB M w L s i f bs) (hi : i < s.size) :
    Calls Tryz.prog 151 #[.pointer (some ⟨L.p, 0, none⟩)] w fun e w' => e = .returned (.tuple #[.int .u8 (s[i]).toNat, .bool true]) ∧ LowB M w' L s (i + 1) true bs ∧ Fr M w w' := by
  obtain ⟨hMp, hMr, hN, hs, hbl, buf, hL, hB, hM⟩ := h
  refine (getc_low L s i f buf w hL hs hi).mono ?_
  rintro e w' ⟨he, h1, hf⟩
  exact ⟨he, LowB.step hMp hMr hN hs hbl hL h1 hB hM hf⟩
theorem mustgetcB (h : LowB M w L s i f bs) (hi : i < s.size) :
    Calls Tryz.prog 154 #[.pointer (some ⟨L.p, 0, none⟩)] w fun e w' => e = .returned (.tuple #[.int .u8 (s[i]).toNat, .bool true]) ∧ LowB M w' L s (i + 1) true bs ∧ Fr M w w' := by
  obtain ⟨hMp, hMr, hN, hs, hbl, buf, hL, hB, hM⟩ := h
  refine (mustgetc_low L s i f buf w hL hs hi).mono ?_
  rintro e w' ⟨he, h1, hf⟩
  exact ⟨he, LowB.step hMp hMr hN hs hbl hL h1 hB hM hf⟩
theorem ungetcB (h : LowB M w L s (i + 1) true bs) (hi : i < s.size) :
    Calls Tryz.prog 152 #[.pointer (some ⟨L.p, 0, none⟩), .int .u8 (s[i]).toNat] w fun e w' => e = .returned (.tuple #[]) ∧ LowB M w' L s i false bs ∧ Fr M w w' := by
  obtain ⟨hMp, hMr, hN, hs, hbl, buf, hL, hB, hM⟩ := h
  refine (ungetc_low L s i buf w hi hL).mono ?_
  rintro e w' ⟨he, h1, hf⟩
  exact ⟨he, LowB.step hMp hMr hN hs hbl hL h1 hB hM hf⟩
theorem spaceB (j : Nat) (h : LowB M w L s i f bs) (hij : i ≤ j) (hj : j < s.size) (hbl : ∀ k (hk : k < s.size), i ≤ k → k < j → Blank s[k]) (hnb : ¬ Blank s[j]) :
    Calls Tryz.prog 156 #[.pointer (some ⟨L.p, 0, none⟩)] w fun e w' => e = .returned (.tuple #[]) ∧ LowB M w' L s j false bs ∧ Fr M w w' := by
  obtain ⟨hMp, hMr, hN, hs, hbl', buf, hL, hB, hM⟩ := h
  refine (space_low L s i j f buf w hL hs hij hj hbl hnb).mono ?_
  rintro e w' ⟨he, h1, hf⟩
  exact ⟨he, LowB.step hMp hMr hN hs hbl' hL h1 hB hM hf⟩
end

section
variable {M : Nat → Prop} {w : World} {L : LS} {s : ByteArray} {i : Nat} {f : Bool} {bs : List UInt8}

theorem LowB.parts (h : LowB M w L s i f bs) : M L.p ∧ M L.rb ∧ New M w ∧ s.size ≤ 1000000 ∧ bs.length ≤ 5000000 := ⟨h.1, h.2.1, h.2.2.1, h.2.2.2.1, h.2.2.2.2.1⟩

/-- The buffer's own blocks: the decoder's and rows that are not the reader's: a step framed by them keeps the reader. -/
theorem buf_Mr {nb : Int} {ri : Nat} {pr line ls off : Int} (h : BufM M w L.p 10 197 (lcells L (.slice none 0 0) 0 nb line ls off) bs) (h2 : Blk w L.rb 190 #[.string s, .int .i64 ri, .int .i64 pr]) :
    BufM (fun k => M k ∧ k ≠ L.rb) w L.p 10 197 (lcells L (.slice none 0 0) 0 nb line ls off) bs := by
  obtain ⟨buf, lr, hb, hs, h1, hB, hM⟩ := h
  refine ⟨buf, lr, hb, hs, h1, hB, fun g hg => ⟨⟨(hM g hg).1, ?_⟩, (hM g hg).2⟩⟩
  rintro rfl
  rcases hB.cases with ⟨rfl, rfl⟩ | ⟨g, cap, cur, rfl, hg2, hl, hm, hcs, ht⟩
  · cases hg
  · have e : g = L.rb := by simpa [Value.ownBlock] using hg
    subst e
    have hcur' : Blk w L.rb 5 cur := hg2
    exact h2.ne hcur' (by decide) rfl
theorem ResetB (h : LowB M w L s i f bs) :
    Calls Tryz.prog 158 #[.pointer (some ⟨L.p, 10, none⟩)] w fun e w' => e = .returned (.tuple #[]) ∧ LowB M w' L s i f [] ∧ Fr M w w' := by
  obtain ⟨hMp, hMr, hN, hs, hbl⟩ := h.parts
  obtain ⟨nb, ri, pr, line, ls, off, hb, h2, h3⟩ := h.toM
  have hne : L.p ≠ L.rb := by obtain ⟨_, _, _, _, _, _, hL, _⟩ := h; exact hL.ne
  have hN' : New (fun k => M k ∧ k ≠ L.rb) w := fun k hk => ⟨hN k hk, by have := h2.lt; omega⟩
  refine (buf_Reset (fun k => M k ∧ k ≠ L.rb) L.p 10 197 _ bs w (buf_Mr hb h2) ⟨hMp, hne⟩).mono ?_
  rintro e w' ⟨he, h1, hf⟩
  have hf' : Fr M w w' := hf.mono fun x hx => hx.1
  obtain ⟨buf, lr, q1, q2, q3, q4, q5⟩ := h1
  exact ⟨he, LowB.ofM hMp hMr (hN.fr hf') hs (by simp) ⟨buf, lr, q1, q2, q3, q4, fun g hg => ⟨(q5 g hg).1.1, (q5 g hg).2⟩⟩ (h2.fr hf fun hx => hx.2 rfl) h3, hf'⟩

theorem WriteByteB (c : UInt8) (h : LowB M w L s i f bs) (hlim : bs.length + 1 ≤ 5000000) :
    Calls Tryz.prog 159 #[.pointer (some ⟨L.p, 10, none⟩), .int .u8 c.toNat] w fun e w' => e = .returned .nilIface ∧ LowB M w' L s i f (bs ++ [c]) ∧ Fr M w w' := by
  obtain ⟨hMp, hMr, hN, hs, hbl⟩ := h.parts
  obtain ⟨nb, ri, pr, line, ls, off, hb, h2, h3⟩ := h.toM
  have hne : L.p ≠ L.rb := by obtain ⟨_, _, _, _, _, _, hL, _⟩ := h; exact hL.ne
  have hN' : New (fun k => M k ∧ k ≠ L.rb) w := fun k hk => ⟨hN k hk, by have := h2.lt; omega⟩
  refine (buf_WriteByte (fun k => M k ∧ k ≠ L.rb) L.p 10 197 _ bs c w (buf_Mr hb h2) ⟨hMp, hne⟩ hN' (by omega)).mono ?_
  rintro e w' ⟨he, h1, hf⟩
  have hf' : Fr M w w' := hf.mono fun x hx => hx.1
  obtain ⟨buf, lr, q1, q2, q3, q4, q5⟩ := h1
  exact ⟨he, LowB.ofM hMp hMr (hN.fr hf') hs (by simpa using hlim) ⟨buf, lr, q1, q2, q3, q4, fun g hg => ⟨(q5 g hg).1.1, (q5 g hg).2⟩⟩ (h2.fr hf fun hx => hx.2 rfl) h3, hf'⟩

theorem WriteStringB (t : ByteArray) (h : LowB M w L s i f bs) (hlim : bs.length + t.size ≤ 5000000) :
    Calls Tryz.prog 190 #[.pointer (some ⟨L.p, 10, none⟩), .string t] w fun e w' => e = .returned (.tuple #[.int .i64 t.size, .nilIface]) ∧ LowB M w' L s i f (bs ++ t.data.toList) ∧ Fr M w w' := by
  obtain ⟨hMp, hMr, hN, hs, hbl⟩ := h.parts
  obtain ⟨nb, ri, pr, line, ls, off, hb, h2, h3⟩ := h.toM
  have hne : L.p ≠ L.rb := by obtain ⟨_, _, _, _, _, _, hL, _⟩ := h; exact hL.ne
  have hN' : New (fun k => M k ∧ k ≠ L.rb) w := fun k hk => ⟨hN k hk, by have := h2.lt; omega⟩
  refine (buf_WriteString (fun k => M k ∧ k ≠ L.rb) L.p 10 197 _ bs t w (buf_Mr hb h2) ⟨hMp, hne⟩ hN' (by omega)).mono ?_
  rintro e w' ⟨he, h1, hf⟩
  have hf' : Fr M w w' := hf.mono fun x hx => hx.1
  obtain ⟨buf, lr, q1, q2, q3, q4, q5⟩ := h1
  have hlen : (bs ++ t.data.toList).length ≤ 5000000 := by
    have e : t.data.toList.length = t.size := by rw [Array.length_toList]; rfl
    rw [List.length_append]; omega
  exact ⟨he, LowB.ofM hMp hMr (hN.fr hf') hs hlen ⟨buf, lr, q1, q2, q3, q4, fun g hg => ⟨(q5 g hg).1.1, (q5 g hg).2⟩⟩ (h2.fr hf fun hx => hx.2 rfl) h3, hf'⟩

theorem TruncateB (n : Nat) (h : LowB M w L s i f bs) (hn : n ≤ bs.length) :
    Calls Tryz.prog 163 #[.pointer (some ⟨L.p, 10, none⟩), .int .i64 n] w fun e w' => e = .returned (.tuple #[]) ∧ LowB M w' L s i f (bs.take n) ∧ Fr M w w' := by
  obtain ⟨hMp, hMr, hN, hs, hbl⟩ := h.parts
  obtain ⟨nb, ri, pr, line, ls, off, hb, h2, h3⟩ := h.toM
  have hne : L.p ≠ L.rb := by obtain ⟨_, _, _, _, _, _, hL, _⟩ := h; exact hL.ne
  have hN' : New (fun k => M k ∧ k ≠ L.rb) w := fun k hk => ⟨hN k hk, by have := h2.lt; omega⟩
  refine (buf_Truncate (fun k => M k ∧ k ≠ L.rb) L.p 10 n 197 _ bs w (buf_Mr hb h2) ⟨hMp, hne⟩ hn (by omega)).mono ?_
  rintro e w' ⟨he, h1, hf⟩
  have hf' : Fr M w w' := hf.mono fun x hx => hx.1
  obtain ⟨buf, lr, q1, q2, q3, q4, q5⟩ := h1
  exact ⟨he, LowB.ofM hMp hMr (hN.fr hf') hs (by rw [List.length_take]; omega) ⟨buf, lr, q1, q2, q3, q4, fun g hg => ⟨(q5 g hg).1.1, (q5 g hg).2⟩⟩ (h2.fr hf fun hx => hx.2 rfl) h3, hf'⟩

theorem LenB (h : LowB M w L s i f bs) :
    Calls Tryz.prog 164 #[.pointer (some ⟨L.p, 10, none⟩)] w fun e w' => e = .returned (.int .i64 bs.length) ∧ LowB M w' L s i f bs ∧ Fr M w w' := by
  obtain ⟨hMp, hMr, hN, hs, hbl⟩ := h.parts
  obtain ⟨nb, ri, pr, line, ls, off, hb, h2, h3⟩ := h.toM
  refine (buf_Len M L.p 10 197 _ bs w hb (by omega)).mono ?_
  rintro e w' ⟨he, n, rfl⟩
  exact ⟨he, h, (Fr.refl _ _).drewN n⟩

theorem BytesB (h : LowB M w L s i f bs) :
    Calls Tryz.prog 160 #[.pointer (some ⟨L.p, 10, none⟩)] w fun e w' => ∃ buf, e = .returned buf ∧ Low w' L s i f buf ∧ BufH w' buf bs ∧ LowB M w' L s i f bs ∧ Fr M w w' := by
  obtain ⟨hMp, hMr, hN, hs, hbl⟩ := h.parts
  obtain ⟨nb, ri, pr, line, ls, off, hb, h2, h3⟩ := h.toM
  refine (buf_Bytes M L.p 10 197 _ bs w hb (by omega)).mono ?_
  rintro e w' ⟨buf, lr, he, hb', hB, n, rfl⟩
  exact ⟨buf, he, ⟨lr, nb, ri, pr, line, ls, off, hb'.eq rfl, h2, h3⟩, hB, h, (Fr.refl _ _).drewN n⟩

end

end Go.Proofs.YtlljphipglgjiaaGreatDoor
