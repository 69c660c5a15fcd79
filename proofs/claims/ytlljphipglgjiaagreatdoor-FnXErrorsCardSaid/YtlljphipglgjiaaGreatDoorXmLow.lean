/-
  The lowest functions of zxml's Decoder on the good road: getc, mustgetc, ungetc, space over a strings.Reader.
  space: blanks are passed over (zxml's Decoder.space).
  bytes.Buffer, lying at offset o of a block b that holds more: what its methods do to the bytes that it holds.
  DERIVED: THE SHELF's CONTRACTS AT THIS DUMP, IN PLAIN WORDS (tools/lay-plain.mjs out of 'TryzShelf.lean', which tools/lay-shelf.mjs wrote): THE SAME DECLARATIONS UNDER THE SAME NAMES: 'import', 'namespace', 'open', 'def', 'theorem' AND NOTHING ELSE: no command of the shelf's: FOR A HAND-IN. Each laying: the table of numbers ('.._ren') and one theorem, a field a fact of the dump's own or the kernel's comparison; each contract: ONE APPLICATION.
-/
import Derived.Test.YtlljphipglgjiaaGreatDoorXmBase
import Derived.Deep.LoopGhost
import Derived.Lib.UnsafeStr
import Derived.Lib.BufferMore
import Derived.Shelf.Small.Strs
import Derived.Shelf.LaysM
import Derived.Shelf.Bytes.GrowSliceCatch
import Derived.Shelf.Bytes.GrowSlice
import Derived.Shelf.Bytes.TryGrowAt
import Derived.Shelf.Strings.Search1
import Derived.Ground.MzProg
import Derived.Test.YtlljphipglgjiaaGreatDoorProg
namespace Go.Proofs.YtlljphipglgjiaaGreatDoor
open Go.RowKit

/-- What the low functions leave as it is: where the decoder and its reader lie, and the fields that they do not touch. -/
structure LS where
  p : Nat
  rb : Nat
  stk : Option Addr
  free : Option Addr
  nsb : Nat
  nc : Bool
  tcS : ByteArray
  tcL : ByteArray

def lcells (L : LS) (buf : Value) (lr nb line ls off : Int) : Array Value :=
  #[.bool true, .slice none 0 0, .map none, .nilFunc, .string ⟨#[]⟩, .pointer L.stk, .pointer L.free, .map (some L.nsb), .nilIface, .iface 120 (.pointer (some ⟨L.rb, 0, none⟩)), buf, .int .i64 0, .int .i8 lr,
    .bool L.nc, .string L.tcS, .string L.tcL, .int .i64 nb, .nilIface, .int .i64 line, .int .i64 ls, .int .i64 off]

def Cur (s : ByteArray) (i : Nat) (fresh : Bool) (nb : Int) (ri : Nat) : Prop :=
  (fresh = true ∧ nb = -1 ∧ ri = i ∧ i ≤ s.size) ∨ (fresh = false ∧ ri = i + 1 ∧ ∃ h : i < s.size, nb = (s[i].toNat : Int))

/-- The decoder stands at place i of the text s; fresh: nothing has been put back. -/
def Low (w : World) (L : LS) (s : ByteArray) (i : Nat) (fresh : Bool) (buf : Value) : Prop :=
  ∃ (lr nb : Int) (ri : Nat) (pr line ls off : Int), Blk w L.p 197 (lcells L buf lr nb line ls off) ∧ Blk w L.rb 190 #[.string s, .int .i64 ri, .int .i64 pr] ∧ Cur s i fresh nb ri

set_option maxHeartbeats 400000 in
theorem readByte_any (b : Nat) (s : ByteArray) (i : Nat) (pr : Int) (w : World) (hs : s.size ≤ 1000000) (hi : i < s.size) (h : Blk w b 190 #[.string s, .int .i64 i, .int .i64 pr]) :
    Calls Tryz.prog 290 #[.pointer (some ⟨b, 0, none⟩)] w fun e w' => e = .returned (.tuple #[.int .u8 (s[i]).toNat, .nilIface]) ∧ ∃ n, ((w.setCell ⟨b, 2, none⟩ (.int .i64 (-1))).setCell ⟨b, 1, none⟩ (.int .i64 (i + 1))).drewN n = w' := by
  have hc := h.cell
  have hf := h.frozen
  clear h
  go_enter Tryz.func290, Tryz.ntmps290
  go_wp2
  go_quiet (fail)
  go_wp2
  go_quiet (fail)
  go_wp2
  go_ret2
  exact ⟨rfl, _, rfl⟩

set_option maxHeartbeats 400000 in
theorem getc_put (L : LS) (buf : Value) (lr : Int) (b : UInt8) (line ls off : Int) (w : World) (h : Blk w L.p 197 (lcells L buf lr b.toNat line ls off)) :
    Calls Tryz.prog 151 #[.pointer (some ⟨L.p, 0, none⟩)] w fun e w' => e = .returned (.tuple #[.int .u8 b.toNat, .bool true]) ∧ (∃ line ls off, Blk w' L.p 197 (lcells L buf lr (-1) line ls off)) ∧ Fr (· = L.p) w w' := by
  have hb : (b.toNat : Int) ≤ 255 := by have := b.toNat_lt; omega
  have H := h
  have hc := h.cell
  have hf := h.frozen
  unfold lcells at hc
  clear h
  have HH := Lib.hid H
  clear H
  by_cases h10 : ((b.toNat : Int) == 10) = true
  · go_enter Tryz.func151, Tryz.ntmps151
    go_wp2
    go_ret2
    exact ⟨rfl, ⟨_, _, _, (((((HH.out.set 16 _).set 18 _).set 19 _).set 20 _)).eq rfl⟩, ((((Fr.refl _ _).setCell (by simp) _).setCell (by simp) _).setCell (by simp) _).setCell (by simp) _⟩
  · have h10' : ((b.toNat : Int) == 10) = false := by simpa using h10
    clear h10
    go_enter Tryz.func151, Tryz.ntmps151
    go_wp2
    go_ret2
    exact ⟨rfl, ⟨_, _, _, (((HH.out.set 16 _).set 20 _)).eq rfl⟩, ((Fr.refl _ _).setCell (by simp) _).setCell (by simp) _⟩

theorem method_ReadByte (a : Addr) (w : World) : (method 496 120 (.pointer (some a)) "ReadByte").run Tryz.prog w = .ok (290, .pointer (some a)) w := by kernel_rfl

set_option maxRecDepth 100000 in
set_option maxHeartbeats 400000 in
theorem getc_read (L : LS) (buf : Value) (lr : Int) (s : ByteArray) (i : Nat) (pr line ls off : Int) (w : World) (hs : s.size ≤ 1000000) (hi : i < s.size) (h : Blk w L.p 197 (lcells L buf lr (-1) line ls off))
    (hr : Blk w L.rb 190 #[.string s, .int .i64 i, .int .i64 pr]) :
    Calls Tryz.prog 151 #[.pointer (some ⟨L.p, 0, none⟩)] w fun e w' => e = .returned (.tuple #[.int .u8 (s[i]).toNat, .bool true]) ∧ (∃ line ls off, Blk w' L.p 197 (lcells L buf lr (-1) line ls off)) ∧
      (∃ pr, Blk w' L.rb 190 #[.string s, .int .i64 (i + 1), .int .i64 pr]) ∧ Fr (fun k => k = L.p ∨ k = L.rb) w w' := by
  have hne : L.p ≠ L.rb := h.ne hr (by decide)
  have hc := h.cell
  have hf := h.frozen
  unfold lcells at hc
  have HH := Lib.hid h
  have HR := Lib.hid hr
  have hm := method_ReadByte
  clear h hr
  go_enter Tryz.func151, Tryz.ntmps151
  go_wp2_with fail
  refine (readByte_any L.rb s i pr _ hs hi ?_).mono ?_
  · exact HR.out
  · rintro e w' ⟨rfl, n, rfl⟩
    go_wp2_with fail
    · go_ret2
      exact ⟨rfl, ⟨_, _, _, ((((((((HH.out.far hne _).far hne _).drewN n).set 17 _).set 18 _).set 19 _).set 20 _)).eq rfl⟩,
        ⟨_, ((((((((HR.out.set 2 _).set 1 _).drewN n).far (Ne.symm hne) _).far (Ne.symm hne) _).far (Ne.symm hne) _).far (Ne.symm hne) _)).eq rfl⟩,
        (((((((Fr.refl _ _).setCell (by simp) _).setCell (by simp) _).drewN n).setCell (by simp) _).setCell (by simp) _).setCell (by simp) _).setCell (by simp) _⟩
    · go_ret2
      exact ⟨rfl, ⟨_, _, _, ((((((HH.out.far hne _).far hne _).drewN n).set 17 _).set 20 _)).eq rfl⟩,
        ⟨_, ((((((HR.out.set 2 _).set 1 _).drewN n).far (Ne.symm hne) _).far (Ne.symm hne) _)).eq rfl⟩,
        (((((Fr.refl _ _).setCell (by simp) _).setCell (by simp) _).drewN n).setCell (by simp) _).setCell (by simp) _⟩

theorem Low.ne {w : World} {L : LS} {s : ByteArray} {i : Nat} {f : Bool} {buf : Value} (h : Low w L s i f buf) : L.p ≠ L.rb := by
  obtain ⟨_, _, _, _, _, _, _, h1, h2, _⟩ := h
  exact h1.ne h2 (by decide)

theorem Low.le {w : World} {L : LS} {s : ByteArray} {i : Nat} {f : Bool} {buf : Value} (h : Low w L s i f buf) : i ≤ s.size := by
  obtain ⟨_, _, _, _, _, _, _, _, _, h | ⟨_, _, h, _⟩⟩ := h
  · exact h.2.2.2
  · omega

/-- A frame that spares the two blocks leaves the decoder where it stands. -/
theorem Low.fr {M : Nat → Prop} {w w' : World} {L : LS} {s : ByteArray} {i : Nat} {f : Bool} {buf : Value} (h : Low w L s i f buf) (hf : Fr M w w') (hp : ¬ M L.p) (hr : ¬ M L.rb) : Low w' L s i f buf := by
  obtain ⟨lr, nb, ri, pr, line, ls, off, h1, h2, h3⟩ := h
  exact ⟨lr, nb, ri, pr, line, ls, off, h1.fr hf hp, h2.fr hf hr, h3⟩

/-- getc at a place where there is a byte. -/
theorem getc_low (L : LS) (s : ByteArray) (i : Nat) (f : Bool) (buf : Value) (w : World) (h : Low w L s i f buf) (hs : s.size ≤ 1000000) (hi : i < s.size) :
    Calls Tryz.prog 151 #[.pointer (some ⟨L.p, 0, none⟩)] w fun e w' => e = .returned (.tuple #[.int .u8 (s[i]).toNat, .bool true]) ∧ Low w' L s (i + 1) true buf ∧ Fr (fun k => k = L.p ∨ k = L.rb) w w' := by
  have hne := h.ne
  obtain ⟨lr, nb, ri, pr, line, ls, off, h1, h2, hc⟩ := h
  rcases hc with ⟨rfl, rfl, rfl, _⟩ | ⟨rfl, rfl, _, rfl⟩
  · refine (getc_read L buf lr s ri pr line ls off w hs hi h1 h2).mono ?_
    rintro e w' ⟨he, ⟨line', ls', off', h1'⟩, ⟨pr', h2'⟩, hf⟩
    exact ⟨he, ⟨lr, -1, ri + 1, pr', line', ls', off', h1', by simpa using h2', .inl ⟨rfl, rfl, rfl, by omega⟩⟩, hf⟩
  · refine (getc_put L buf lr s[i] line ls off w h1).mono ?_
    rintro e w' ⟨he, ⟨line', ls', off', h1'⟩, hf⟩
    exact ⟨he, ⟨lr, -1, i + 1, pr, line', ls', off', h1', h2.fr hf (fun e => hne e.symm), .inl ⟨rfl, rfl, rfl, by omega⟩⟩, hf.mono fun _ hx => .inl hx⟩

set_option maxHeartbeats 400000 in
theorem mustgetc_low (L : LS) (s : ByteArray) (i : Nat) (f : Bool) (buf : Value) (w : World) (h : Low w L s i f buf) (hs : s.size ≤ 1000000) (hi : i < s.size) :
    Calls Tryz.prog 154 #[.pointer (some ⟨L.p, 0, none⟩)] w fun e w' => e = .returned (.tuple #[.int .u8 (s[i]).toNat, .bool true]) ∧ Low w' L s (i + 1) true buf ∧ Fr (fun k => k = L.p ∨ k = L.rb) w w' := by
  have H := Lib.hid h
  clear h
  go_enter Tryz.func154, Tryz.ntmps154
  go_wp2_with fail
  refine (getc_low L s i f buf _ H.out hs hi).mono ?_
  rintro e w1 ⟨rfl, h1, hf⟩
  have H1 := Lib.hid h1
  have HF := Lib.hid hf
  clear h1 hf
  go_wp2_with fail
  go_ret2
  exact ⟨rfl, H1.out, HF.out⟩

set_option maxRecDepth 100000 in
set_option maxHeartbeats 400000 in
theorem ungetc_low (L : LS) (s : ByteArray) (i : Nat) (buf : Value) (w : World) (hi : i < s.size) (h : Low w L s (i + 1) true buf) :
    Calls Tryz.prog 152 #[.pointer (some ⟨L.p, 0, none⟩), .int .u8 (s[i]).toNat] w fun e w' => e = .returned (.tuple #[]) ∧ Low w' L s i false buf ∧ Fr (fun k => k = L.p ∨ k = L.rb) w w' := by
  have hne := h.ne
  obtain ⟨lr, nb, ri, pr, line, ls, off, h1, h2, hcu⟩ := h
  rcases hcu with ⟨_, rfl, rfl, _⟩ | ⟨h, _⟩
  case inr => cases h
  have hb : ((s[i]).toNat : Int) ≤ 255 := by have := (s[i]).toNat_lt; omega
  have hc := h1.cell
  have hf := h1.frozen
  unfold lcells at hc
  have HH := Lib.hid h1
  have HR := Lib.hid h2
  clear h1 h2
  by_cases h10 : (((s[i]).toNat : Int) == 10) = true
  · go_enter Tryz.func152, Tryz.ntmps152
    go_wp2_with fail
    go_end0
    exact ⟨rfl, ⟨lr, _, _, pr, _, _, _, ((((HH.out.set 18 _).set 16 _).set 20 _)).eq rfl, (((HR.out.far (Ne.symm hne) _).far (Ne.symm hne) _).far (Ne.symm hne) _), .inr ⟨rfl, rfl, hi, rfl⟩⟩,
      (((Fr.refl _ _).setCell (by simp) _).setCell (by simp) _).setCell (by simp) _⟩
  · have h10' : (((s[i]).toNat : Int) == 10) = false := by simpa using h10
    clear h10
    go_enter Tryz.func152, Tryz.ntmps152
    go_wp2_with fail
    go_end0
    exact ⟨rfl, ⟨lr, _, _, pr, _, _, _, (((HH.out.set 16 _).set 20 _)).eq rfl, ((HR.out.far (Ne.symm hne) _).far (Ne.symm hne) _), .inr ⟨rfl, rfl, hi, rfl⟩⟩,
      ((Fr.refl _ _).setCell (by simp) _).setCell (by simp) _⟩

end Go.Proofs.YtlljphipglgjiaaGreatDoor

namespace Go.Proofs.YtlljphipglgjiaaGreatDoor
open Go.RowKit

def Blank (b : UInt8) : Prop := b.toNat = 32 ∨ b.toNat = 9 ∨ b.toNat = 10 ∨ b.toNat = 13

set_option maxRecDepth 100000 in
set_option maxHeartbeats 400000 in
theorem space_low (L : LS) (s : ByteArray) (i j : Nat) (f : Bool) (buf : Value) (w : World) (h : Low w L s i f buf) (hs : s.size ≤ 1000000) (hij : i ≤ j) (hj : j < s.size)
    (hbl : ∀ k (hk : k < s.size), i ≤ k → k < j → Blank s[k]) (hnb : ¬ Blank s[j]) :
    Calls Tryz.prog 156 #[.pointer (some ⟨L.p, 0, none⟩)] w fun e w' => e = .returned (.tuple #[]) ∧ Low w' L s j false buf ∧ Fr (fun k => k = L.p ∨ k = L.rb) w w' := by
  have H := Lib.hid h
  clear h
  have HB := Lib.hid hbl
  have HN := Lib.hid hnb
  clear hbl hnb
  go_enter Tryz.func156, Tryz.ntmps156
  go_wp2_with fail
  go_loopg [2, 3] (j - i) (fun g _b _ok wr => ∃ (k : Nat) (f' : Bool), g = j - k ∧ i ≤ k ∧ k ≤ j ∧ Low wr L s k f' buf ∧ Fr (fun k => k = L.p ∨ k = L.rb) w wr)
  case atStart => exact ⟨i, f, rfl, Nat.le_refl _, hij, H.out, Fr.refl _ _⟩
  case round =>
    obtain ⟨k, f', hg, hik, hkj, hlow, hfr⟩ := hrel
    have HL := Lib.hid hlow
    have HF := Lib.hid hfr
    have HG := Lib.hid hg
    clear hlow hfr hg
    have hks : k < s.size := by omega
    go_wp2_with fail
    refine (getc_low L s k f' buf _ HL.out hs hks).mono ?_
    rintro e w1 ⟨rfl, h1, hf1⟩
    have H1 := Lib.hid h1
    have HF1 := Lib.hid (HF.out.trans hf1)
    clear h1 hf1
    by_cases hlt : k < j
    · have hb := HB.out k hks hik hlt
      unfold Blank at hb
      have HH := Lib.hid hb
      clear hb
      go_wp2_with fail
      rotate_right
      · have hb := HH.out
        exfalso
        simp only [beq_eq_false_iff_ne, ne_eq] at *
        omega
      all_goals
        go_roundg (j - (k + 1))
        case rel => exact ⟨k + 1, true, rfl, by omega, by omega, H1.out, HF1.out⟩
        case measure => have := HG.out; omega
    · obtain rfl : k = j := by omega
      have hb := HN.out
      unfold Blank at hb
      have HH := Lib.hid hb
      clear hb
      go_wp2_with fail
      rotate_right
      · refine (ungetc_low L s k buf _ hks H1.out).mono ?_
        rintro e w2 ⟨rfl, h2, hf2⟩
        have H2 := Lib.hid h2
        have HF2 := Lib.hid (HF1.out.trans hf2)
        clear h2 hf2
        go_wp2_with fail
        refine bodyPost_ret (results_none rfl _ _ _) rfl ?_
        exact ⟨rfl, H2.out, HF2.out⟩
      all_goals
        exfalso
        have hb := HH.out
        simp only [beq_iff_eq, beq_eq_false_iff_ne, ne_eq] at *
        omega

end Go.Proofs.YtlljphipglgjiaaGreatDoor

namespace Go.Proofs.YtlljphipglgjiaaGreatDoor
open Go.RowKit

/-- The slice buf holds the bytes bs (in a row of its own, or it is nil). -/
def BufH (w : World) (buf : Value) (bs : List UInt8) : Prop := w.ownsRow 0 5 1 buf bs.length (Lib.byteCells bs)

theorem BufH.cases {w : World} {buf : Value} {bs : List UInt8} (h : BufH w buf bs) :
    (buf = .slice none 0 0 ∧ bs = []) ∨
    ∃ g cap cur, buf = .slice (some ⟨g, 0, none⟩) bs.length cap ∧ w.heap[g]? = some (.cells cur 5 (0, 0)) ∧ bs.length ≤ cap ∧ cap ≤ maxLen ∧ cur.size = cap ∧ cur.toList.take bs.length = Lib.byteCells bs := by
  obtain ⟨h1, ⟨rfl, h2⟩ | ⟨g, cap, cur, rfl, _, hg, hl, hm, hs, ht⟩⟩ := h
  · exact .inl ⟨rfl, List.eq_nil_of_length_eq_zero h2⟩
  · exact .inr ⟨g, cap, cur, rfl, hg, hl, hm, by omega, by simpa using ht⟩

theorem BufH.mk {w : World} {g cap : Nat} {cur : Array Value} {bs : List UInt8} (hg : w.heap[g]? = some (.cells cur 5 (0, 0))) (hl : bs.length ≤ cap) (hm : cap ≤ maxLen) (hs : cur.size = cap)
    (ht : cur.toList.take bs.length = Lib.byteCells bs) : BufH w (.slice (some ⟨g, 0, none⟩) bs.length cap) bs :=
  ⟨by rw [Lib.byteCells_length, Nat.mul_one], .inr ⟨g, cap, cur, rfl, Nat.zero_le _, hg, hl, hm, by omega, by simpa using ht⟩⟩

theorem BufH.nil (w : World) : BufH w (.slice none 0 0) [] := ⟨rfl, .inl ⟨rfl, rfl⟩⟩

/-- A buffer at b + o: cs are the block's cells but for the slice and the last operation. -/
def BufM (M : Nat → Prop) (w : World) (b o : Nat) (T : TypeId) (cs : Array Value) (bs : List UInt8) : Prop :=
  ∃ (buf : Value) (lr : Int), Blk w b T ((cs.setIfInBounds o buf).setIfInBounds (o + 2) (.int .i8 lr)) ∧ o + 2 < cs.size ∧ cs[o + 1]? = some (.int .i64 0) ∧ BufH w buf bs ∧ ∀ g, buf.ownBlock = some g → M g ∧ g ≠ b

section
variable {M : Nat → Prop} {w w' : World} {b o : Nat} {T : TypeId} {cs : Array Value} {bs : List UInt8} {buf : Value} {lr : Int}

theorem buf_c0 (h : Blk w b T ((cs.setIfInBounds o buf).setIfInBounds (o + 2) (.int .i8 lr))) (hs : o + 2 < cs.size) : w.cell? ⟨b, o, none⟩ = some buf := by
  rw [h.cell, Array.getElem?_setIfInBounds_ne (by omega), Array.getElem?_setIfInBounds_self_of_lt (by omega)]
theorem buf_c1 (h : Blk w b T ((cs.setIfInBounds o buf).setIfInBounds (o + 2) (.int .i8 lr))) (h1 : cs[o + 1]? = some (.int .i64 0)) : w.cell? ⟨b, o + 1, none⟩ = some (.int .i64 0) := by
  rw [h.cell, Array.getElem?_setIfInBounds_ne (by omega), Array.getElem?_setIfInBounds_ne (by omega), h1]
theorem buf_c2 (h : Blk w b T ((cs.setIfInBounds o buf).setIfInBounds (o + 2) (.int .i8 lr))) (hs : o + 2 < cs.size) : w.cell? ⟨b, o + 2, none⟩ = some (.int .i8 lr) := by
  rw [h.cell, Array.getElem?_setIfInBounds_self_of_lt (by simpa using hs)]
theorem buf_set0 (h : Blk w b T ((cs.setIfInBounds o buf).setIfInBounds (o + 2) (.int .i8 lr))) (v : Value) : Blk (w.setCell ⟨b, o, none⟩ v) b T ((cs.setIfInBounds o v).setIfInBounds (o + 2) (.int .i8 lr)) :=
  (h.set o v).eq (by
    apply Array.ext_getElem?
    intro k
    simp only [Array.getElem?_setIfInBounds, Array.size_setIfInBounds]
    split <;> split <;> simp_all <;> omega)
theorem buf_set1 (h : Blk w b T ((cs.setIfInBounds o buf).setIfInBounds (o + 2) (.int .i8 lr))) (h1 : cs[o + 1]? = some (.int .i64 0)) : Blk (w.setCell ⟨b, o + 1, none⟩ (.int .i64 0)) b T ((cs.setIfInBounds o buf).setIfInBounds (o + 2) (.int .i8 lr)) :=
  (h.set (o + 1) _).eq (by
    apply Array.ext_getElem?
    intro k
    simp only [Array.getElem?_setIfInBounds, Array.size_setIfInBounds]
    by_cases hk : o + 1 = k
    · subst hk
      have : o + 1 < cs.size := by
        rcases Nat.lt_or_ge (o + 1) cs.size with h | h
        · exact h
        · rw [Array.getElem?_eq_none h] at h1; cases h1
      rw [Array.getElem?_eq_getElem this] at h1
      simp [this, Option.some.inj h1]
    · simp [hk])
theorem buf_set2 (h : Blk w b T ((cs.setIfInBounds o buf).setIfInBounds (o + 2) (.int .i8 lr))) (q : Int) : Blk (w.setCell ⟨b, o + 2, none⟩ (.int .i8 q)) b T ((cs.setIfInBounds o buf).setIfInBounds (o + 2) (.int .i8 q)) :=
  (h.set (o + 2) _).eq (by
    apply Array.ext_getElem?
    intro k
    simp only [Array.getElem?_setIfInBounds, Array.size_setIfInBounds]
    split <;> simp_all)
end

set_option maxHeartbeats 400000 in
theorem buf_Reset (M : Nat → Prop) (b o : Nat) (T : TypeId) (cs : Array Value) (bs : List UInt8) (w : World) (h : BufM M w b o T cs bs) (hb : M b) :
    Calls Tryz.prog 158 #[.pointer (some ⟨b, o, none⟩)] w fun e w' => e = .returned (.tuple #[]) ∧ BufM M w' b o T cs [] ∧ Fr M w w' := by
  obtain ⟨buf, lr, hblk, hs, h1, hB, hM⟩ := h
  have c0 := buf_c0 hblk hs
  have c1 := buf_c1 hblk h1
  have c2 := buf_c2 hblk hs
  have hf := hblk.frozen
  have HB := Lib.hid hblk
  have H1 := Lib.hid h1
  clear hblk h1
  rcases hB.cases with ⟨rfl, rfl⟩ | ⟨g, cap, cur, rfl, hg, hl, hm, hcs, ht⟩
  · go_enter Tryz.func158, Tryz.ntmps158
    go_wp2_with fail
    go_end0
    exact ⟨rfl, ⟨_, _, buf_set2 (buf_set1 (buf_set0 HB.out _) H1.out) _, hs, H1.out, BufH.nil _, fun g hg => by cases hg⟩, (((Fr.refl _ _).setCell hb _).setCell hb _).setCell hb _⟩
  · unfold maxLen at hm
    have hgb := (hM g rfl).2
    have HM := Lib.hid hM
    have HG := Lib.hid hg
    have HC := Lib.hid hcs
    clear hM ht hg hcs
    go_enter Tryz.func158, Tryz.ntmps158
    go_wp2_with fail
    go_end0
    refine ⟨rfl, ⟨_, _, buf_set2 (buf_set1 (buf_set0 HB.out _) H1.out) _, hs, H1.out, BufH.mk (g := g) (cap := cap) (cur := cur) (bs := []) ?_ (Nat.zero_le _) (by unfold maxLen; omega) HC.out rfl, fun g' hg' => HM.out g' hg'⟩, (((Fr.refl _ _).setCell hb _).setCell hb _).setCell hb _⟩
    rw [Below.heap_setCell _ _ _ _ hgb, Below.heap_setCell _ _ _ _ hgb, Below.heap_setCell _ _ _ _ hgb]
    exact HG.out

set_option maxHeartbeats 400000 in
theorem buf_Len (M : Nat → Prop) (b o : Nat) (T : TypeId) (cs : Array Value) (bs : List UInt8) (w : World) (h : BufM M w b o T cs bs) (hl : bs.length ≤ 1000000000) :
    Calls Tryz.prog 164 #[.pointer (some ⟨b, o, none⟩)] w fun e w' => e = .returned (.int .i64 bs.length) ∧ ∃ n, w.drewN n = w' := by
  obtain ⟨buf, lr, hblk, hs, h1, hB, hM⟩ := h
  have c0 := buf_c0 hblk hs
  have c1 := buf_c1 hblk h1
  clear hblk h1 hM hs
  rcases hB.cases with ⟨rfl, rfl⟩ | ⟨g, cap, cur, rfl, hg, hlc, hm, hcs, ht⟩
  all_goals
    clear hB
    try clear ht hg hcs
    go_enter Tryz.func164, Tryz.ntmps164
    go_wp2_with fail
    go_quiet (fail)
    go_wp2_with fail
    go_ret
    exact ⟨rfl, _, rfl⟩

/-- What Bytes hands back: the slice of the buffer, or nil. -/
theorem buf_Bytes (M : Nat → Prop) (b o : Nat) (T : TypeId) (cs : Array Value) (bs : List UInt8) (w : World) (h : BufM M w b o T cs bs) (hl : bs.length ≤ 1000000000) :
    Calls Tryz.prog 160 #[.pointer (some ⟨b, o, none⟩)] w fun e w' => ∃ buf lr, e = .returned buf ∧ Blk w b T ((cs.setIfInBounds o buf).setIfInBounds (o + 2) (.int .i8 lr)) ∧ BufH w buf bs ∧ ∃ n, w.drewN n = w' := by
  obtain ⟨buf, lr, hblk, hs, h1, hB, hM⟩ := h
  have c0 := buf_c0 hblk hs
  have c1 := buf_c1 hblk h1
  have HB := Lib.hid hblk
  have HBB := Lib.hid hB
  clear hblk h1 hM hs
  rcases hB.cases with ⟨rfl, rfl⟩ | ⟨g, cap, cur, rfl, hg, hlc, hm, hcs, ht⟩
  all_goals
    clear hB
    try clear ht hg hcs
    try unfold maxLen at hm
    go_enter Tryz.func160, Tryz.ntmps160
    go_wp2_with fail
    go_quiet (fail)
    go_wp2_with fail
    go_ret
    exact ⟨_, lr, rfl, HB.out, HBB.out, _, rfl⟩

end Go.Proofs.YtlljphipglgjiaaGreatDoor

namespace Go.Proofs
open Go.Shelf
def Tryz.lays137_ren : Go.Shelf.Ren := ⟨fun | 137 => 197 | 217 => 217 | 266 => 242 | n => n, fun | 9 => 9 | 5 => 5 | 3 => 3 | n => n, fun | n => n⟩
theorem Tryz.lays137 : Go.Proofs.Lays.n137 Tryz.prog Tryz.lays137_ren := {
  mixed := by kernel_rfl
  f137 := Tryz.func197.trans (congrArg some (by kernel_rfl))
  f217 := Tryz.func217.trans (congrArg some (by kernel_rfl))
  f266 := Tryz.func242.trans (congrArg some (by kernel_rfl))
  t3 := Tryz.underlying3
  a3 := Tryz.isAgg3
  z3 := Tryz.sizeOf3
  v3 := Tryz.zeroValue3
  t5 := Tryz.underlying5
  a5 := Tryz.isAgg5
  z5 := Tryz.sizeOf5
  v5 := Tryz.zeroValue5
  t9 := Tryz.underlying9
  a9 := Tryz.isAgg9
  z9 := Tryz.sizeOf9
  v9 := Tryz.zeroValue9 }
open Go.RowKit in
/-- strings.IndexByte: "IndexByte returns the index of the first instance of c in s, or -1 if c is not present in s.": IT RETURNS 'Lib.indexByte s c'; the world is as it was. (LAID: no walk: one application.) -/
theorem Tryz.strings_IndexByte (s : ByteArray) (c : Int) (w : World) :
    Calls Tryz.prog 197 #[.string s, .int .u8 c] w fun e w' => e = .returned (.int .i64 (Lib.indexByte s.data.toList c.toNat.toUInt8)) ∧ w' = w := Any.strings_IndexByte Tryz.lays137 s c w
def Tryz.laysM251_ren : Go.Shelf.Ren := ⟨fun | 251 => 194 | n => n, fun | 130 => 84 | 3 => 3 | 4 => 4 | 0 => 0 | 93 => 146 | 37 => 77 | 91 => 144 | 5 => 5 | n => n, fun | n => n⟩
theorem Tryz.laysM251 : Go.Proofs.LaysM.n251 Tryz.prog Tryz.laysM251_ren := {
  mixed := by kernel_rfl
  f251 := Tryz.func194.trans (congrArg some (by kernel_rfl))
  t0 := Tryz.underlying0
  a0 := Tryz.isAgg0
  z0 := Tryz.sizeOf0
  v0 := Tryz.zeroValue0
  t3 := Tryz.underlying3
  a3 := Tryz.isAgg3
  z3 := Tryz.sizeOf3
  v3 := Tryz.zeroValue3
  t4 := Tryz.underlying4
  a4 := Tryz.isAgg4
  z4 := Tryz.sizeOf4
  v4 := Tryz.zeroValue4
  t37 := Tryz.underlying77
  a37 := Tryz.isAgg77
  z37 := Tryz.sizeOf77
  v37 := Tryz.zeroValue77
  t93 := Tryz.underlying146
  a93 := Tryz.isAgg146
  z93 := Tryz.sizeOf146
  v93 := Tryz.zeroValue146
  t130 := Tryz.underlying84
  a130 := Tryz.isAgg84
  z130 := Tryz.sizeOf84
  v130 := Tryz.zeroValue84
  t5 := Tryz.underlying5
  a5 := Tryz.isAgg5
  z5 := Tryz.sizeOf5
  v5 := Tryz.zeroValue5
  t91 := Tryz.underlying144
  a91 := Tryz.isAgg144
  z91 := Tryz.sizeOf144
  v91 := Tryz.zeroValue144
  i0 := by kernel_rfl
  i3 := by kernel_rfl
  i4 := by kernel_rfl
  i5 := by kernel_rfl
  i37 := by kernel_rfl
  i91 := by kernel_rfl
  i93 := by kernel_rfl
  i130 := by kernel_rfl }
def Tryz.laysM324_ren : Go.Shelf.Ren := ⟨fun | 324 => 241 | n => n, fun | 20 => 20 | 4 => 4 | 75 => 69 | 0 => 0 | 80 => 98 | 9 => 9 | n => n, fun | 14 => 3 | n => n⟩
theorem Tryz.laysM324 : Go.Proofs.LaysM.n324 Tryz.prog Tryz.laysM324_ren := {
  mixed := by kernel_rfl
  f324 := Tryz.func241.trans (congrArg some (by kernel_rfl))
  t0 := Tryz.underlying0
  a0 := Tryz.isAgg0
  z0 := Tryz.sizeOf0
  v0 := Tryz.zeroValue0
  t4 := Tryz.underlying4
  a4 := Tryz.isAgg4
  z4 := Tryz.sizeOf4
  v4 := Tryz.zeroValue4
  t20 := Tryz.underlying20
  a20 := Tryz.isAgg20
  z20 := Tryz.sizeOf20
  v20 := Tryz.zeroValue20
  t75 := Tryz.underlying69
  a75 := Tryz.isAgg69
  z75 := Tryz.sizeOf69
  v75 := Tryz.zeroValue69
  g14 := by kernel_rfl
  t9 := Tryz.underlying9
  a9 := Tryz.isAgg9
  z9 := Tryz.sizeOf9
  v9 := Tryz.zeroValue9
  t80 := Tryz.underlying98
  a80 := Tryz.isAgg98
  z80 := Tryz.sizeOf98
  v80 := Tryz.zeroValue98
  i0 := by kernel_rfl
  i4 := by kernel_rfl
  i9 := by kernel_rfl
  i20 := by kernel_rfl
  i75 := by kernel_rfl
  i80 := by kernel_rfl
  m14 := by kernel_rfl }
theorem Tryz.growSlice_catch_idle (w : World) :
    CallsD Tryz.prog 241 #[] .returning w fun e u' w' => e = .returned (.tuple #[]) ∧ u' = .returning ∧ w' = w := Any.growSlice_catch_idle Tryz.laysM324 w
def Tryz.laysM290_ren : Go.Shelf.Ren := ⟨fun | 290 => 216 | 324 => 241 | n => n, fun | 37 => 77 | 3 => 3 | 0 => 0 | 4 => 4 | 20 => 20 | 75 => 69 | 5 => 5 | 80 => 98 | 9 => 9 | n => n, fun | 14 => 3 | n => n⟩
theorem Tryz.laysM290 : Go.Proofs.LaysM.n290 Tryz.prog Tryz.laysM290_ren := {
  mixed := by kernel_rfl
  f290 := Tryz.func216.trans (congrArg some (by kernel_rfl))
  f324 := Tryz.func241.trans (congrArg some (by kernel_rfl))
  t0 := Tryz.underlying0
  a0 := Tryz.isAgg0
  z0 := Tryz.sizeOf0
  v0 := Tryz.zeroValue0
  t3 := Tryz.underlying3
  a3 := Tryz.isAgg3
  z3 := Tryz.sizeOf3
  v3 := Tryz.zeroValue3
  t4 := Tryz.underlying4
  a4 := Tryz.isAgg4
  z4 := Tryz.sizeOf4
  v4 := Tryz.zeroValue4
  t20 := Tryz.underlying20
  a20 := Tryz.isAgg20
  z20 := Tryz.sizeOf20
  v20 := Tryz.zeroValue20
  t37 := Tryz.underlying77
  a37 := Tryz.isAgg77
  z37 := Tryz.sizeOf77
  v37 := Tryz.zeroValue77
  t75 := Tryz.underlying69
  a75 := Tryz.isAgg69
  z75 := Tryz.sizeOf69
  v75 := Tryz.zeroValue69
  g14 := by kernel_rfl
  t5 := Tryz.underlying5
  a5 := Tryz.isAgg5
  z5 := Tryz.sizeOf5
  v5 := Tryz.zeroValue5
  t9 := Tryz.underlying9
  a9 := Tryz.isAgg9
  z9 := Tryz.sizeOf9
  v9 := Tryz.zeroValue9
  t80 := Tryz.underlying98
  a80 := Tryz.isAgg98
  z80 := Tryz.sizeOf98
  v80 := Tryz.zeroValue98
  i0 := by kernel_rfl
  i3 := by kernel_rfl
  i4 := by kernel_rfl
  i5 := by kernel_rfl
  i9 := by kernel_rfl
  i20 := by kernel_rfl
  i37 := by kernel_rfl
  i75 := by kernel_rfl
  i80 := by kernel_rfl
  m14 := by kernel_rfl }
open Go.RowKit in
/-- bytes.growSlice: "growSlice grows b by n, preserving the original content of b.": OF A SLICE THAT LIES AT THE HEAD OF A ROW: a new row, number 'w.heap.size': it begins with b's l cells; its capacity has room for n more; whatever lay below is as it was. (LAID: no walk: one application.) -/
theorem Tryz.bytes_growSlice_row (g l c n : Nat) (cur : Array Value) (w : World) (hg : w.heap[g]? = some (.cells cur 5 (0, 0))) (hcs : cur.size = c) (hlc : l ≤ c) (hn : 1 ≤ n) (hlim : l + n ≤ 140737488355328) (hc2 : c ≤ 140737488355328) (h1 : ∀ v ∈ cur.toList.take l, v.oneCell' = true) :
    Calls Tryz.prog 216 #[.slice (some ⟨g, 0, none⟩) l c, .int .i64 n] w fun e w' => ∃ cap2 cells, e = .returned (.slice (some ⟨w.heap.size, 0, none⟩) l cap2) ∧ w'.heap[w.heap.size]? = some (.cells cells 5 (0, 0)) ∧
      cells.size = cap2 ∧ cells.toList.take l = cur.toList.take l ∧ l + n ≤ cap2 ∧ cap2 ≤ maxLen ∧ Below w.heap.size w w' := Any.bytes_growSlice_row Tryz.laysM290 g l c n cur w hg hcs hlc hn hlim hc2 h1
open Go.RowKit in
/-- .. OF THE NIL SLICE: a new row with room for n. (LAID: no walk: one application.) -/
theorem Tryz.bytes_growSlice_nil (n : Nat) (w : World) (hn : 1 ≤ n) (hlim : n ≤ 140737488355328) :
    Calls Tryz.prog 216 #[.slice none 0 0, .int .i64 n] w fun e w' => ∃ cap2 cells, e = .returned (.slice (some ⟨w.heap.size, 0, none⟩) 0 cap2) ∧ w'.heap[w.heap.size]? = some (.cells cells 5 (0, 0)) ∧
      cells.size = cap2 ∧ n ≤ cap2 ∧ cap2 ≤ maxLen ∧ Below w.heap.size w w' := Any.bytes_growSlice_nil Tryz.laysM290 n w hn hlim
def Tryz.lays217_ren : Go.Shelf.Ren := ⟨fun | 217 => 217 | 266 => 242 | n => n, fun | 9 => 9 | 5 => 5 | 3 => 3 | n => n, fun | n => n⟩
theorem Tryz.lays217 : Go.Proofs.Lays.n217 Tryz.prog Tryz.lays217_ren := {
  mixed := by kernel_rfl
  f217 := Tryz.func217.trans (congrArg some (by kernel_rfl))
  f266 := Tryz.func242.trans (congrArg some (by kernel_rfl))
  t3 := Tryz.underlying3
  a3 := Tryz.isAgg3
  z3 := Tryz.sizeOf3
  v3 := Tryz.zeroValue3
  t5 := Tryz.underlying5
  a5 := Tryz.isAgg5
  z5 := Tryz.sizeOf5
  v5 := Tryz.zeroValue5
  t9 := Tryz.underlying9
  a9 := Tryz.isAgg9
  z9 := Tryz.sizeOf9
  v9 := Tryz.zeroValue9 }
open Go.RowKit Go.Lib in
/-- internal/stringslite.IndexByte (what strings.IndexByte calls): IT RETURNS 'Lib.indexByte s c'; the world is as it was. (LAID: no walk: one application.) -/
theorem Tryz.stringslite_IndexByte (s : ByteArray) (c : Int) (w : World) :
    Calls Tryz.prog 217 #[.string s, .int .u8 c] w fun e w' => e = .returned (.int .i64 (Lib.indexByte s.data.toList c.toNat.toUInt8)) ∧ w' = w := Any.stringslite_IndexByte Tryz.lays217 s c w
open Go.RowKit in
/-- (*bytes.Buffer).tryGrowByReslice: "tryGrowByReslice is an inlineable version of grow for the fast-case where the internal buffer only needs to be resliced. It returns the index where bytes should be written and whether it succeeded.": THERE IS ROOM: 'buf' is resliced to l + n. (LAID: no walk: one application.) -/
theorem Tryz.Buffer_tryGrow_room_at (b q : Nat) (ao : Option Addr) (l cap n : Nat) (w : World) (c0 : w.cell? ⟨b, q, none⟩ = some (.slice ao l cap)) (f0 : w.frozen? ⟨b, q, none⟩ = false) (hlc : l ≤ cap) (hcap : cap ≤ maxLen) (hn : n ≤ cap - l) :
    Calls Tryz.prog 194 #[.pointer (some ⟨b, q, none⟩), .int .i64 n] w fun e w' => e = .returned (.tuple #[.int .i64 l, .bool true]) ∧ w' = w.setCell ⟨b, q, none⟩ (.slice ao (l + n) cap) := Any.Buffer_tryGrow_room_at Tryz.laysM251 b q ao l cap n w c0 f0 hlc hcap hn
open Go.RowKit in
/-- .. THERE IS NONE: nothing turns. (LAID: no walk: one application.) -/
theorem Tryz.Buffer_tryGrow_none_at (b q : Nat) (ao : Option Addr) (l cap n : Nat) (w : World) (c0 : w.cell? ⟨b, q, none⟩ = some (.slice ao l cap)) (hlc : l ≤ cap) (hcap : cap ≤ maxLen) (hn : cap - l < n) :
    Calls Tryz.prog 194 #[.pointer (some ⟨b, q, none⟩), .int .i64 n] w fun e w' => e = .returned (.tuple #[.int .i64 0, .bool false]) ∧ w' = w := Any.Buffer_tryGrow_none_at Tryz.laysM251 b q ao l cap n w c0 hlc hcap hn
end Go.Proofs
