/-
  The lowest functions of zxml's Decoder on the good road: getc, mustgetc, ungetc, space over a strings.Reader.
-/
import Derived.Test.YtlljphipglgjiaaGreatDoorXmBase
namespace Go.Proofs.YtlljphipglgjiaaGreatDoor
open Go.RowKit

/-- What the low functions leave as it is: where the decoder and its reader lie, and the fields that they do not touch. -/
structure LS where
  p : Nat
  rb : Nat
  stk : Option Addr
  free : Option Addr
  nsb : Nat
  nc : Bool
  tcS : ByteArray
  tcL : ByteArray

def lcells (L : LS) (buf : Value) (lr nb line ls off : Int) : Array Value :=
  #[.bool true, .slice none 0 0, .map none, .nilFunc, .string ⟨#[]⟩, .pointer L.stk, .pointer L.free, .map (some L.nsb), .nilIface, .iface 120 (.pointer (some ⟨L.rb, 0, none⟩)), buf, .int .i64 0, .int .i8 lr,
    .bool L.nc, .string L.tcS, .string L.tcL, .int .i64 nb, .nilIface, .int .i64 line, .int .i64 ls, .int .i64 off]

def Cur (s : ByteArray) (i : Nat) (fresh : Bool) (nb : Int) (ri : Nat) : Prop :=
  (fresh = true ∧ nb = -1 ∧ ri = i ∧ i ≤ s.size) ∨ (fresh = false ∧ ri = i + 1 ∧ ∃ h : i < s.size, nb = (s[i].toNat : Int))

/-- The decoder stands at place i of the text s; fresh: nothing has been put back. -/
def Low (w : World) (L : LS) (s : ByteArray) (i : Nat) (fresh : Bool) (buf : Value) : Prop :=
  ∃ (lr nb : Int) (ri : Nat) (pr line ls off : Int), Blk w L.p 197 (lcells L buf lr nb line ls off) ∧ Blk w L.rb 190 #[.string s, .int .i64 ri, .int .i64 pr] ∧ Cur s i fresh nb ri

set_option maxHeartbeats 400000 in
theorem readByte_any (b : Nat) (s : ByteArray) (i : Nat) (pr : Int) (w : World) (hs : s.size ≤ 1000000) (hi : i < s.size) (h : Blk w b 190 #[.string s, .int .i64 i, .int .i64 pr]) :
    Calls Tryz.prog 290 #[.pointer (some ⟨b, 0, none⟩)] w fun e w' => e = .returned (.tuple #[.int .u8 (s[i]).toNat, .nilIface]) ∧ ∃ n, ((w.setCell ⟨b, 2, none⟩ (.int .i64 (-1))).setCell ⟨b, 1, none⟩ (.int .i64 (i + 1))).drewN n = w' := by
  have hc := h.cell
  have hf := h.frozen
  clear h
  go_enter Tryz.func290, Tryz.ntmps290
  go_wp2
  go_quiet (fail)
  go_wp2
  go_quiet (fail)
  go_wp2
  go_ret2
  exact ⟨rfl, _, rfl⟩

set_option maxHeartbeats 400000 in
theorem getc_put (L : LS) (buf : Value) (lr : Int) (b : UInt8) (line ls off : Int) (w : World) (h : Blk w L.p 197 (lcells L buf lr b.toNat line ls off)) :
    Calls Tryz.prog 151 #[.pointer (some ⟨L.p, 0, none⟩)] w fun e w' => e = .returned (.tuple #[.int .u8 b.toNat, .bool true]) ∧ (∃ line ls off, Blk w' L.p 197 (lcells L buf lr (-1) line ls off)) ∧ Fr (· = L.p) w w' := by
  have hb : (b.toNat : Int) ≤ 255 := by have := b.toNat_lt; omega
  have H := h
  have hc := h.cell
  have hf := h.frozen
  unfold lcells at hc
  clear h
  have HH := Lib.hid H
  clear H
  by_cases h10 : ((b.toNat : Int) == 10) = true
  · go_enter Tryz.func151, Tryz.ntmps151
    go_wp2
    go_ret2
    exact ⟨rfl, ⟨_, _, _, (((((HH.out.set 16 _).set 18 _).set 19 _).set 20 _)).eq rfl⟩, ((((Fr.refl _ _).setCell (by simp) _).setCell (by simp) _).setCell (by simp) _).setCell (by simp) _⟩
  · have h10' : ((b.toNat : Int) == 10) = false := by simpa using h10
    clear h10
    go_enter Tryz.func151, Tryz.ntmps151
    go_wp2
    go_ret2
    exact ⟨rfl, ⟨_, _, _, (((HH.out.set 16 _).set 20 _)).eq rfl⟩, ((Fr.refl _ _).setCell (by simp) _).setCell (by simp) _⟩

theorem method_ReadByte (a : Addr) (w : World) : (method 496 120 (.pointer (some a)) "ReadByte").run Tryz.prog w = .ok (290, .pointer (some a)) w := by kernel_rfl

set_option maxRecDepth 100000 in
set_option maxHeartbeats 400000 in
theorem getc_read (L : LS) (buf : Value) (lr : Int) (s : ByteArray) (i : Nat) (pr line ls off : Int) (w : World) (hs : s.size ≤ 1000000) (hi : i < s.size) (h : Blk w L.p 197 (lcells L buf lr (-1) line ls off))
    (hr : Blk w L.rb 190 #[.string s, .int .i64 i, .int .i64 pr]) :
    Calls Tryz.prog 151 #[.pointer (some ⟨L.p, 0, none⟩)] w fun e w' => e = .returned (.tuple #[.int .u8 (s[i]).toNat, .bool true]) ∧ (∃ line ls off, Blk w' L.p 197 (lcells L buf lr (-1) line ls off)) ∧
      (∃ pr, Blk w' L.rb 190 #[.string s, .int .i64 (i + 1), .int .i64 pr]) ∧ Fr (fun k => k = L.p ∨ k = L.rb) w w' := by
  have hne : L.p ≠ L.rb := h.ne hr (by decide)
  have hc := h.cell
  have hf := h.frozen
  unfold lcells at hc
  have HH := Lib.hid h
  have HR := Lib.hid hr
  have hm := method_ReadByte
  clear h hr
  go_enter Tryz.func151, Tryz.ntmps151
  go_wp2_with fail
  refine (readByte_any L.rb s i pr _ hs hi ?_).mono ?_
  · exact HR.out
  · rintro e w' ⟨rfl, n, rfl⟩
    go_wp2_with fail
    · go_ret2
      exact ⟨rfl, ⟨_, _, _, ((((((((HH.out.far hne _).far hne _).drewN n).set 17 _).set 18 _).set 19 _).set 20 _)).eq rfl⟩,
        ⟨_, ((((((((HR.out.set 2 _).set 1 _).drewN n).far (Ne.symm hne) _).far (Ne.symm hne) _).far (Ne.symm hne) _).far (Ne.symm hne) _)).eq rfl⟩,
        (((((((Fr.refl _ _).setCell (by simp) _).setCell (by simp) _).drewN n).setCell (by simp) _).setCell (by simp) _).setCell (by simp) _).setCell (by simp) _⟩
    · go_ret2
      exact ⟨rfl, ⟨_, _, _, ((((((HH.out.far hne _).far hne _).drewN n).set 17 _).set 20 _)).eq rfl⟩,
        ⟨_, ((((((HR.out.set 2 _).set 1 _).drewN n).far (Ne.symm hne) _).far (Ne.symm hne) _)).eq rfl⟩,
        (((((Fr.refl _ _).setCell (by simp) _).setCell (by simp) _).drewN n).setCell (by simp) _).setCell (by simp) _⟩

theorem Low.ne {w : World} {L : LS} {s : ByteArray} {i : Nat} {f : Bool} {buf : Value} (h : Low w L s i f buf) : L.p ≠ L.rb := by
  obtain ⟨_, _, _, _, _, _, _, h1, h2, _⟩ := h
  exact h1.ne h2 (by decide)

theorem Low.le {w : World} {L : LS} {s : ByteArray} {i : Nat} {f : Bool} {buf : Value} (h : Low w L s i f buf) : i ≤ s.size := by
  obtain ⟨_, _, _, _, _, _, _, _, _, h | ⟨_, _, h, _⟩⟩ := h
  · exact h.2.2.2
  · omega

/-- A frame that spares the two blocks leaves the decoder where it stands. -/
theorem Low.fr {M : Nat → Prop} {w w' : World} {L : LS} {s : ByteArray} {i : Nat} {f : Bool} {buf : Value} (h : Low w L s i f buf) (hf : Fr M w w') (hp : ¬ M L.p) (hr : ¬ M L.rb) : Low w' L s i f buf := by
  obtain ⟨lr, nb, ri, pr, line, ls, off, h1, h2, h3⟩ := h
  exact ⟨lr, nb, ri, pr, line, ls, off, h1.fr hf hp, h2.fr hf hr, h3⟩

/-- getc at a place where there is a byte. -/
theorem getc_low (L : LS) (s : ByteArray) (i : Nat) (f : Bool) (buf : Value) (w : World) (h : Low w L s i f buf) (hs : s.size ≤ 1000000) (hi : i < s.size) :
    Calls Tryz.prog 151 #[.pointer (some ⟨L.p, 0, none⟩)] w fun e w' => e = .returned (.tuple #[.int .u8 (s[i]).toNat, .bool true]) ∧ Low w' L s (i + 1) true buf ∧ Fr (fun k => k = L.p ∨ k = L.rb) w w' := by
  have hne := h.ne
  obtain ⟨lr, nb, ri, pr, line, ls, off, h1, h2, hc⟩ := h
  rcases hc with ⟨rfl, rfl, rfl, _⟩ | ⟨rfl, rfl, _, rfl⟩
  · refine (getc_read L buf lr s ri pr line ls off w hs hi h1 h2).mono ?_
    rintro e w' ⟨he, ⟨line', ls', off', h1'⟩, ⟨pr', h2'⟩, hf⟩
    exact ⟨he, ⟨lr, -1, ri + 1, pr', line', ls', off', h1', by simpa using h2', .inl ⟨rfl, rfl, rfl, by omega⟩⟩, hf⟩
  · refine (getc_put L buf lr s[i] line ls off w h1).mono ?_
    rintro e w' ⟨he, ⟨line', ls', off', h1'⟩, hf⟩
    exact ⟨he, ⟨lr, -1, i + 1, pr, line', ls', off', h1', h2.fr hf (fun e => hne e.symm), .inl ⟨rfl, rfl, rfl, by omega⟩⟩, hf.mono fun _ hx => .inl hx⟩

set_option maxHeartbeats 400000 in
theorem mustgetc_low (L : LS) (s : ByteArray) (i : Nat) (f : Bool) (buf : Value) (w : World) (h : Low w L s i f buf) (hs : s.size ≤ 1000000) (hi : i < s.size) :
    Calls Tryz.prog 154 #[.pointer (some ⟨L.p, 0, none⟩)] w fun e w' => e = .returned (.tuple #[.int .u8 (s[i]).toNat, .bool true]) ∧ Low w' L s (i + 1) true buf ∧ Fr (fun k => k = L.p ∨ k = L.rb) w w' := by
  have H := Lib.hid h
  clear h
  go_enter Tryz.func154, Tryz.ntmps154
  go_wp2_with fail
  refine (getc_low L s i f buf _ H.out hs hi).mono ?_
  rintro e w1 ⟨rfl, h1, hf⟩
  have H1 := Lib.hid h1
  have HF := Lib.hid hf
  clear h1 hf
  go_wp2_with fail
  go_ret2
  exact ⟨rfl, H1.out, HF.out⟩

set_option maxRecDepth 100000 in
set_option maxHeartbeats 400000 in
theorem ungetc_low (L : LS) (s : ByteArray) (i : Nat) (buf : Value) (w : World) (hi : i < s.size) (h : Low w L s (i + 1) true buf) :
    Calls Tryz.prog 152 #[.pointer (some ⟨L.p, 0, none⟩), .int .u8 (s[i]).toNat] w fun e w' => e = .returned (.tuple #[]) ∧ Low w' L s i false buf ∧ Fr (fun k => k = L.p ∨ k = L.rb) w w' := by
  have hne := h.ne
  obtain ⟨lr, nb, ri, pr, line, ls, off, h1, h2, hcu⟩ := h
  rcases hcu with ⟨_, rfl, rfl, _⟩ | ⟨h, _⟩
  case inr => cases h
  have hb : ((s[i]).toNat : Int) ≤ 255 := by have := (s[i]).toNat_lt; omega
  have hc := h1.cell
  have hf := h1.frozen
  unfold lcells at hc
  have HH := Lib.hid h1
  have HR := Lib.hid h2
  clear h1 h2
  by_cases h10 : (((s[i]).toNat : Int) == 10) = true
  · go_enter Tryz.func152, Tryz.ntmps152
    go_wp2_with fail
    go_end0
    exact ⟨rfl, ⟨lr, _, _, pr, _, _, _, ((((HH.out.set 18 _).set 16 _).set 20 _)).eq rfl, (((HR.out.far (Ne.symm hne) _).far (Ne.symm hne) _).far (Ne.symm hne) _), .inr ⟨rfl, rfl, hi, rfl⟩⟩,
      (((Fr.refl _ _).setCell (by simp) _).setCell (by simp) _).setCell (by simp) _⟩
  · have h10' : (((s[i]).toNat : Int) == 10) = false := by simpa using h10
    clear h10
    go_enter Tryz.func152, Tryz.ntmps152
    go_wp2_with fail
    go_end0
    exact ⟨rfl, ⟨lr, _, _, pr, _, _, _, (((HH.out.set 16 _).set 20 _)).eq rfl, ((HR.out.far (Ne.symm hne) _).far (Ne.symm hne) _), .inr ⟨rfl, rfl, hi, rfl⟩⟩,
      ((Fr.refl _ _).setCell (by simp) _).setCell (by simp) _⟩

end Go.Proofs.YtlljphipglgjiaaGreatDoor
