/-
  utf8.DecodeRune of a slice of bytes: the shelf's contract, laid at this translation by hand.
  zxml's text: what it hands back; how a place of it stands (plain).
  zxml's text at a reference: places, the buffer's row kept behind a byte more, names of entities (plain and small contracts).
  Where the bytes of a reference's digits stand (plain).
-/
import Derived.Shelf.Spec.DecodeRune
import Derived.Test.YtlljphipglgjiaaGreatDoorXmBase
import Derived.Test.YtlljphipglgjiaaGreatDoorXmTxR
import Derived.Test.YtlljphipglgjiaaGreatDoorXmTxB
import Derived.Test.YtlljphipglgjiaaGreatDoorXmRef2
import Derived.Deep.LoopGhost
namespace Go.Proofs
open Go.Shelf
def Tryz.lays7n32_ren : Go.Shelf.Ren := ⟨fun | 32 => 175 | 49 => 201 | n => n, fun | 25 => 140 | 30 => 77 | 33 => 103 | 66 => 315 | 68 => 317 | 69 => 318 | n => n, fun | 2 => 4 | 3 => 5 | n => n⟩
theorem Tryz.lays7n32 : Go.Proofs.Lays7.n32 Tryz.prog Tryz.lays7n32_ren := {
  mixed := by kernel_rfl
  f32 := Tryz.func175.trans (congrArg some (by kernel_rfl))
  f49 := Tryz.func201.trans (congrArg some (by kernel_rfl))
  t0 := Tryz.underlying0
  a0 := Tryz.isAgg0
  z0 := Tryz.sizeOf0
  v0 := Tryz.zeroValue0
  i0 := by kernel_rfl
  t3 := Tryz.underlying3
  a3 := Tryz.isAgg3
  z3 := Tryz.sizeOf3
  v3 := Tryz.zeroValue3
  i3 := by kernel_rfl
  t4 := Tryz.underlying4
  a4 := Tryz.isAgg4
  z4 := Tryz.sizeOf4
  v4 := Tryz.zeroValue4
  i4 := by kernel_rfl
  t5 := Tryz.underlying5
  a5 := Tryz.isAgg5
  z5 := Tryz.sizeOf5
  v5 := Tryz.zeroValue5
  i5 := by kernel_rfl
  t21 := Tryz.underlying21
  a21 := Tryz.isAgg21
  z21 := Tryz.sizeOf21
  v21 := Tryz.zeroValue21
  i21 := by kernel_rfl
  t25 := Tryz.underlying140
  a25 := Tryz.isAgg140
  z25 := Tryz.sizeOf140
  v25 := Tryz.zeroValue140
  i25 := by kernel_rfl
  t30 := Tryz.underlying77
  a30 := Tryz.isAgg77
  z30 := Tryz.sizeOf77
  v30 := Tryz.zeroValue77
  i30 := by kernel_rfl
  t33 := Tryz.underlying103
  a33 := Tryz.isAgg103
  z33 := Tryz.sizeOf103
  v33 := Tryz.zeroValue103
  i33 := by kernel_rfl
  t66 := Tryz.underlying315
  a66 := Tryz.isAgg315
  z66 := Tryz.sizeOf315
  t68 := Tryz.underlying317
  a68 := Tryz.isAgg317
  z68 := Tryz.sizeOf317
  v68 := Tryz.zeroValue317
  i68 := by kernel_rfl
  t69 := Tryz.underlying318
  a69 := Tryz.isAgg318
  z69 := Tryz.sizeOf318
  v69 := Tryz.zeroValue318
  i69 := by kernel_rfl
  g2 := by kernel_rfl
  g3 := by kernel_rfl }
theorem Tryz.utf8_DecodeRune (s : ByteArray) (b off cap : Nat) (w : World) (hT : Lib.Utf8Tabs 4 5 w) (hp : ∀ j, j < s.size → w.cell? ⟨b, off + j, none⟩ = some (.int .u8 (s.get! j).toNat)) :
    Calls Tryz.prog 175 #[.slice (some ⟨b, off, none⟩) s.size cap] w fun e w' => e = .returned (.tuple #[.int .i32 (Lib.decodeGo s).1, .int .i64 (Lib.decodeGo s).2]) ∧ RowKit.Below w.heap.size w w' :=
  Any7.utf8_DecodeRune Tryz.lays7n32 s b off cap w hT hp
end Go.Proofs

namespace Go.Proofs.YtlljphipglgjiaaGreatDoor
open Go.RowKit Go.Lib

/-- What text hands back: a slice with the bytes v, the buffer's own; the decoder stands at je. -/
def TxPost (M : Nat → Prop) (w : World) (L : LS) (s : ByteArray) (je : Nat) (fe : Bool) (v : List UInt8) (e : Ending) (w' : World) : Prop :=
  ∃ g cap, e = .returned (.slice (some ⟨g, 0, none⟩) v.length cap) ∧ BufH w' (.slice (some ⟨g, 0, none⟩) v.length cap) v ∧ LowB M w' L s je fe v ∧ Fr M w w'
theorem TxPost.mk {M : Nat → Prop} {w : World} {L : LS} {s : ByteArray} {je : Nat} {fe : Bool} {v : List UInt8} {buf : Value} {w' : World} (hv : v ≠ []) (hb : BufH w' buf v) (hl : LowB M w' L s je fe v) (hf : Fr M w w') : TxPost M w L s je fe v (.returned buf) w' := by
  rcases hb.cases with ⟨rfl, rfl⟩ | ⟨g, cap, cur, rfl, _⟩
  · exact absurd rfl hv
  · exact ⟨g, cap, rfl, hb, hl, hf⟩

section
variable {q b0 b1 : UInt8} {s : ByteArray} {k : Nat} {v r : List UInt8}
theorem TxP.lt (h : TxP q b0 b1 (s.data.toList.drop k) v r) : k < s.size := by
  rcases Nat.lt_or_ge k s.size with h1 | h1
  · exact h1
  · rw [List.drop_of_length_le (by rw [list_size]; exact h1)] at h
    cases h
theorem TxP.three (h : TxP q b0 b1 (s.data.toList.drop k) v r) (hk : k < s.size) (hq : q ≠ 62) : ¬ (b0 = 93 ∧ b1 = 93 ∧ s[k] = 62) := by
  rw [drop_cons s k hk] at h
  rintro ⟨h1, h2, h3⟩
  rw [h3] at h
  cases h with
  | stop => exact hq rfl
  | byte _ _ _ _ _ _ _ _ _ _ h5 => exact h5 ⟨h1, h2, rfl⟩
theorem TxP.inv (h : TxP q b0 b1 (s.data.toList.drop k) v r) (hk : k < s.size) :
    (s[k] = q ∧ v = [] ∧ r = s.data.toList.drop k) ∨
    (∃ v2, v = s[k] :: v2 ∧ s[k] ≠ 60 ∧ s[k] ≠ q ∧ s[k] ≠ 38 ∧ s[k] ≠ 13 ∧ TxP q b1 s[k] (s.data.toList.drop (k + 1)) v2 r) ∨
    (∃ t2 o v2 nm, s[k] = 38 ∧ 38 ≠ q ∧ v = o ++ v2 ∧ s.data.toList.drop (k + 1) = nm ++ 59 :: t2 ∧ 59 ∉ nm ∧ EntR nm o ∧ TxP q 0 0 t2 v2 r) := by
  rw [drop_cons s k hk] at h ⊢
  generalize hc : s[k] = c at h ⊢
  generalize s.data.toList.drop (k + 1) = t at h ⊢
  cases h with
  | stop => exact .inl ⟨rfl, rfl, rfl⟩
  | byte _ _ _ _ v2 _ h1 h2 h3 h4 _ h6 => exact .inr (.inl ⟨v2, rfl, h1, h2, h3, h4, h6⟩)
  | ref _ _ _ o t2 v2 _ h1 h2 h3 =>
    obtain ⟨nm, h4, h5, h6⟩ := ref_inv h2
    exact .inr (.inr ⟨t2, o, v2, nm, rfl, h1, rfl, h4, h5, h6, h3⟩)
end
theorem u8_ne {x : UInt8} (c : UInt8) {z : Int} (hc : (c.toNat : Int) = z) (h : x ≠ c) : ((x.toNat : Int) == z) = false := by
  rw [beq_eq_false_iff_ne, ← hc]
  intro e
  exact h (UInt8.toNat_inj.1 (by omega))
theorem u8_eq {x : UInt8} (c : UInt8) {z : Int} (hc : (c.toNat : Int) = z) (h : x = c) : ((x.toNat : Int) == z) = true := by
  rw [h, hc]
  exact beq_self_eq_true z
theorem drop_inj (s : ByteArray) {k j : Nat} {l : List UInt8} (hk : k < s.size) (h1 : s.data.toList.drop j = l) (h2 : s.data.toList.drop k = l) : k = j := by
  have e := congrArg List.length (h1.trans h2.symm)
  rw [List.length_drop, List.length_drop, list_size] at e
  omega


theorem zInRange_any (c : Nat) (w : World) (hc : c ≤ 1114111) : Calls Tryz.prog 191 #[.int .i32 c] w fun e w' => e = .returned (.bool (isXChar c)) ∧ w = w' := by
  go_enter Tryz.func191, Tryz.ntmps191
  go_wp2_with fail
  all_goals go_ret
  all_goals refine ⟨ret_bool ?_, rfl⟩
  all_goals first
    | (rw [isXChar_yes (by omega)])
    | (rw [isXChar_no (by omega)])
  all_goals (simp; omega)

/-- The bytes of a text behind place p, one rune of it. -/
theorem GoodT.step {l : List UInt8} (h : GoodT l) (hl : l ≠ []) : isXChar (decodeL l).1 = true ∧ ¬ ((decodeL l).1 = 65533 ∧ (decodeL l).2 = 1) ∧ GoodT (l.drop (decodeL l).2) := by
  cases h with
  | nil => exact absurd rfl hl
  | cons _ _ h1 h2 h3 => exact ⟨h1, h2, h3⟩
theorem decodeGo_bst (l : List UInt8) (hl : l ≠ []) : Lib.decodeGo (bst l) = decodeL l := by
  have h := decodeGo_at (bst l) 0 (by rw [bst_size]; exact List.length_pos_iff.2 hl)
  have e : (bst l).extract 0 (bst l).size = bst l := ByteArray.extract_zero_size
  rw [e] at h
  rw [h, bst_toList, List.drop_zero]

theorem get_bst (l : List UInt8) (j : Nat) (hj : j < l.length) : (bst l).get! j = l[j] := by
  have h : j < (bst l).size := by rw [bst_size]; exact hj
  rw [Utf8W.get!_of_lt (bst l) j h]
  rfl
theorem utf8_fr {M : Nat → Prop} {w w' : World} (hT : Lib.Utf8Tabs 4 5 w) (f : Fr M w w') (hM : ¬ M 4 ∧ ¬ M 5) : Lib.Utf8Tabs 4 5 w' := by
  exact ⟨fun c hc => (cell_fr' f hM.1).trans (hT.1 c hc), fun i hi => ⟨(cell_fr' f hM.2).trans (hT.2 i hi).1, (cell_fr' f hM.2).trans (hT.2 i hi).2⟩⟩
end Go.Proofs.YtlljphipglgjiaaGreatDoor

namespace Go.Proofs.YtlljphipglgjiaaGreatDoor
open Go.RowKit Go.Lib

theorem ref_place {s : ByteArray} {k : Nat} {nm t2 : List UInt8} (h : s.data.toList.drop (k + 1) = nm ++ 59 :: t2) :
    ∃ hj : k + 1 + nm.length < s.size, s[k + 1 + nm.length] = 59 ∧ sub s (k + 1) (k + 1 + nm.length) = nm ∧ s.data.toList.drop (k + 1 + nm.length + 1) = t2 ∧ ∀ i (hi : i < nm.length), s[k + 1 + i]'(by omega) = nm[i] := by
  have hlen := congrArg List.length h
  rw [List.length_drop, list_size, List.length_append, List.length_cons] at hlen
  have hj : k + 1 + nm.length < s.size := by omega
  have hget : ∀ i (hi : k + 1 + i < s.size), (nm ++ 59 :: t2)[i]? = some (s[k + 1 + i]'hi) := by
    intro i hi
    rw [← h, List.getElem?_drop, List.getElem?_eq_getElem (by rw [list_size]; exact hi)]
    rfl
  refine ⟨hj, ?_, ?_, ?_, fun i hi => ?_⟩
  · have := hget nm.length hj
    rw [List.getElem?_append_right (Nat.le_refl _), Nat.sub_self] at this
    exact (Option.some.inj this).symm
  · unfold sub
    rw [h, show k + 1 + nm.length - (k + 1) = nm.length by omega, List.take_left']
    rfl
  · have : s.data.toList.drop (k + 1 + nm.length + 1) = (s.data.toList.drop (k + 1)).drop (nm.length + 1) := by rw [List.drop_drop]; congr 1
    rw [this, h, show nm.length + 1 = nm.length + 1 from rfl, ← List.drop_drop, List.drop_left' rfl]
    rfl
  · have := hget i (by omega)
    rw [List.getElem?_append_left hi, List.getElem?_eq_getElem hi] at this
    exact (Option.some.inj this).symm

theorem entNames_props {nm : List UInt8} {c : UInt8} (h : (nm, c) ∈ entNames) : (nm ≠ [] ∧ nm.length ≤ 4) ∧ (∀ b ∈ nm, nameB b = true) ∧ (∀ h : 0 < nm.length, firstB nm[0] = true ∧ nm[0] ≠ 35) ∧ encodeRune ((c.toNat : Nat) : Int) = [c] := by
  unfold entNames at h
  simp only [List.mem_cons, Prod.mk.injEq, List.not_mem_nil, or_false] at h
  rcases h with ⟨rfl, rfl⟩ | ⟨rfl, rfl⟩ | ⟨rfl, rfl⟩ | ⟨rfl, rfl⟩ | ⟨rfl, rfl⟩
  all_goals exact ⟨⟨by decide, by decide⟩, by decide, fun _ => ⟨by decide +revert, by decide +revert⟩, by decide⟩

section
variable {M : Nat → Prop} {w : World} {L : LS} {s : ByteArray} {i : Nat} {f : Bool} {bs : List UInt8}
theorem WriteByteN (c : UInt8) (z : Int) (hz : (c.toNat : Int) = z) (h : LowB M w L s i f bs) (hlim : bs.length + 1 ≤ 5000000) :
    Calls Tryz.prog 159 #[.pointer (some ⟨L.p, 10, none⟩), .int .u8 z] w fun e w' => e = .returned .nilIface ∧ LowB M w' L s i f (bs ++ [c]) ∧ Fr M w w' := by
  subst hz
  exact WriteByteB c h hlim
theorem Low.cell10 {buf : Value} (h : Low w L s i f buf) : w.cell? ⟨L.p, 10, none⟩ = some buf := by
  obtain ⟨_, _, _, _, _, _, _, h1, _⟩ := h
  exact h1.cell 10
/-- A byte more: what the row that was there holds is kept. -/
theorem WriteByteK (c : UInt8) (z : Int) (hz : (c.toNat : Int) = z) (g cap : Nat) (h : LowB M w L s i f bs) (hlow : Low w L s i f (.slice (some ⟨g, 0, none⟩) bs.length cap)) (hlim : bs.length + 1 ≤ 5000000) (hl1 : 1 ≤ bs.length) :
    Calls Tryz.prog 159 #[.pointer (some ⟨L.p, 10, none⟩), .int .u8 z] w fun e w' => e = .returned .nilIface ∧ LowB M w' L s i f (bs ++ [c]) ∧ Fr M w w' ∧ ∃ cur', w'.heap[g]? = some (.cells cur' 5 (0, 0)) ∧ cur'.toList.take bs.length = Lib.byteCells bs := by
  subst hz
  obtain ⟨hMp, hMr, hN, hs, hbl⟩ := h.parts
  obtain ⟨nb, ri, pr, line, ls, off, hb, h2, h3⟩ := h.toM
  have hne : L.p ≠ L.rb := by obtain ⟨_, _, _, _, _, _, hL, _⟩ := h; exact hL.ne
  have hN' : New (fun k => M k ∧ k ≠ L.rb) w := fun k hk => ⟨hN k hk, by have := h2.lt; omega⟩
  obtain ⟨buf, lr, hblk, hsz, h1, hB, hM⟩ := buf_Mr hb h2
  have e1 : some buf = some (.slice (some ⟨g, 0, none⟩) bs.length cap) := (buf_c0 hblk hsz).symm.trans hlow.cell10
  obtain rfl := Option.some.inj e1
  rcases hB.cases with ⟨hx, _⟩ | ⟨g', cap', cur, hx, hg, hlc, hm, hcs, ht⟩
  · cases hx
  · injection hx with hx1 hx2 hx3
    injection hx1 with hx1
    injection hx1 with hx1
    subst hx1
    subst hx3
    refine (buf_WriteByte_keep (fun k => M k ∧ k ≠ L.rb) L.p 10 g cap 197 _ cur bs c lr w hblk hsz h1 hg hlc hm hcs ht (hM g rfl).1 (hM g rfl).2 ⟨hMp, hne⟩ hN' (by omega) hl1).mono ?_
    rintro e w' ⟨he, h1', hf, cur', hg', hcs', ht'⟩
    have hf' : Fr M w w' := hf.mono fun x hx => hx.1
    obtain ⟨buf, lr, q1, q2, q3, q4, q5⟩ := h1'
    exact ⟨he, LowB.ofM hMp hMr (hN.fr hf') hs (by simpa using hlim) ⟨buf, lr, q1, q2, q3, q4, fun g hg => ⟨(q5 g hg).1.1, (q5 g hg).2⟩⟩ (h2.fr hf fun hx => hx.2 rfl) h3, hf', cur', hg', ht'⟩
end

theorem u8_bne {x : UInt8} (c : UInt8) {z : Int} (hc : (c.toNat : Int) = z) (h : x = c) : ((x.toNat : Int) != z) = false := by
  rw [bne, u8_eq c hc h]; rfl
/-- A piece of a row of bytes, as a string. -/
theorem run_piece_string {w : World} {g n cap off : Nat} {cur : Array Value} {bs l : List UInt8} (hg : w.heap[g]? = some (.cells cur 5 (0, 0))) (ht : cur.toList.take bs.length = Lib.byteCells bs) (hl : bs = bs.take off ++ l) (ho : off ≤ bs.length) (hn : l.length = n) :
    (convert 77 9 (.slice (some ⟨g, off, none⟩) n cap)).run Tryz.prog w = .ok (.string (bst l)) w := by
  subst hn
  have hlen := congrArg List.length hl
  rw [List.length_append, List.length_take] at hlen
  have := run_convert_bytes_arg (P := Tryz.prog) w 77 5 Tryz.underlying77 Tryz.underlying5 g off l.length cap (l.map fun b => (b.toNat : Int)) (by simp) (fun i hi => by
    rw [row_byte hg ht (off + i) (by omega)]
    have h1 : bs[off + i]? = l[i]? := by
      rw [hl, List.getElem?_append_right (by rw [List.length_take]; omega), List.length_take, show off + i - min off bs.length = i by omega]
    have hi2 : off + i < bs.length := by omega
    rw [List.getElem?_eq_getElem hi2, List.getElem?_eq_getElem hi] at h1
    rw [Option.some.inj h1]
    simp [List.getD, hi]) 9 Tryz.underlying9
  have e : strOfNums (l.map fun b => (b.toNat : Int)) = bst l := by
    have hid : ((fun n : Int => UInt8.ofNat n.toNat) ∘ fun b : UInt8 => (b.toNat : Int)) = id := funext fun b => by simp
    simp [strOfNums, bst, hid]
  rw [this, e]
theorem piece_cell {w : World} {g off : Nat} {cur : Array Value} {bs l : List UInt8} (hg : w.heap[g]? = some (.cells cur 5 (0, 0))) (ht : cur.toList.take bs.length = Lib.byteCells bs) (hl : bs = bs.take off ++ l) (ho : off ≤ bs.length) :
    ∀ k (h : k < l.length), w.cell? ⟨g, off + k, none⟩ = some (.int .u8 l[k].toNat) := by
  intro k hk
  have hlen := congrArg List.length hl
  rw [List.length_append, List.length_take] at hlen
  rw [row_byte hg ht (off + k) (by omega)]
  have h1 : bs[off + k]? = l[k]? := by
    rw [hl, List.getElem?_append_right (by rw [List.length_take]; omega), List.length_take, show off + k - min off bs.length = k by omega]
  rw [List.getElem?_eq_getElem (by omega), List.getElem?_eq_getElem hk] at h1
  rw [Option.some.inj h1]

end Go.Proofs.YtlljphipglgjiaaGreatDoor

namespace Go.Proofs.YtlljphipglgjiaaGreatDoor
/-- Behind pre (of a reference's inside nm = pre ++ ds) and at its end. -/
theorem digits_at {s : ByteArray} {k o : Nat} {nm pre ds : List UInt8} (hnm : nm = pre ++ ds) (ho : o = 1 + pre.length) (hj : k + 1 + nm.length < s.size) (h59 : s[k + 1 + nm.length] = 59)
    (hg : ∀ i (hi : i < nm.length), s[k + 1 + i]'(by omega) = nm[i]) : k + o + ds.length < s.size ∧ ∀ i (hi : k + o + i < s.size), i ≤ ds.length → (ds ++ [59])[i]? = some (s[k + o + i]'hi) := by
  have hlen : nm.length = pre.length + ds.length := by rw [hnm, List.length_append]
  refine ⟨by omega, fun i hi hil => ?_⟩
  rcases Nat.lt_or_ge i ds.length with h | h
  · have h1 := hg (pre.length + i) (by omega)
    have h2 : s[k + o + i] = s[k + 1 + (pre.length + i)]'(by omega) := by congr 1; omega
    rw [List.getElem?_append_left h, List.getElem?_eq_getElem h, h2, h1]
    congr 1
    subst hnm
    rw [List.getElem_append_right (by omega)]
    congr 1
    omega
  · obtain rfl : i = ds.length := by omega
    have h2 : s[k + o + ds.length] = s[k + 1 + nm.length]'hj := by congr 1; omega
    rw [List.getElem?_append_right (Nat.le_refl _), Nat.sub_self, h2, h59]
    rfl
end Go.Proofs.YtlljphipglgjiaaGreatDoor
