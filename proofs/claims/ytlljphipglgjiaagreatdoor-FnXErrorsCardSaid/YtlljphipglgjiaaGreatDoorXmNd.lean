/-
  NodeDecoder.Token: the next element, or the node's end.
  spec.xLower: small letters in place of great ones.
  zzEqualFold on names of ASCII; spec.xLower.
  zxml's procInst on the one declaration that spec.XRead takes.
  zxml's Decoder.rawToken: the declaration that spec.XRead takes.
  FetchRootElement: the root's start, behind what stands ahead of it.
-/
import Derived.Test.YtlljphipglgjiaaGreatDoorXmRaw2
import Derived.Deep.RegionHeld3
import Derived.Test.YtlljphipglgjiaaGreatDoorXmEl3
import Derived.Lib.ConvBytes
import Derived.Laws.IdiomStrings
import Derived.Test.YtlljphipglgjiaaGreatDoorXmSans
import Derived.Test.YtlljphipglgjiaaGreatDoorXmCom
import Derived.OwnWalk
import Derived.Deep.AppendLies
import Derived.Lib.OthersKept
import Derived.Test.YtlljphipglgjiaaGreatDoorXmStr
import Derived.Test.YtlljphipglgjiaaGreatDoorXmLow
import Derived.Test.YtlljphipglgjiaaGreatDoorXmRaw
namespace Go.Proofs.YtlljphipglgjiaaGreatDoor
open Go.RowKit Go.Lib

/-- Is it no element but a text or a comment? -/
def notEl (k : XEl) : Bool := k.name == [] || k.name == [33]
def elemsOf (ks : List XEl) : List XEl := ks.filter fun k => !notEl k
theorem good_el {nm : List UInt8} {av : List AttrS} {tx : List UInt8} {ks : List XEl} (h : GoodN nm) : notEl (.mk nm av tx ks) = false := by
  obtain ⟨c, t, rfl, hc⟩ := h.first
  unfold notEl XEl.name
  rw [Bool.or_eq_false_iff]
  refine ⟨rfl, ?_⟩
  rw [beq_eq_false_iff_ne]
  intro e
  injection e with e1 e2
  rw [e1] at hc
  exact absurd hc (by decide)
theorem elemsOf_cons {k : XEl} {ks : List XEl} (h : notEl k = false) : elemsOf (k :: ks) = k :: elemsOf ks := by unfold elemsOf; rw [List.filter_cons_of_pos (by rw [h]; rfl)]
theorem DecW.sans {M : Nat → Prop} {w : World} {P m : Nat} {s : ByteArray} {i : Nat} {owe : Option (ByteArray × ByteArray)} {fr : List Fram} {F : NsF} {bud : Nat} (h : DecW M w P m s i owe fr F bud) {X : Known} (hX : KnownD X w) : DecW (Sans M (X.map (·.1))) w P m s i owe fr F bud := by
  obtain ⟨L, f, bs, st, fl, n, h1, h2, h3, h4, h5, h6, h7, h8, h9, h10⟩ := h
  exact ⟨L, f, bs, st, fl, n, h1, h2, h3, h4, h5.sansD hX, h6, fun h => h7 h.1, h8, h9, h10⟩
theorem Env.sans {M : Nat → Prop} {m : Nat} {w : World} (h : Env M m w) (l : List Nat) : Env (Sans M l) m w := ⟨h.tabs, ⟨fun e => h.m4.1 e.1, fun e => h.m4.2 e.1⟩, h.n4⟩

end Go.Proofs.YtlljphipglgjiaaGreatDoor

namespace Go.Proofs.YtlljphipglgjiaaGreatDoor
open Go.RowKit Go.Lib

section
variable {w : World} {g : Nat} {l : List UInt8}
end
end Go.Proofs.YtlljphipglgjiaaGreatDoor

namespace Go.Proofs.YtlljphipglgjiaaGreatDoor
open Go.RowKit Go.Lib

end Go.Proofs.YtlljphipglgjiaaGreatDoor

namespace Go.Proofs.YtlljphipglgjiaaGreatDoor
open Go.RowKit Go.Lib

def declC : ByteArray := ⟨#[118, 101, 114, 115, 105, 111, 110, 61, 34, 49, 46, 48, 34, 32, 101, 110, 99, 111, 100, 105, 110, 103, 61, 34, 85, 84, 70, 45, 56, 34]⟩

set_option maxRecDepth 100000 in
set_option maxHeartbeats 4000000 in
theorem procInst_version (w : World) : Calls Tryz.prog 161 #[.string ⟨#[118, 101, 114, 115, 105, 111, 110]⟩, .string declC] w fun e w' => e = .returned (.string ⟨#[49, 46, 48]⟩) ∧ w = w' := by
  have hI : Calls Tryz.prog 196 #[.string declC, .string ⟨#[118, 101, 114, 115, 105, 111, 110, 61]⟩] w fun e w' => e = .returned (.int .i64 ((0 : Nat) : Int)) ∧ w = w' := zzIndex_found declC _ 0 w (by decide) (by decide) (by decide) (fun k hk => absurd hk (Nat.not_lt_zero _))
  have hB : Calls Tryz.prog 197 #[.string ⟨#[49, 46, 48, 34, 32, 101, 110, 99, 111, 100, 105, 110, 103, 61, 34, 85, 84, 70, 45, 56, 34]⟩, .int .u8 34] w fun e w' => e = .returned (.int .i64 3) ∧ w' = w := Tryz.strings_IndexByte _ 34 w
  have hs : declC.size = 30 := rfl
  have h8 : (declC[8]'(by decide)).toNat = 34 := rfl
  go_enter Tryz.func161, Tryz.ntmps161
  go_wp2_with fail
  rw [show (⟨#[118, 101, 114, 115, 105, 111, 110]⟩ : ByteArray) ++ ⟨#[61]⟩ = ⟨#[118, 101, 114, 115, 105, 111, 110, 61]⟩ from rfl]
  refine wp_loop_once ?_
  go_wp2_with fail
  rw [show declC.extract 0 30 = declC from by decide]
  refine hI.mono ?_
  rintro e w1 ⟨rfl, rfl⟩
  go_wp2_with fail
  rw [show declC.extract 9 30 = ⟨#[49, 46, 48, 34, 32, 101, 110, 99, 111, 100, 105, 110, 103, 61, 34, 85, 84, 70, 45, 56, 34]⟩ from by decide]
  refine hB.mono ?_
  rintro e w2 ⟨rfl, rfl⟩
  go_wp2_with fail
  rw [show declC.extract 9 12 = ⟨#[49, 46, 48]⟩ from by decide]
  go_ret
  exact ⟨rfl, rfl⟩
set_option maxRecDepth 100000 in
set_option maxHeartbeats 4000000 in
theorem procInst_encoding (w : World) : Calls Tryz.prog 161 #[.string ⟨#[101, 110, 99, 111, 100, 105, 110, 103]⟩, .string declC] w fun e w' => e = .returned (.string ⟨#[85, 84, 70, 45, 56]⟩) ∧ w = w' := by
  have hI : Calls Tryz.prog 196 #[.string declC, .string ⟨#[101, 110, 99, 111, 100, 105, 110, 103, 61]⟩] w fun e w' => e = .returned (.int .i64 ((14 : Nat) : Int)) ∧ w = w' := zzIndex_found declC _ 14 w (by decide) (by decide) (by decide) (by decide)
  have hB : Calls Tryz.prog 197 #[.string ⟨#[85, 84, 70, 45, 56, 34]⟩, .int .u8 34] w fun e w' => e = .returned (.int .i64 5) ∧ w' = w := Tryz.strings_IndexByte _ 34 w
  have hs : declC.size = 30 := rfl
  have h8 : (declC[23]'(by decide)).toNat = 34 := rfl
  go_enter Tryz.func161, Tryz.ntmps161
  go_wp2_with fail
  rw [show (⟨#[101, 110, 99, 111, 100, 105, 110, 103]⟩ : ByteArray) ++ ⟨#[61]⟩ = ⟨#[101, 110, 99, 111, 100, 105, 110, 103, 61]⟩ from rfl]
  refine wp_loop_once ?_
  go_wp2_with fail
  rw [show declC.extract 0 30 = declC from by decide]
  refine hI.mono ?_
  rintro e w1 ⟨rfl, rfl⟩
  go_wp2_with fail
  rw [show declC.extract 24 30 = ⟨#[85, 84, 70, 45, 56, 34]⟩ from by decide]
  refine hB.mono ?_
  rintro e w2 ⟨rfl, rfl⟩
  go_wp2_with fail
  rw [show declC.extract 24 29 = ⟨#[85, 84, 70, 45, 56]⟩ from by decide]
  go_ret
  exact ⟨rfl, rfl⟩
end Go.Proofs.YtlljphipglgjiaaGreatDoor

namespace Go.Proofs.YtlljphipglgjiaaGreatDoor
open Go.RowKit Go.Lib

def declL2 : List UInt8 := [118, 101, 114, 115, 105, 111, 110, 61, 34, 49, 46, 48, 34, 32, 101, 110, 99, 111, 100, 105, 110, 103, 61, 34, 85, 84, 70, 45, 56, 34]
theorem declL_eq : declL = 60 :: 63 :: ([120, 109, 108] ++ ([32] ++ (declL2 ++ [63, 62]))) := rfl
/-- The bytes behind the target: the first question mark is the one before the end. -/
theorem decl_get : ∀ k, k < 32 → (0 :: (declL2 ++ [63, 62]) : List UInt8)[k]? = some 63 → k = 31 := by decide

set_option maxRecDepth 100000 in
set_option maxHeartbeats 8000000 in
theorem raw_decl (M : Nat → Prop) (w : World) (L : LS) (s : ByteArray) (i : Nat) (f : Bool) (bs t : List UInt8) (h : LowB M w L s i f bs) (hnc : L.nc = false) (hl : s.data.toList.drop i = declL ++ t) :
    Calls Tryz.prog 117 #[.pointer (some ⟨L.p, 0, none⟩)] w fun e w' => ∃ v, e = .returned (.tuple #[.iface 258 v, .nilIface]) ∧ (∃ bs', LowB M w' L s (i + 38) true bs') ∧ Fr M w w' := by
  obtain ⟨post, hpost⟩ : ∃ post : Ending → World → Prop, (fun e w' => ∃ v, e = .returned (.tuple #[.iface 258 v, .nilIface]) ∧ (∃ bs', LowB M w' L s (i + 38) true bs') ∧ Fr M w w') = post := ⟨_, rfl⟩
  have hfin : ∀ (v : Value) (bs' : List UInt8) (w' : World), LowB M w' L s (i + 38) true bs' → Fr M w w' → post (.returned (.tuple #[.iface 258 v, .nilIface])) w' := by
    intro v bs' w' h1 h2
    rw [← hpost]
    exact ⟨v, rfl, ⟨bs', h1⟩, h2⟩
  rw [hpost]
  have HFIN := Lib.hid hfin
  have hss := h.parts.2.2.2.1
  obtain ⟨c17, c13, c0⟩ := h.plain hnc
  have hl0 : s.data.toList.drop i = 60 :: (63 :: ([120, 109, 108] ++ (32 :: (declL2 ++ [63, 62] ++ t)))) := hl.trans (by rw [declL_eq]; simp)
  obtain ⟨q0, e0, hl1⟩ := at_cons hl0
  obtain ⟨q1, e1, hl2⟩ := at_cons hl1
  have hGN : GoodN [120, 109, 108] := goodN_of (by decide) (by decide)
  obtain ⟨p1, p2, n1, n2, n3, n4, _, n6, n7⟩ := name_at hGN hl2 ⟨32, _, rfl, by decide, by decide⟩
  obtain ⟨q2, e2, hl3⟩ := at_cons n7
  obtain ⟨q3, e3, _⟩ := at_cons (l := declL2.tail ++ [63, 62] ++ t) (x := 118) hl3
  have hget : ∀ k (hk : i + 6 + k < s.size), k < 32 → (0 :: (declL2 ++ [63, 62]) : List UInt8)[k + 1]? = some (s[i + 6 + k]'hk) := by
    intro k hk hk2
    have h4 : (s.data.toList.drop (i + 6))[k]? = some (s[i + 6 + k]'hk) := by
      rw [List.getElem?_drop, List.getElem?_eq_getElem (by rw [list_size]; exact hk)]
      rfl
    have h5 : s.data.toList.drop (i + 6) = (declL2 ++ [63, 62]) ++ t := hl3
    rw [h5, List.getElem?_append_left hk2] at h4
    exact h4
  have hle : i + 38 ≤ s.size := by
    have h5 : s.data.toList.drop (i + 6) = (declL2 ++ [63, 62]) ++ t := hl3
    have := congrArg List.length h5
    rw [List.length_drop, list_size, List.length_append, show (declL2 ++ [63, 62] : List UInt8).length = 32 from rfl] at this
    omega
  have HGET := Lib.hid hget
  have hg1 := getcB h q0
  rw [show ((s[i]'q0).toNat : Int) = 60 by rw [e0]; rfl] at hg1
  have HG1 := Lib.hid hg1
  have hm1 : ∀ (w' : World) (f' : Bool) (bs' : List UInt8), LowB M w' L s (i + 1) f' bs' → Calls Tryz.prog 154 #[.pointer (some ⟨L.p, 0, none⟩)] w' fun e w2 => e = .returned (.tuple #[.int .u8 63, .bool true]) ∧ LowB M w2 L s (i + 1 + 1) true bs' ∧ Fr M w' w2 := by
    intro w' f' bs' h'
    have := mustgetcB h' q1
    rw [show ((s[i + 1]'q1).toNat : Int) = 63 by rw [e1]; rfl] at this
    exact this
  have hnm : ∀ (w' : World) (f' : Bool) (bs' : List UInt8), LowB M w' L s (i + 1 + 1) f' bs' → Calls Tryz.prog 157 #[.pointer (some ⟨L.p, 0, none⟩)] w' fun e w2 => e = .returned (.tuple #[.string ⟨#[120, 109, 108]⟩, .bool true]) ∧ LowB M w2 L s (i + 5) false [120, 109, 108] ∧ Fr M w' w2 := by
    intro w' f' bs' h'
    have := nameB_ok (i + 1 + 1 + 3) h' p1 p2 n1 n2 n3 n4
    rw [show sub s (i + 1 + 1) (i + 1 + 1 + 3) = [120, 109, 108] from n6] at this
    exact this
  have hsp : ∀ (w' : World) (f' : Bool) (bs' : List UInt8), LowB M w' L s (i + 5) f' bs' → Calls Tryz.prog 156 #[.pointer (some ⟨L.p, 0, none⟩)] w' fun e w2 => e = .returned (.tuple #[]) ∧ LowB M w2 L s (i + 6) false bs' ∧ Fr M w' w2 := by
    intro w' f' bs' h'
    refine spaceB (i + 6) h' (Nat.le_succ _) q3 (fun k hk h1 h2 => ?_) (by rw [show s[i + 6]'q3 = 118 from e3]; unfold Blank; decide)
    obtain rfl : k = i + 5 := by omega
    rw [show s[i + 5]'hk = 32 from e2]
    unfold Blank
    decide
  have HM1 := Lib.hid hm1
  have HNM := Lib.hid hnm
  have HSP := Lib.hid hsp
  clear h hnc hl hpost hfin hl0 hl1 hl2 hl3 e0 e1 e2 e3 q0 q1 q2 q3 hget hg1 hm1 hnm hsp p1 p2 n1 n2 n3 n4 n6 n7 hGN
  go_enter Tryz.func117, Tryz.ntmps117
  go_wp2_with fail
  refine HG1.out.mono ?_
  rintro e w1 ⟨rfl, h1, hf1⟩
  have H1 := Lib.hid h1
  have F1 := Lib.hid hf1
  clear h1 hf1
  go_wp2_with fail
  refine (HM1.out _ _ _ H1.out).mono ?_
  rintro e w2 ⟨rfl, h1, hf1⟩
  have H2 := Lib.hid h1
  have F2 := Lib.hid (F1.out.trans hf1)
  clear h1 hf1 H1 F1
  go_wp2_with fail
  refine (HNM.out _ _ _ H2.out).mono ?_
  rintro e w3 ⟨rfl, h1, hf1⟩
  have H3 := Lib.hid h1
  have F3 := Lib.hid (F2.out.trans hf1)
  clear h1 hf1 H2 F2
  go_wp2_with fail
  refine (HSP.out _ _ _ H3.out).mono ?_
  rintro e w4 ⟨rfl, h1, hf1⟩
  have H4 := Lib.hid h1
  have F4 := Lib.hid (F3.out.trans hf1)
  clear h1 hf1 H3 F3
  go_wp2_with fail
  refine (ResetB H4.out).mono ?_
  rintro e w5 ⟨rfl, h1, hf1⟩
  have H5 := Lib.hid h1
  have F5 := Lib.hid (F4.out.trans hf1)
  clear h1 hf1 H4 F4
  go_wp2_with fail
  go_loopg [4, 5, 9] 32 (fun g bv okv b0v wr => ∃ (k : Nat) (b b0 : UInt8) (acc : List UInt8), g = 32 - k ∧ k < 32 ∧ bv = .int .u8 b.toNat ∧ okv = .bool true ∧ b0v = .int .u8 b0.toNat ∧ acc = (declL2 ++ [63, 62]).take k ∧
    LowB M wr L s (i + 6 + k) (decide (0 < k)) acc ∧ Fr M w wr ∧ Hid ((0 :: (declL2 ++ [63, 62]) : List UInt8)[k]? = some b0))
  case atStart => exact ⟨0, 63, 0, [], rfl, by omega, rfl, rfl, rfl, rfl, H5.out, F5.out, Lib.hid rfl⟩
  case round =>
    obtain ⟨k, b, b0, acc, hg, hk, rfl, rfl, rfl, hacc, hlo, hfr, HZ⟩ := hrel
    have HG := Lib.hid hg
    have HL := Lib.hid hlo
    have HF := Lib.hid hfr
    have HA := Lib.hid hacc
    have hal : acc.length ≤ 32 := by rw [hacc, List.length_take]; omega
    clear hg hlo hfr hacc H5 F5
    have hks : i + 6 + k < s.size := by omega
    have hz2 := HGET.out k hks hk
    obtain ⟨d, hd⟩ : ∃ d, s[i + 6 + k]'hks = d := ⟨_, rfl⟩
    have hm := mustgetcB HL.out hks
    rw [hd] at hm hz2
    have HZ2 := Lib.hid hz2
    have HM := Lib.hid hm
    have hacc2 : acc ++ [d] = (declL2 ++ [63, 62]).take (k + 1) := by
      have h6 : (declL2 ++ [63, 62] : List UInt8)[k]? = some d := hz2
      rw [List.take_add_one, h6, HA.out]
      rfl
    have HA2 := Lib.hid hacc2
    clear hz2 hm hd hacc2
    go_wp2_with fail
    refine HM.out.mono ?_
    rintro e w6 ⟨rfl, h1, hf1⟩
    have H6 := Lib.hid h1
    have F6 := Lib.hid (HF.out.trans hf1)
    clear h1 hf1 HM
    go_wp2_with fail
    refine (WriteByteB d H6.out (by omega)).mono ?_
    rintro e w7 ⟨rfl, h1, hf1⟩
    rw [HA2.out] at h1
    have H7 := Lib.hid h1
    have F7 := Lib.hid (F6.out.trans hf1)
    clear h1 hf1 H6 F6
    by_cases hend : k = 31
    · have d0 : b0 = 63 := by have := HZ.out; rw [hend] at this; exact (Option.some.inj this).symm
      have d2 : d = 62 := by have := HZ2.out; rw [hend] at this; exact (Option.some.inj this).symm
      have g0 : ((b0.toNat : Int) == 63) = true := u8_eq 63 rfl d0
      have g2 : ((d.toNat : Int) == 62) = true := u8_eq 62 rfl d2
      clear d0 d2
      go_wp2_with fail
      refine (BytesB H7.out).mono ?_
      rintro e w8 ⟨buf, rfl, hlow, hbuf, h3, hf3⟩
      rw [hend] at h3 hbuf
      have H8 := Lib.hid h3
      have F8 := Lib.hid (F7.out.trans hf3)
      clear h3 hf3 hlow
      rcases hbuf.cases with ⟨rfl, hnil⟩ | ⟨g, cap, cur, rfl, hg, hlc, hm, hcs, ht⟩
      · exact absurd hnil (by decide)
      have hm' := hm
      unfold maxLen at hm'
      have hlen : ((declL2 ++ [63, 62]).take (31 + 1) : List UInt8).length = 32 := rfl
      rw [hlen] at hlc ⊢
      have hconv : (convert 77 9 (.slice (some ⟨g, 0, none⟩) 30 cap)).run Tryz.prog w8 = .ok (.string declC) w8 := by
        have ht2 : cur.toList.take declL2.length = Lib.byteCells declL2 := by
          have e := congrArg (List.take 30) ht
          rw [List.take_take] at e
          exact e
        have h10 : (convert 77 9 (.slice (some ⟨g, 0, none⟩) 30 cap)).run Tryz.prog w8 = .ok (.string (bst declL2)) w8 := run_piece_string (off := 0) (bs := declL2) (l := declL2) hg ht2 (by simp) (Nat.zero_le _) rfl
        exact h10
      have HP1 := Lib.hid (procInst_version w8)
      have HP2 := Lib.hid (procInst_encoding w8)
      clear hbuf hg hcs ht hm
      go_wp2_with fail
      refine HP1.out.mono ?_
      rintro e w9 ⟨rfl, rfl⟩
      go_wp2_with fail
      refine HP2.out.mono ?_
      rintro e w9 ⟨rfl, rfl⟩
      go_wp2_with fail
      exact HFIN.out _ _ _ (by rw [show i + 38 = i + 6 + 31 + 1 by omega]; exact H8.out) F8.out
    · have hb0 : b0 ≠ 63 := fun e => hend (decl_get k hk (by rw [HZ.out, e]))
      have g0 : ((b0.toNat : Int) == 63) = false := u8_ne 63 rfl hb0
      clear hb0
      go_wp2_with fail
      go_roundg (32 - (k + 1))
      case rel => exact ⟨k + 1, d, d, _, rfl, by omega, rfl, rfl, rfl, rfl, H7.out, F7.out, Lib.hid HZ2.out⟩
      case measure => have := HG.out; omega
end Go.Proofs.YtlljphipglgjiaaGreatDoor

namespace Go.Proofs.YtlljphipglgjiaaGreatDoor
open Go.RowKit Go.Lib

section
variable {M : Nat → Prop} {w w' : World} {P m : Nat} {s : ByteArray} {i : Nat} {fr : List Fram} {F : NsF} {bud : Nat}
theorem token_decl (t : List UInt8) (h : DecW M w P m s i none fr F bud) (hl : s.data.toList.drop i = declL ++ t) :
    Calls Tryz.prog 70 #[.pointer (some ⟨P, 0, none⟩)] w fun e w' => ∃ x, e = .returned (.tuple #[.iface 258 x, .nilIface]) ∧ (DecW M w' P m s (i + 38) none fr F bud ∧ Fr M w w') := by
  obtain ⟨L, f, bs, st, fl, n, rfl, hm, hnc, howe, hd, hns, hmM, hst, hfr, hbud⟩ := h
  refine token_plain w L.p L.stk 258 (.inr (.inr rfl)) _ (hd.tokAt hfr) ((raw_decl (Bare M st fl) w L s i f bs t hd.bare hnc hl).mono ?_)
  rintro e w2 ⟨v, rfl, ⟨bs2, h2⟩, hf2⟩
  exact ⟨_, rfl, ⟨⟨L, true, bs2, st, fl, n, rfl, hm, hnc, howe, hd.back h2 hf2 rfl rfl rfl, hns.fr hf2 fun h => hmM h.1, hmM, hst, hfr, hbud⟩, hf2.mono fun _ h => h.1⟩, (h2.plain hnc).2.2⟩

/-- Ahead of the root, behind whose first sign t stands. -/
def RootIn (s : ByteArray) (i : Nat) (t : List UInt8) : Prop := i ≤ s.size ∧ ((∃ l2, s.data.toList.drop i = declL ++ l2 ∧ Prol l2 t) ∨ Prol (s.data.toList.drop i) t)
inductive RootTok (M : Nat → Prop) (w : World) (P m : Nat) (s : ByteArray) (i : Nat) (fr : List Fram) (F : NsF) (nm : List UInt8) (av : List AttrS) (ks : List XEl) (rest t : List UInt8) : Ending → World → Prop
  | text (v : Value) (w' : World) (j : Nat) : i < j → RootIn s j t → DecV M w' P m s j none fr F → Fr (fun y => M y ∨ y = m) w w' → RootTok M w P m s i fr F nm av ks rest t (.returned (.tuple #[.iface 135 v, .nilIface])) w'
  | com (v : Value) (w' : World) (j : Nat) : i < j → RootIn s j t → DecV M w' P m s j none fr F → Fr (fun y => M y ∨ y = m) w w' → RootTok M w P m s i fr F nm av ks rest t (.returned (.tuple #[.iface 259 v, .nilIface])) w'
  | decl (v : Value) (w' : World) (j : Nat) : i < j → RootIn s j t → DecV M w' P m s j none fr F → Fr (fun y => M y ∨ y = m) w w' → RootTok M w P m s i fr F nm av ks rest t (.returned (.tuple #[.iface 258 v, .nilIface])) w'
  | start (w' : World) (j : Nat) (owe : Option (ByteArray × ByteArray)) (a : Option Addr) (n c : Nat) : i < j → Inside s j owe nm ks rest → DecV M w' P m s j owe (frOf nm F :: fr) (nsAll F av) → Fr (fun y => M y ∨ y = m) w w' →
      RootTok M w P m s i fr F nm av ks rest t (.returned (.tuple #[.iface 62 (.agg #[.string (xlate (nsAll F av) true (bst (halvesL nm).1) (bst (halvesL nm).2)), .string (bst (halvesL nm).2), .slice a n c]), .nilIface])) w'
theorem root_tok {nm : List UInt8} {av : List AttrS} {ks : List XEl} {rest t t2 r1 : List UInt8} {em : Bool} (htx : TextAll s) (h : DecV M w P m s i none fr F) (hE : Env M m w) (hR : RootIn s i t) (ht : t = nm ++ t2) (hN : GoodN nm) (hA : AttrsR t2 av em r1) (hk : (em = true ∧ ks = [] ∧ rest = r1) ∨ (em = false ∧ Cont r1 nm ks rest)) :
    Calls Tryz.prog 70 #[.pointer (some ⟨P, 0, none⟩)] w (RootTok M w P m s i fr F nm av ks rest t) := by
  have hss := DecW.size h
  have hmM := DecW.notM h
  obtain ⟨hi, ⟨l2, hl, hp⟩ | hp⟩ := hR
  · obtain ⟨j1, j2, j3⟩ := drop_le hl hi
    have e1 : i + 38 = s.size - l2.length := j2
    refine (token_decl l2 h hl).mono ?_
    rintro e w2 ⟨x, rfl, h1, h2⟩
    rw [e1] at h1
    exact .decl x w2 _ (by omega) ⟨j3, .inr (by rw [j1]; exact hp)⟩ (h1.more (by omega)) (h2.mono fun _ h => .inl h)
  · generalize hl : s.data.toList.drop i = l at hp
    cases hp with
    | text c l v t3 r hc htp hg hv hC =>
      obtain ⟨a, ha⟩ := txp_suffix htp
      obtain ⟨j1, j2, j3⟩ := drop_le (hl.trans ha) hi
      have hne : a ≠ [] := by
        rintro rfl
        rw [List.nil_append] at ha
        injection ha with e1
        exact hc e1
      have hlt := List.length_pos_iff.2 hne
      refine (token_text c l v t3 h hE.tabs hE.m4 htx hl hc htp hg hv).mono ?_
      rintro e w2 ⟨x, rfl, h1, h2, _⟩
      exact .text x w2 _ (by omega) ⟨j3, .inr (by rw [j1]; exact hC)⟩ (h1.more (by omega)) (h2.mono fun _ h => .inl h)
    | com c t3 r hc hC =>
      obtain ⟨j1, j2, j3⟩ := drop_le (a := 60 :: 33 :: 45 :: 45 :: (c ++ [45, 45, 62])) (r := t3) (hl.trans (by simp)) hi
      refine (token_com c t3 h hl hc).mono ?_
      rintro e w2 ⟨x, rfl, h1, h2⟩
      simp only [List.length_cons] at j2
      exact .com x w2 _ (by omega) ⟨j3, .inr (by rw [j1]; exact hC)⟩ (h1.more (by omega)) (h2.mono fun _ h => .inl h)
    | here =>
      subst ht
      obtain ⟨a, ha, hal⟩ := attrs_suffix hA
      obtain ⟨j1, j2, j3⟩ := drop_le (a := 60 :: (nm ++ a)) (r := r1) (hl.trans (by rw [ha]; simp)) hi
      simp only [List.length_cons, List.length_append] at j2
      refine (token_start nm t2 av em r1 h (small_bud hss hi _ (by omega)) hE.tabs hE.m4 htx hl hN hA).mono ?_
      rintro e w2 ⟨ga, cap, cur, rfl, h1, h2, h3, h4, h5⟩
      refine .start w2 _ _ _ _ _ (by omega) ⟨j3, ?_⟩ ((h4.wide (fun k hk => hk.1) hmM).more (by omega)) h5
      rcases hk with ⟨rfl, rfl, rfl⟩ | ⟨rfl, hC⟩
      · exact .inl ⟨rfl, rfl, j1, by omega⟩
      · exact .inr ⟨rfl, by rw [j1]; exact hC⟩
end

end Go.Proofs.YtlljphipglgjiaaGreatDoor
