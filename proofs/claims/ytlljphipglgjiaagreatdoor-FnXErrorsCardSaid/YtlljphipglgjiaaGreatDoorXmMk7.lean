/-
  impl.XEncode, of a node whose value a contract tells.
  laws.xAwake: it is true.
-/
import Derived.Test.YtlljphipglgjiaaGreatDoorXmMk
import Derived.Test.YtlljphipglgjiaaGreatDoorXmGram
namespace Go.Proofs.YtlljphipglgjiaaGreatDoor
open Go.RowKit Go.Lib
set_option linter.unusedSimpArgs false

theorem startTag_le (sp loc : ByteArray) (l : List AttrS) : (startTag sp loc l).length ≤ 9 * sp.size + 9 * loc.size + attrsSize l + 3 := by
  have := escName_le sp loc
  have := tags_le l
  simp only [startTag, List.length_append, List.length_cons, List.length_nil]
  omega
/-- What the value of a node writes, when the encoder stands behind its start. -/
def ValueSays (w0 : World) (sp loc : ByteArray) (node : Array Value) (body : List UInt8) : Prop :=
  ∀ (M : Nat → Prop) (b : Nat) (bs : List UInt8) (sa vp : Option Addr) (vn vc : Nat) (W : World), Below w0.heap.size w0 W → EncB M W b bs → bs.length ≤ 1000000 →
    Calls Tryz.prog 45 #[.agg #[wr b, .pointer sa, .string sp, .string loc, .slice vp vn vc, .bool false], .agg node] W fun e w' => e = .returned (.tuple #[]) ∧ EncB M w' b (bs ++ body) ∧ Fr M W w'

set_option maxRecDepth 100000 in
set_option maxHeartbeats 8000000 in
theorem encode_of (sp loc : ByteArray) (ap : Option Addr) (an ac : Nat) (fl : Bool) (kind : Int) (text : ByteArray) (int width bits : Int) (escp : Bool) (item : ByteArray) (kp : Option Addr) (kn kc : Nat) (l : List AttrS) (w : World)
    (body : List UInt8) (hT : Lib.Utf8Tabs 4 5 w) (hat : AttrsT 49 w (.slice ap an ac) l) (hloc : 0 < loc.size) (hall : ∀ a ∈ l, 0 < a.loc.size) (hlim : 20 * sp.size + 20 * loc.size + attrsSize l + 200 ≤ 1000000)
    (hV : ValueSays w sp loc (nodeCs sp loc ap an ac fl kind text int width bits escp item kp kn kc) body) :
    Calls Tryz.prog 23 #[.agg (nodeCs sp loc ap an ac fl kind text int width bits escp item kp kn kc)] w fun e w' => e = .returned (.string (bst (startTag sp loc l ++ body))) ∧ Below w.heap.size w w' := by
  have h45 : 4 < w.heap.size ∧ 5 < w.heap.size := ⟨World.block_lt_of_cell? w _ (hT.1 0 (by decide)), World.block_lt_of_cell? w _ (hT.2 0 (by decide)).1⟩
  have hmax : l.length ≤ 1000000 := by
    have : l.length ≤ attrsSize l := by
      clear hat hall hlim
      induction l with
      | nil => simp
      | cons a t ih => simp only [attrsSize, List.map_cons, List.sum_cons, List.length_cons] at ih ⊢; omega
    omega
  obtain ⟨N, hN⟩ : ∃ N, nodeCs sp loc ap an ac fl kind text int width bits escp item kp kn kc = N := ⟨_, rfl⟩
  have HV := Lib.hid hV
  have HT := Lib.hid hT
  have HAT := Lib.hid hat
  have HNE := Lib.hid hN
  rw [hN] at HV ⊢
  clear hV hT hat
  subst hN
  unfold nodeCs
  go_enter Tryz.func23, Tryz.ntmps23
  go_wp2_with fail
  refine (newBuffer_any _).mono ?_
  rintro e w1 ⟨rfl, rfl⟩
  go_wp2_with fail
  have hz0 : ((w.alloc (.cells #[.string sp, .string loc, .slice ap an ac, .bool fl, .int .i64 kind, .string text, .int .i64 int, .int .i64 width, .int .u64 bits, .bool escp, .string item, .slice kp kn kc] 44)).alloc (.cells encCs 146)).heap.size = w.heap.size + 2 := by simp
  have hn0 : Blk ((w.alloc (.cells #[.string sp, .string loc, .slice ap an ac, .bool fl, .int .i64 kind, .string text, .int .i64 int, .int .i64 width, .int .u64 bits, .bool escp, .string item, .slice kp kn kc] 44)).alloc (.cells encCs 146)) w.heap.size 44
      #[.string sp, .string loc, .slice ap an ac, .bool fl, .int .i64 kind, .string text, .int .i64 int, .int .i64 width, .int .u64 bits, .bool escp, .string item, .slice kp kn kc] := (Blk.new _ _ _).alloc _
  have hb0 : Blk ((w.alloc (.cells #[.string sp, .string loc, .slice ap an ac, .bool fl, .int .i64 kind, .string text, .int .i64 int, .int .i64 width, .int .u64 bits, .bool escp, .string item, .slice kp kn kc] 44)).alloc (.cells encCs 146)) (w.heap.size + 1) 146 encCs := by
    have := Blk.new (w.alloc (.cells #[.string sp, .string loc, .slice ap an ac, .bool fl, .int .i64 kind, .string text, .int .i64 int, .int .i64 width, .int .u64 bits, .bool escp, .string item, .slice kp kn kc] 44)) 146 encCs
    simpa using this
  have hB0 : Below w.heap.size w ((w.alloc (.cells #[.string sp, .string loc, .slice ap an ac, .bool fl, .int .i64 kind, .string text, .int .i64 int, .int .i64 width, .int .u64 bits, .bool escp, .string item, .slice kp kn kc] 44)).alloc (.cells encCs 146)) :=
    ((Below.refl _ _).alloc (Nat.le_refl _) _).alloc (by simp) _
  have HN0 := Lib.hid hn0
  have HB0 := Lib.hid hb0
  have HBB := Lib.hid hB0
  have HZ := Lib.hid hz0
  clear hn0 hb0 hB0 hz0
  refine (newEncoder_any (w.heap.size + 1) _).mono ?_
  rintro e w2 ⟨rfl, hE, hS, hbel, hsz⟩
  rw [HZ.out] at hE hS hbel hsz
  rw [HZ.out, show w.heap.size + 2 + 2 = w.heap.size + 4 from rfl]
  have an : Blk w2 w.heap.size 44 #[.string sp, .string loc, .slice ap an ac, .bool fl, .int .i64 kind, .string text, .int .i64 int, .int .i64 width, .int .u64 bits, .bool escp, .string item, .slice kp kn kc] := (hbel.block _ (by omega)).trans HN0.out
  have hbuf : Blk w2 (w.heap.size + 1) 146 encCs := (hbel.block _ (by omega)).trans HB0.out
  have hB2 : Below w.heap.size w w2 := HBB.out.trans (hbel.mono (by omega))
  have ae : Blk w2 (w.heap.size + 4) 142 #[.iface 84 (.pointer (some ⟨w.heap.size + 1, 0, none⟩)), .pointer (some ⟨w.heap.size + 3, 0, none⟩)] := hE
  have hM0 : EncB (fun k => w.heap.size ≤ k ∧ k ≠ w.heap.size ∧ k ≠ w.heap.size + 4) w2 (w.heap.size + 1) [] := by
    refine encB_new _ _ _ ⟨?_, fun h => by omega, fun h => by omega⟩ (fun k hk => by omega) (by omega) hbuf
    exact ⟨fun c hc => (cell_below (hB2.mono (Nat.le_refl _)) (HT.out.1 c hc)), fun i hi => ⟨cell_below hB2 (HT.out.2 i hi).1, cell_below hB2 (HT.out.2 i hi).2⟩⟩
  have HM0 := Lib.hid hM0
  have HB2 := Lib.hid hB2
  have HSZ := Lib.hid hsz
  have HAN := Lib.hid an
  have HAE := Lib.hid ae
  have an0 := an.cell 0
  have an1 := an.cell 1
  have an2 := an.cell 2
  have an3 := an.cell 3
  have an4 := an.cell 4
  have an5 := an.cell 5
  have an6 := an.cell 6
  have an7 := an.cell 7
  have an8 := an.cell 8
  have an9 := an.cell 9
  have an10 := an.cell 10
  have an11 := an.cell 11
  have ae0 := ae.cell 0
  have ae1 := ae.cell 1
  clear hE hS hbel hsz an hbuf hB2 ae hM0 HN0 HB0 HBB HZ
  go_wp2_with fail
  go_region_held3 (fun w' => w'.cell? ⟨w.heap.size, 0, none⟩ = some (.string sp) ∧ w'.cell? ⟨w.heap.size, 1, none⟩ = some (.string loc) ∧ w'.cell? ⟨w.heap.size, 2, none⟩ = some (.slice ap an ac) ∧ w'.cell? ⟨w.heap.size, 3, none⟩ = some (.bool fl) ∧ w'.cell? ⟨w.heap.size, 4, none⟩ = some (.int .i64 kind) ∧ w'.cell? ⟨w.heap.size, 5, none⟩ = some (.string text) ∧ w'.cell? ⟨w.heap.size, 6, none⟩ = some (.int .i64 int) ∧ w'.cell? ⟨w.heap.size, 7, none⟩ = some (.int .i64 width) ∧ w'.cell? ⟨w.heap.size, 8, none⟩ = some (.int .u64 bits) ∧ w'.cell? ⟨w.heap.size, 9, none⟩ = some (.bool escp) ∧ w'.cell? ⟨w.heap.size, 10, none⟩ = some (.string item) ∧ w'.cell? ⟨w.heap.size, 11, none⟩ = some (.slice kp kn kc) ∧ w'.cell? ⟨w.heap.size + 4, 0, none⟩ = some (.iface 84 (.pointer (some ⟨w.heap.size + 1, 0, none⟩))) ∧ w'.cell? ⟨w.heap.size + 4, 1, none⟩ = some (.pointer (some ⟨w.heap.size + 3, 0, none⟩))) (go_keep)
    (first
      | (go_at_call 47
         refine (startOf_any sp loc ap an ac fl kind text int width bits escp item kp kn kc l _ (HAT.out.fr (Fr.ofBelow (below_drewN' HB2.out _)) (fun g hg hk => by have := (HAT.out.lt g hg).2; omega)) hmax).mono ?_
         rintro e w3 ⟨v, rfl, hv, hvlo, hbel3⟩
         obtain ⟨vp, vn, vc, rfl⟩ := hv.slice
         have bn : Blk w3 w.heap.size 44 #[.string sp, .string loc, .slice ap an ac, .bool fl, .int .i64 kind, .string text, .int .i64 int, .int .i64 width, .int .u64 bits, .bool escp, .string item, .slice kp kn kc] := (hbel3.block _ (by show w.heap.size < w2.heap.size; rw [HSZ.out]; omega)).trans HAN.out
         have be : Blk w3 (w.heap.size + 4) 142 #[.iface 84 (.pointer (some ⟨w.heap.size + 1, 0, none⟩)), .pointer (some ⟨w.heap.size + 3, 0, none⟩)] := (hbel3.block _ (by show w.heap.size + 4 < w2.heap.size; rw [HSZ.out]; omega)).trans HAE.out
         have HBN := Lib.hid bn
         have HBE := Lib.hid be
         have HV3 := Lib.hid hv
         have HVLO := Lib.hid hvlo
         have HB3 : Hid (Below w.heap.size w w3) := Lib.hid (HB2.out.trans ((show Below w2.heap.size w2 w3 from ⟨hbel3.os, hbel3.tape, hbel3.output, hbel3.size, hbel3.block⟩).mono HB2.out.size))
         have he3 : EncB (fun k => w.heap.size ≤ k ∧ k ≠ w.heap.size ∧ k ≠ w.heap.size + 4) w3 (w.heap.size + 1) [] := HM0.out.fr (Fr.ofBelow (show Below w2.heap.size w2 w3 from ⟨hbel3.os, hbel3.tape, hbel3.output, hbel3.size, hbel3.block⟩))
         obtain ⟨cs3, hcs3⟩ := he3.blk
         have HE3 := Lib.hid (he3.withoutRow hv hcs3)
         clear he3 hcs3
         have bn0 := bn.cell 0
         have bn1 := bn.cell 1
         have bn2 := bn.cell 2
         have bn3 := bn.cell 3
         have bn4 := bn.cell 4
         have bn5 := bn.cell 5
         have bn6 := bn.cell 6
         have bn7 := bn.cell 7
         have bn8 := bn.cell 8
         have bn9 := bn.cell 9
         have bn10 := bn.cell 10
         have bn11 := bn.cell 11
         have be0 := be.cell 0
         have be1 := be.cell 1
         clear bn be hv hvlo hbel3)
      | (go_at_call 46
         refine (rootElement_any _ (w.heap.size + 1) [] (some ⟨w.heap.size + 3, 0, none⟩) sp loc _ l _ HE3.out HV3.out (fun g hg h => h.2 hg) hloc hall (by simp; omega)).mono ?_
         rintro e w4 ⟨rfl, h4, hf4⟩
         have dn := HBN.out.fr hf4 (fun h => h.1.2.1 rfl)
         have de := HBE.out.fr hf4 (fun h => h.1.2.2 rfl)
         have HDN := Lib.hid dn
         have HDE := Lib.hid de
         have H4 := Lib.hid h4
         have HB4 : Hid (Below w.heap.size w w4) := Lib.hid (HB3.out.trans (hf4.toBelow fun x hx => hx.1.1))
         have dn0 := dn.cell 0
         have dn1 := dn.cell 1
         have dn2 := dn.cell 2
         have dn3 := dn.cell 3
         have dn4 := dn.cell 4
         have dn5 := dn.cell 5
         have dn6 := dn.cell 6
         have dn7 := dn.cell 7
         have dn8 := dn.cell 8
         have dn9 := dn.cell 9
         have dn10 := dn.cell 10
         have dn11 := dn.cell 11
         have de0 := de.cell 0
         have de1 := de.cell 1
         clear dn de h4 hf4)
      | (go_at_call 45
         refine (HV.out _ (w.heap.size + 1) _ (some ⟨w.heap.size + 3, 0, none⟩) _ _ _ _ HB4.out H4.out ?_).mono ?_
         · have := startTag_le sp loc l
           simp
           omega
         rintro e w5 ⟨rfl, h5, hf5⟩
         have en := HDN.out.fr hf5 (fun h => h.1.2.1 rfl)
         have ee := HDE.out.fr hf5 (fun h => h.1.2.2 rfl)
         have HEN := Lib.hid en
         have HEE := Lib.hid ee
         have H5 := Lib.hid h5
         have HB5 : Hid (Below w.heap.size w w5) := Lib.hid (HB4.out.trans (hf5.toBelow fun x hx => hx.1.1))
         have en0 := en.cell 0
         have en1 := en.cell 1
         have en2 := en.cell 2
         have en3 := en.cell 3
         have en4 := en.cell 4
         have en5 := en.cell 5
         have en6 := en.cell 6
         have en7 := en.cell 7
         have en8 := en.cell 8
         have en9 := en.cell 9
         have en10 := en.cell 10
         have en11 := en.cell 11
         have ee0 := ee.cell 0
         have ee1 := ee.cell 1
         clear en ee h5 hf5))
  go_wp2_with fail
  refine (encString_any _ (w.heap.size + 1) _ (some ⟨w.heap.size + 3, 0, none⟩) _ H5.out).mono ?_
  rintro e w6 ⟨rfl, hbel6⟩
  have HB6 : Hid (Below w.heap.size w w6) := Lib.hid (HB5.out.trans (Below.mono ⟨hbel6.os, hbel6.tape, hbel6.output, hbel6.size, hbel6.block⟩ HB5.out.size))
  clear hbel6
  go_wp2_with fail
  go_ret
  exact ⟨by simp, HB6.out⟩

end Go.Proofs.YtlljphipglgjiaaGreatDoor

namespace Go.Proofs.YtlljphipglgjiaaGreatDoor
open Go.RowKit Go.Lib
set_option linter.unusedSimpArgs false

theorem awake_doc : startTag ⟨#[]⟩ ⟨#[97]⟩ [] ++ endTag ⟨#[]⟩ ⟨#[97]⟩ = [60, 97, 62, 60, 47, 97, 62] := by decide +kernel

set_option maxRecDepth 100000 in
set_option maxHeartbeats 1000000 in
theorem awake_any (w : World) (hT : Lib.Utf8Tabs 4 5 w) : Calls Tryz.prog 12 #[] w fun e w' => e = .returned (.bool true) ∧ Below w.heap.size w w' := by
  have hV : ValueSays w ⟨#[]⟩ ⟨#[97]⟩ (nodeCs ⟨#[]⟩ ⟨#[97]⟩ none 0 0 false 0 ⟨#[]⟩ 0 0 0 false ⟨#[]⟩ none 0 0) (endTag ⟨#[]⟩ ⟨#[97]⟩) := by
    intro M b bs sa vp vn vc W hB hE hl
    exact value_none M b bs sa ⟨#[]⟩ ⟨#[97]⟩ vp vn vc false ⟨#[]⟩ ⟨#[97]⟩ none 0 0 false ⟨#[]⟩ 0 0 0 false ⟨#[]⟩ none 0 0 W hE (by decide) (by show bs.length + 20 * 0 + 20 * 1 + 100 ≤ 50000000; omega)
  have HC := Lib.hid (encode_of ⟨#[]⟩ ⟨#[97]⟩ none 0 0 false 0 ⟨#[]⟩ 0 0 0 false ⟨#[]⟩ none 0 0 [] w _ hT (AttrsT.nil 49 w) (by decide) (by simp) (by decide) hV)
  rw [awake_doc] at HC
  clear hV hT
  go_enter Tryz.func12, Tryz.ntmps12
  go_wp2_with fail
  refine HC.out.mono ?_
  rintro e w2 ⟨rfl, hB⟩
  have HB := Lib.hid hB
  clear hB
  go_wp2_with fail
  go_ret
  exact ⟨by first | rfl | (simp [bst]; done), HB.out⟩

end Go.Proofs.YtlljphipglgjiaaGreatDoor
