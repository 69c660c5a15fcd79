/-
  FnXErrors: which element an error's document means (plain).
  FnXErrors: the law's own walk, over contracts of spec.XRead and of xAwake.
  FnXErrors: its row and its card, over the law's walk.
-/
import Derived.Test.YtlljphipglgjiaaGreatDoorXmZt
import Derived.Test.YtlljphipglgjiaaGreatDoorXmXdoc
import Derived.Test.YtlljphipglgjiaaGreatDoorTie
import Derived.Test.YtlljphipglgjiaaGreatDoorCards
import Derived.ProofKit
import Derived.OpenShut
import Derived.LaidMore
import Derived.Lay
import Derived.SevenTiedAt
import Derived.Stop.Joined
import Derived.Lib.LaidU8T
import Derived.ChangeMaps5
import Derived.ShutString
namespace Go.Proofs.YtlljphipglgjiaaGreatDoor
open Go.RowKit Go.Lib

theorem tw_colon : ∀ l : List UInt8, 58 ∈ l → l = l.takeWhile (· != 58) ++ 58 :: l.drop ((l.takeWhile (· != 58)).length + 1)
  | [], h => by cases h
  | a :: t, h => by
    by_cases ha : a = 58
    · subst ha
      simp
    · have hb : (a != 58) = true := bne_iff_ne.2 ha
      have ht : 58 ∈ t := by
        rcases List.mem_cons.1 h with h | h
        · exact absurd h.symm ha
        · exact h
      rw [List.takeWhile_cons, if_pos hb, List.length_cons, List.drop_succ_cons, List.cons_append]
      exact congrArg (a :: ·) (tw_colon t ht)
theorem halves_colon (nm : List UInt8) : (halvesL nm).2 = nm ∨ ∃ sp, nm = sp ++ 58 :: (halvesL nm).2 := by
  unfold halvesL
  split
  · rename_i h
    exact .inr ⟨_, tw_colon nm h⟩
  · exact .inl rfl
def errL : List UInt8 := [69, 114, 114, 111, 114]
theorem bst_err {l : List UInt8} : bst l = errB ↔ l = errL := by
  constructor
  · intro h
    have := congrArg (fun x => x.data.toList) h
    rw [bst_toList] at this
    exact this
  · rintro rfl
    rfl
abbrev x0C : Comp := (⟨#[]⟩, ⟨#[]⟩)
theorem goFold_snoc (step : Comp → ByteArray → List XEl → Comp) (x : Comp) (l : List XEl) (q : XEl) : goFold step x (l ++ [q]) = if notEl q = true then goFold step x l else step (goFold step x l) (bst (halvesL q.name).2) q.kids := by
  unfold goFold elemsOf
  rw [List.filter_append, List.foldl_append]
  by_cases h : notEl q = true
  · rw [if_pos h, List.filter_cons_of_neg (by rw [h]; decide)]
    rfl
  · rw [if_neg h, List.filter_cons_of_pos (by simpa using h)]
    rfl

/-- Of the first k kids: how many are named Error, and the last of them. -/
def Looked (ks : List XEl) (k many : Nat) (el : XEl) : Prop :=
  SmallK el.kids ∧ (many = 0 → el = .mk [] [] [] [] ∧ goFold errStep x0C (ks.take k) = x0C) ∧ (many = 1 → goFold errStep x0C (ks.take k) = faultC x0C el.kids)
theorem Looked.start (ks : List XEl) : Looked ks 0 0 (.mk [] [] [] []) := ⟨.nil, fun _ => ⟨rfl, rfl⟩, fun h => (by cases h)⟩
theorem Looked.err {ks : List XEl} {k many : Nat} {el : XEl} (h : Looked ks k many el) (hk : k < ks.length) (hq : ks[k].name = errL) (hsm : SmallK ks[k].kids) : Looked ks (k + 1) (many + 1) ks[k] := by
  refine ⟨hsm, fun h => (by cases h), fun hm => ?_⟩
  obtain rfl : many = 0 := by omega
  rw [List.take_succ_eq_append_getElem hk, goFold_snoc, (h.2.1 rfl).2, if_neg (by unfold notEl; rw [hq]; decide)]
  unfold errStep
  rw [if_pos (by rw [hq]; rfl)]
theorem Looked.other {ks : List XEl} {k many : Nat} {el : XEl} (h : Looked ks k many el) (hk : k < ks.length) (hq : ks[k].name ≠ errL) (hs : ∀ sp, ks[k].name ≠ sp ++ 58 :: errL) : Looked ks (k + 1) many el := by
  have e : goFold errStep x0C (ks.take (k + 1)) = goFold errStep x0C (ks.take k) := by
    rw [List.take_succ_eq_append_getElem hk, goFold_snoc]
    split
    · rfl
    · unfold errStep
      rw [if_neg]
      intro he
      have he2 := bst_err.1 he
      rcases halves_colon ks[k].name with h | ⟨sp, h⟩
      · exact hq (h.symm.trans he2)
      · rw [he2] at h
        exact hs sp h
  refine ⟨h.1, fun hm => ?_, fun hm => ?_⟩
  · rw [e]; exact h.2.1 hm
  · rw [e]; exact h.2.2 hm
theorem Looked.last {ks : List XEl} {k many : Nat} {el : XEl} (h : Looked ks k many el) (hk : k = ks.length) (hm : many ≤ 1) : errsL false ks = faultC x0C el.kids := by
  subst hk
  obtain ⟨_, h0, h1⟩ := h
  rw [List.take_length] at h0 h1
  show goFold errStep x0C ks = _
  rcases Nat.lt_or_ge 0 many with h | h
  · exact h1 (by omega)
  · obtain ⟨rfl, h2⟩ := h0 (by omega)
    rw [h2]
    rfl
/-- A name that does not end in a colon and Error. -/
theorem no_suffix {x : ByteArray} {nm : List UInt8} (hx : x = bst nm) (h : x.size ≤ 5 ∨ ((x.extract (x.size - 6) x.size).toList == [58, 69, 114, 114, 111, 114]) = false) : ∀ sp, nm ≠ sp ++ 58 :: errL := by
  rintro sp rfl
  have hsz : x.size = sp.length + 6 := by rw [hx, bst_size]; simp [errL]
  rcases h with h | h
  · omega
  · rw [beq_eq_false_iff_ne] at h
    apply h
    rw [Lib.toList_data, ext_list, hx, bst_toList, bst_size]
    simp [errL]
end Go.Proofs.YtlljphipglgjiaaGreatDoor

namespace Go.Proofs.YtlljphipglgjiaaGreatDoor
open Go.RowKit Go.Lib

set_option maxRecDepth 100000 in
set_option maxHeartbeats 16000000 in
theorem fnXErrors_any (hx : ∀ s : ByteArray, s.size ≤ 1000000 → ∀ w : World, Errs (fun x => w.heap.size ≤ x) w → Calls Tryz.prog 25 #[.string s] w (XPost w (xreadL s.data.toList)))
    (ha : ∀ w : World, Utf8Tabs 4 5 w → Calls Tryz.prog 12 #[] w fun e w' => e = .returned (.bool true) ∧ Below w.heap.size w w')
    (s : ByteArray) (bare : Bool) (w : World) (hT : Utf8Tabs 4 5 w) (hE : Errs (fun x => w.heap.size ≤ x) w) (hEO : ∃ te pe, w.cell? ⟨1, 0, none⟩ = some (.iface te pe)) :
    Calls Tryz.prog 10 #[.string s, .bool bare] w fun e w' => e = .returned (.bool true) ∧ Below w.heap.size w w' := by
  have h5 : 5 < w.heap.size := World.block_lt_of_cell? w _ (hT.2 0 (by omega)).1
  by_cases h1 : 2147483647 < s.size
  · have d1 : decide ((2147483647 : Int) < (s.size : Int)) = true := by rw [decide_eq_true_eq]; omega
    clear hx ha hT hE hEO
    go_enter Tryz.func10, Tryz.ntmps10
    go_wp2_with fail
    go_ret
    exact ⟨rfl, Below.refl _ _⟩
  have d1 : decide ((2147483647 : Int) < (s.size : Int)) = false := by rw [decide_eq_false_iff_not]; omega
  have HD := Lib.hid (xdoc2_any hx s w hE)
  have HA := Lib.hid ha
  have HT := Lib.hid hT
  have heo : ∀ W, Below w.heap.size w W → ∃ te pe, W.cell? ⟨1, 0, none⟩ = some (.iface te pe) := fun W hb => by
    obtain ⟨te, pe, h⟩ := hEO
    exact ⟨te, pe, (hb.cell (p := ⟨1, 0, none⟩) (by show 1 < w.heap.size; omega)).trans h⟩
  have HEO := Lib.hid heo
  clear hx ha hT hE hEO heo
  go_enter Tryz.func10, Tryz.ntmps10
  go_wp2_with fail
  refine HD.out.mono ?_
  rintro e w2 ⟨el, av, kv, ok, rfl, hel, hf2, hsays⟩
  obtain ⟨⟨ap, an, ac, rfl⟩, ⟨kp, kn, kc, rfl⟩⟩ := hel.slices
  have hb2 : Below w.heap.size w w2 := hf2.toBelow fun _ h => h
  have htab : ∀ W, Below w.heap.size w W → Utf8Tabs 4 5 W := fun W hb => utf8_fr (M := fun x => w.heap.size ≤ x) HT.out (Fr.below hb (Nat.le_refl _) (fun _ h => h)) ⟨by omega, by omega⟩
  have hbV : Below w2.heap.size w2 (w2.alloc (.cells #[.string (bst el.name), .slice ap an ac, .string (bst el.text), .slice kp kn kc] 25)) := (Below.refl _ _).alloc (Nat.le_refl _) _
  have hk0 := Blk.new w2 25 #[.string (bst el.name), .slice ap an ac, .string (bst el.text), .slice kp kn kc]
  have hstE := hel.fr (Fr.below hbV (Nat.le_refl _) (fun _ h => h) : Fr (fun x => w2.heap.size ≤ x) w2 _) (fun x hx => Nat.not_le.2 hx.2)
  have HTAB := Lib.hid htab
  obtain ⟨eb, heb⟩ : ∃ eb, w2.heap.size = eb := ⟨_, rfl⟩
  obtain ⟨A, hA⟩ : ∃ A, bst el.name = A := ⟨_, rfl⟩
  obtain ⟨T, hTx⟩ : ∃ T, bst el.text = T := ⟨_, rfl⟩
  rw [hA, hTx] at hbV hk0 hstE ⊢
  obtain ⟨V, hV⟩ : ∃ V, w2.alloc (.cells #[.string A, .slice ap an ac, .string T, .slice kp kn kc] 25) = V := ⟨_, rfl⟩
  rw [hV] at hbV hk0 hstE
  have hbwV : Below w.heap.size w V := hb2.trans (hbV.mono hb2.size)
  have hebw : w.heap.size ≤ eb := by rw [← heb]; exact hb2.size
  have hebV : V.heap.size = eb + 1 := by rw [← heb, ← hV]; simp
  rw [heb] at hk0 hstE
  have HV := Lib.hid hV
  have HBW := Lib.hid hbwV
  cases ok with
  | false =>
    have HAW := Lib.hid (HA.out V (HTAB.out V hbwV))
    clear hsays hel hf2 hb2 htab hk0 hbV hV hbwV hA hTx hstE HD
    go_wp2_with fail
    rw [HV.out]
    refine HAW.out.mono ?_
    rintro e w4 ⟨rfl, hb4⟩
    have HB4 := Lib.hid hb4
    clear hb4
    go_wp2_with fail
    go_ret
    exact ⟨rfl, HBW.out.trans (HB4.out.mono HBW.out.size)⟩
  | true =>
    have hdoc : s.size ≤ 5000 ∧ xreadL s.data.toList = some el := by
      by_cases h2 : 5000 < s.size
      · rw [if_pos h2] at hsays
        cases hsays
      · rw [if_neg h2] at hsays
        cases hxr : xreadL s.data.toList with
        | none => rw [hxr] at hsays; cases hsays
        | some e0 =>
          rw [hxr] at hsays
          exact ⟨by omega, by rw [hsays.2]⟩
    obtain ⟨hsz, hdoc⟩ := hdoc
    obtain ⟨nm, atts, ks, rest, hele, hD⟩ := doc_ok hdoc
    have hsm : SmallK ks := doc_deep hD (by omega)
    have hkids : el.kids = ks := by rw [hele]; rfl
    have HDOC := Lib.hid hD
    have HKB := Lib.hid hk0
    have HEL2 := Lib.hid hstE
    have hA2 := hA
    have hT2 := hTx
    cases bare with
    | true =>
      have herr : errsL true ks = faultC x0C el.kids := by rw [hkids]; rfl
      rw [← hkids] at hsm
      have c0 := HKB.out.cell 0
      have c1 := HKB.out.cell 1
      have c2 := HKB.out.cell 2
      have c3 := HKB.out.cell 3
      have hfa := fault_any V _ _ _ el HEL2.out (fun y hy => Nat.lt_trans hy.2 HKB.out.lt) hsm
      rw [hA2, hT2] at hfa
      obtain ⟨x, hx⟩ : ∃ x, faultC x0C (el).kids = x := ⟨_, rfl⟩
      rw [hx] at hfa herr
      obtain ⟨f1, f2⟩ := x
      have HFA := Lib.hid hfa
      have HERR := Lib.hid herr
      clear hfa hx herr hsm hA2 hT2 hA hTx hsays hel hf2 hb2 htab hk0 hbV hV hbwV hstE hdoc hD hele hkids HD
      go_upto_region 21 with fail
      rw [HV.out]
      try rw [heb]
      go_wp2_with fail
      refine HFA.out.mono ?_
      rintro e w5 ⟨rfl, hb5⟩
      have hbw5 := HBW.out.trans (hb5.mono HBW.out.size)
      have hxe := xerrors_any s w5 true nm atts ks rest (by omega) (HTAB.out w5 hbw5) (by have := hbw5.size; omega) (HEO.out w5 hbw5) HDOC.out
      rw [HERR.out] at hxe
      have HXE := Lib.hid hxe
      have HB5 := Lib.hid hbw5
      have e1 : (f1.toList == f1.toList) = true := beq_self_eq_true _
      have e2 : (f2.toList == f2.toList) = true := beq_self_eq_true _
      clear hb5 hbw5 hxe c0 c1 c2 c3
      go_wp2_with fail
      refine HXE.out.mono ?_
      rintro e w6 ⟨rfl, hb6⟩
      have hbw6 := HB5.out.trans (hb6.mono HB5.out.size)
      have HAW := Lib.hid (HA.out _ (HTAB.out _ hbw6))
      have HB6 := Lib.hid hbw6
      clear hb6 hbw6
      go_wp2_with fail
      refine HAW.out.mono ?_
      rintro e w7 ⟨rfl, hb7⟩
      have HB7 := Lib.hid hb7
      clear hb7
      go_wp2_with fail
      go_ret
      exact ⟨rfl, HB6.out.trans (HB7.out.mono HB6.out.size)⟩
    | false =>
      obtain ⟨ib, hib⟩ : ∃ ib, V.heap.size = ib := ⟨_, rfl⟩
      obtain ⟨V2, hV2⟩ : ∃ W, V.alloc (.cells #[.string ⟨#[]⟩, .slice none 0 0, .string ⟨#[]⟩, .slice none 0 0] 25) = W := ⟨_, rfl⟩
      have hb2 : Below V.heap.size V V2 := by rw [← hV2]; exact (Below.refl _ _).alloc (Nat.le_refl _) _
      have hbw2 : Below w.heap.size w V2 := HBW.out.trans (hb2.mono HBW.out.size)
      have hkb2 : Blk V2 eb 25 #[.string A, .slice ap an ac, .string T, .slice kp kn kc] := (hb2.block _ HKB.out.lt).trans HKB.out
      have hki2 : Blk V2 ib 25 #[.string ⟨#[]⟩, .slice none 0 0, .string ⟨#[]⟩, .slice none 0 0] := by rw [← hV2, ← hib]; exact Blk.new _ _ _
      have hel2 : ElM 49 25 V2 (fun g => w.heap.size ≤ g ∧ g < eb) (.slice ap an ac) (.slice kp kn kc) el := HEL2.out.fr (Fr.below hb2 (Nat.le_refl _) (fun _ h => h) : Fr (fun x => V.heap.size ≤ x) V _) (fun y hy => by have := hy.2; omega)
      obtain ⟨ksv, hks, hkm⟩ := hel2.inv2
      have hkn : kn = ksv.length := by
        obtain ⟨⟨h1, ⟨h2, h3⟩ | ⟨g, cap, cur, h2, _⟩⟩, _, _⟩ := hkm
        · injection h2 with _ h4 _
          rw [h4, h3]
        · injection h2
      subst hkn
      rw [hkids] at hks
      have hiebne : eb < ib := by omega
      have hown := hkm.2.1
      have hwsz : w.heap.size ≤ ib := by omega
      have hl1 : ksv.length ≤ 2000000 := by have := hsm.parts.1; rw [hks, List.length_map] at this; exact this
      have HOWN := Lib.hid hown
      have HKM := Lib.hid hkm
      have HKS := Lib.hid hks
      have HSM := Lib.hid hsm
      have HB2 := Lib.hid hbw2
      have HKB2 := Lib.hid hkb2
      have HKI2 := Lib.hid hki2
      have HV2 := Lib.hid hV2
      clear hsays hel hf2 htab hk0 hbV hV hbwV hA hTx hstE hdoc hD hele hb2 hbw2 hkb2 hki2 hel2 hks hkm hown hsm hV2 hA2 hT2 HKB HEL2 hkids HD hebV
      go_upto_region 7 with fail
      rw [HV.out]
      try rw [heb]
      go_upto_region 8 with fail
      try rw [hib]
      rw [HV2.out]
      go_wp2_with fail
      go_loopg [4, 8, 9] ksv.length (fun g rv mv iv wr => ∃ (k many : Nat) (el2 : XEl) (A2 T2 : ByteArray) (ap2 : Option Addr) (an2 ac2 : Nat) (kp2 : Option Addr) (kn2 kc2 : Nat), g = ksv.length - k ∧ rv = .bool false ∧ mv = .int .i64 many ∧ iv = .int .i64 k ∧ k ≤ ksv.length ∧ many ≤ k ∧ bst el2.name = A2 ∧ bst el2.text = T2 ∧ Fr (fun x => x = ib) V2 wr ∧
        Blk wr ib 25 #[.string A2, .slice ap2 an2 ac2, .string T2, .slice kp2 kn2 kc2] ∧ Hid (ElM 49 25 V2 (fun g => w.heap.size ≤ g ∧ g < eb) (.slice ap2 an2 ac2) (.slice kp2 kn2 kc2) el2) ∧ Hid (Looked ks k many el2))
      case atStart => exact ⟨0, 0, .mk [] [] [] [], ⟨#[]⟩, ⟨#[]⟩, none, 0, 0, none, 0, 0, rfl, rfl, rfl, rfl, Nat.zero_le _, Nat.le_refl _, rfl, rfl, Fr.refl _ _, HKI2.out, Lib.hid (ElM.zero _ _), Lib.hid (Looked.start ks)⟩
      case round =>
        obtain ⟨k, many, el2, A2, T2, ap2, an2, ac2, kp2, kn2, kc2, hg, rfl, rfl, rfl, hk, hmk, hA2, hT2, hfr, hki, HEL2, HLK⟩ := hrel
        have HG := Lib.hid hg
        have HFR := Lib.hid hfr
        have HKI := Lib.hid hki
        have hbr : Below w.heap.size w wr := HB2.out.trans (hfr.toBelow fun x hx => by rw [hx]; exact hwsz)
        have HBW := Lib.hid hbr
        have hkb : Blk wr eb 25 #[.string A, .slice ap an ac, .string T, .slice kp ksv.length kc] := HKB2.out.fr hfr (by omega)
        have HKBR := Lib.hid hkb
        have c3 := hkb.cell 3
        have hkl2 : ks.length = ksv.length := by rw [HKS.out, List.length_map]
        have HA2 := Lib.hid hA2
        have HT2 := Lib.hid hT2
        clear hg hfr hki hbr hkb hA2 hT2
        by_cases hkl : k < ksv.length
        · have hd : decide ((k : Int) < (ksv.length : Int)) = true := by rw [decide_eq_true_eq]; omega
          have nn : (0 : Int) ≤ (k : Int) := Int.natCast_nonneg _
          obtain ⟨g, c, hgv, hgl, hkel, hg0, hg1, hg2, hg3⟩ := kid_cells HKM.out k hkl
          injection hgv with hgv1 hgv2 hgv3
          subst hgv1
          subst hgv3
          clear hgv2
          have hgi : g ≠ ib := by
            have := (HOWN.out g rfl).2
            omega
          have hcell : ∀ j v, V2.cell? ⟨g, j, none⟩ = some v → wr.cell? ⟨g, j, none⟩ = some v := fun j v hv => by rw [World.cell?, HFR.out.block _ hgi]; exact hv
          have g0 := hcell _ _ hg0
          have g1 := hcell _ _ hg1
          have g2 := hcell _ _ hg2
          have g3 := hcell _ _ hg3
          have hkk : k < ks.length := by omega
          have hel3 : ks[k] = (ksv[k]).1 := by
            have : ks[k]? = some (ksv[k]).1 := by rw [HKS.out, List.getElem?_map, List.getElem?_eq_getElem hkl]; rfl
            rw [List.getElem?_eq_getElem hkk] at this
            exact Option.some.inj this
          have hsmk := HSM.out.parts.2.2.2 ks[k] (List.getElem_mem hkk)
          have hnl := HSM.out.parts.2.1 ks[k] (List.getElem_mem hkk)
          have herr1 := fun h1 h2 => HLK.out.err hkk h1 h2
          have hoth := fun h1 h2 => HLK.out.other hkk h1 h2
          rw [hel3] at hsmk hnl herr1 hoth
          obtain ⟨q, hq⟩ : ∃ q, ksv[k] = q := ⟨_, rfl⟩
          rw [hq] at g0 g1 g2 g3 hkel hsmk hnl herr1 hoth
          obtain ⟨qe, qa, qk⟩ := q
          dsimp only at g0 g1 g2 g3 hkel hsmk hnl herr1 hoth
          obtain ⟨⟨qap, qan, qac, rfl⟩, ⟨qkp, qkn, qkc, rfl⟩⟩ := hkel.slices
          obtain ⟨x, hx⟩ : ∃ x, bst qe.name = x := ⟨_, rfl⟩
          rw [hx] at g0
          have hxd : x.toList = qe.name := by rw [← hx, Lib.toList_data, bst_toList]
          have hxs : x.size ≤ 2000000 := by rw [← hx, bst_size]; exact hnl
          have HKEL := Lib.hid hkel
          have HERR := Lib.hid herr1
          have HOTH := Lib.hid hoth
          have HXX := Lib.hid hx
          have HSMK := Lib.hid hsmk
          clear hg0 hg1 hg2 hg3 hkel hsmk hnl herr1 hoth hq hx hel3 hcell
          by_cases hqe : qe.name = errL
          · have e1 : (x.toList == [69, 114, 114, 111, 114]) = true := by rw [hxd, hqe]; rfl
            have k0 := HKI.out.cell 0
            have k1 := HKI.out.cell 1
            have k2 := HKI.out.cell 2
            have k3 := HKI.out.cell 3
            have kf := HKI.out.frozen
            obtain ⟨y, hy⟩ : ∃ y, bst qe.text = y := ⟨_, rfl⟩
            rw [hy] at g2
            have HYY := Lib.hid hy
            have HLK2 := Lib.hid (HERR.out hqe HSMK.out)
            clear hqe hy hxd
            go_wp2_with fail
            go_roundg (ksv.length - (k + 1))
            case rel =>
              refine ⟨k + 1, many + 1, qe, x, y, qap, qan, qac, qkp, qkn, qkc, rfl, rfl, by go_num, by go_num, by omega, by omega, HXX.out, HYY.out, ?_, ?_, HKEL, HLK2⟩
              · exact ((((HFR.out.setCell (p := ⟨ib, 0, none⟩) rfl _).setCell (p := ⟨ib, 1, none⟩) rfl _).setCell (p := ⟨ib, 2, none⟩) rfl _).setCell (p := ⟨ib, 3, none⟩) rfl _)
              · exact ((((HKI.out.set 0 _).set 1 _).set 2 _).set 3 _).eq rfl
            case measure => have := HG.out; omega
          · have e1 : (x.toList == [69, 114, 114, 111, 114]) = false := by rw [hxd, beq_eq_false_iff_ne]; exact hqe
            by_cases h5x : 5 < x.size
            · have d5 : decide ((5 : Int) < (x.size : Int)) = true := by rw [decide_eq_true_eq]; omega
              have d6 : decide ((6 : Int) ≤ (x.size : Int)) = true := by rw [decide_eq_true_eq]; omega
              have r6 : 6 ≤ x.size := by omega
              cases hsf : ((x.extract (x.size - 6) x.size).toList == [58, 69, 114, 114, 111, 114]) with
              | true =>
                have HAW := Lib.hid (HA.out _ (HTAB.out _ HBW.out))
                clear hqe hxd
                go_wp2_with fail
                refine HAW.out.mono ?_
                rintro e w4 ⟨rfl, hb4⟩
                have HB4 := Lib.hid hb4
                clear hb4
                go_wp2_with fail
                go_ret
                exact ⟨rfl, HBW.out.trans (HB4.out.mono HBW.out.size)⟩
              | false =>
                have HLK2 := Lib.hid (HOTH.out hqe (no_suffix HXX.out.symm (.inr hsf)))
                clear hqe hxd
                go_wp2_with fail
                go_roundg (ksv.length - (k + 1))
                case rel => exact ⟨k + 1, many, el2, A2, T2, ap2, an2, ac2, kp2, kn2, kc2, rfl, rfl, rfl, by go_num, by omega, by omega, HA2.out, HT2.out, HFR.out, HKI.out, HEL2, HLK2⟩
                case measure => have := HG.out; omega
            · have d5 : decide ((5 : Int) < (x.size : Int)) = false := by rw [decide_eq_false_iff_not]; omega
              have HLK2 := Lib.hid (HOTH.out hqe (no_suffix HXX.out.symm (.inl (by omega))))
              clear hqe hxd
              go_wp2_with fail
              go_roundg (ksv.length - (k + 1))
              case rel => exact ⟨k + 1, many, el2, A2, T2, ap2, an2, ac2, kp2, kn2, kc2, rfl, rfl, rfl, by go_num, by omega, by omega, HA2.out, HT2.out, HFR.out, HKI.out, HEL2, HLK2⟩
              case measure => have := HG.out; omega
        · have hd : decide ((k : Int) < (ksv.length : Int)) = false := by rw [decide_eq_false_iff_not]; omega
          by_cases hm1 : 1 < many
          · have d2 : decide ((1 : Int) < (many : Int)) = true := by rw [decide_eq_true_eq]; omega
            have HAW := Lib.hid (HA.out _ (HTAB.out _ HBW.out))
            go_wp2_with fail
            refine HAW.out.mono ?_
            rintro e w4 ⟨rfl, hb4⟩
            have HB4 := Lib.hid hb4
            clear hb4
            go_wp2_with fail
            go_ret
            exact ⟨rfl, HBW.out.trans (HB4.out.mono HBW.out.size)⟩
          · have d2 : decide ((1 : Int) < (many : Int)) = false := by rw [decide_eq_false_iff_not]; omega
            have herr := HLK.out.last (by omega) (by omega)
            have hsm := HLK.out.1
            have k0 := HKI.out.cell 0
            have k1 := HKI.out.cell 1
            have k2 := HKI.out.cell 2
            have k3 := HKI.out.cell 3
            have c0 := HKBR.out.cell 0
            have c1 := HKBR.out.cell 1
            have c2 := HKBR.out.cell 2
            have cf := HKBR.out.frozen
            go_upto_region 21 with fail
            have hs5 : Fr (fun x => x = eb) wr ((((wr.setCell ⟨eb, 0, none⟩ (.string A2)).setCell ⟨eb, 1, none⟩ (.slice ap2 an2 ac2)).setCell ⟨eb, 2, none⟩ (.string T2)).setCell ⟨eb, 3, none⟩ (.slice kp2 kn2 kc2)) := ((((Fr.refl (fun x => x = eb) wr).setCell (p := ⟨eb, 0, none⟩) rfl _).setCell (p := ⟨eb, 1, none⟩) rfl _).setCell (p := ⟨eb, 2, none⟩) rfl _).setCell (p := ⟨eb, 3, none⟩) rfl _
            have hkb9 : Blk ((((wr.setCell ⟨eb, 0, none⟩ (.string A2)).setCell ⟨eb, 1, none⟩ (.slice ap2 an2 ac2)).setCell ⟨eb, 2, none⟩ (.string T2)).setCell ⟨eb, 3, none⟩ (.slice kp2 kn2 kc2)) eb 25 #[.string A2, .slice ap2 an2 ac2, .string T2, .slice kp2 kn2 kc2] := ((((HKBR.out.set 0 _).set 1 _).set 2 _).set 3 _).eq rfl
            have hbw9 := HBW.out.trans (hs5.toBelow (B := w.heap.size) fun x hx => by rw [hx]; exact hebw)
            have hel9 := (HEL2.out.fr HFR.out fun x hx e => by have := hx.2; omega).fr hs5 fun x hx e => absurd e (Nat.ne_of_lt hx.2)
            obtain ⟨W9, hW9⟩ : ∃ W, ((((wr.setCell ⟨eb, 0, none⟩ (.string A2)).setCell ⟨eb, 1, none⟩ (.slice ap2 an2 ac2)).setCell ⟨eb, 2, none⟩ (.string T2)).setCell ⟨eb, 3, none⟩ (.slice kp2 kn2 kc2)) = W := ⟨_, rfl⟩
            rw [hW9] at hs5 hkb9 hbw9 hel9
            rw [hW9]
            have HKB := Lib.hid hkb9
            have HEL2 := Lib.hid hel9
            have HBW := Lib.hid hbw9
            have hA2 := HA2.out
            have hT2 := HT2.out
            clear hs5 hkb9 hbw9 hel9 hW9 k0 k1 k2 k3 c0 c1 c2 cf c3
            have c0 := HKB.out.cell 0
            have c1 := HKB.out.cell 1
            have c2 := HKB.out.cell 2
            have c3 := HKB.out.cell 3
            have hfa := fault_any W9 _ _ _ el2 HEL2.out (fun y hy => Nat.lt_trans hy.2 HKB.out.lt) hsm
            rw [hA2, hT2] at hfa
            obtain ⟨x, hx⟩ : ∃ x, faultC x0C (el2).kids = x := ⟨_, rfl⟩
            rw [hx] at hfa herr
            obtain ⟨f1, f2⟩ := x
            have HFA := Lib.hid hfa
            have HERR := Lib.hid herr
            clear hfa hx herr hsm hA2 hT2
            go_wp2_with fail
            refine HFA.out.mono ?_
            rintro e w5 ⟨rfl, hb5⟩
            have hbw5 := HBW.out.trans (hb5.mono HBW.out.size)
            have hxe := xerrors_any s w5 false nm atts ks rest (by omega) (HTAB.out w5 hbw5) (by have := hbw5.size; omega) (HEO.out w5 hbw5) HDOC.out
            rw [HERR.out] at hxe
            have HXE := Lib.hid hxe
            have HB5 := Lib.hid hbw5
            have e1 : (f1.toList == f1.toList) = true := beq_self_eq_true _
            have e2 : (f2.toList == f2.toList) = true := beq_self_eq_true _
            clear hb5 hbw5 hxe c0 c1 c2 c3
            go_wp2_with fail
            refine HXE.out.mono ?_
            rintro e w6 ⟨rfl, hb6⟩
            have hbw6 := HB5.out.trans (hb6.mono HB5.out.size)
            have HAW := Lib.hid (HA.out _ (HTAB.out _ hbw6))
            have HB6 := Lib.hid hbw6
            clear hb6 hbw6
            go_wp2_with fail
            refine HAW.out.mono ?_
            rintro e w7 ⟨rfl, hb7⟩
            have HB7 := Lib.hid hb7
            clear hb7
            go_wp2_with fail
            go_ret
            exact ⟨rfl, HB6.out.trans (HB7.out.mono HB6.out.size)⟩
end Go.Proofs.YtlljphipglgjiaaGreatDoor

namespace Go.Proofs.YtlljphipglgjiaaGreatDoor
open Go.ChangeShapes Go.WideShapes Go.ChangeAt Go.RowKit
open Go.ChangeMaps (open_string shut_string)

theorem seat_own : ownKnob Tryz.prog.godebug = none := by kernel_rfl
def u8ren : Go.Shelf.Ren := ⟨fun n => n, fun | 119 => 315 | 138 => 317 | 139 => 318 | n => n, fun | 3 => 4 | 4 => 5 | n => n⟩
theorem u8types : U8Types Tryz.prog u8ren := ⟨Tryz.underlying5, Tryz.underlying315, Tryz.underlying317, Tryz.underlying318⟩
theorem u8extra : U8Extra Tryz.prog u8ren := ⟨by kernel_rfl, by kernel_rfl, by kernel_rfl, by kernel_rfl, by kernel_rfl, by kernel_rfl, by kernel_rfl⟩
theorem u8first_eq : Rows.laid_unicode_utf8_first = Lib.firstData := by kernel_rfl
theorem u8accept_eq : Rows.laid_unicode_utf8_acceptRanges = Lib.acceptData := by kernel_rfl

/-- A listed error: its variable holds an interface value. -/
theorem err_cell {w : World} {n : String} {g : Nat} {nm : String} {d : DataW Unit} (h : Lib.VarReads Tryz.prog w n (.iface nm d)) (hn : Tryz.prog.globalNamed n = some g) (ht : (Tryz.prog.globals[g]?).map (·.type) = some 69) :
    ∃ te pe, w.cell? ⟨g, 0, none⟩ = some (.iface te pe) := by
  obtain ⟨g', t, cs, fuel, p, h1, h2, h3, h4⟩ := h
  obtain rfl := Option.some.inj (hn.symm.trans h1)
  obtain rfl := Option.some.inj (ht.symm.trans h2)
  have hv := World.var?_cell hn h3 0
  cases fuel with
  | zero => simp [DataW.trod] at h4
  | succ fuel =>
    simp only [DataW.trod, Tryz.underlying69] at h4
    split at h4
    case h_12 =>
      rename_i hcs
      exact ⟨_, _, by rw [hv, ← Array.getElem?_toList, hcs]; rfl⟩
    case h_11 => simp at h4
    all_goals first
      | (simp at h4; done)
      | (exfalso; rename_i e1 e2; exact absurd (Option.some.inj e1) (by intro e; cases e))
      | (exfalso; rename_i e1; exact absurd (Option.some.inj e1) (by intro e; cases e))

theorem laid_tabs {W : World} (h : laidMetH Tryz.prog Rows.fnXErrorsRow.laid W) : Lib.Utf8Tabs 4 5 W ∧ Errs (fun x => W.heap.size ≤ x) W ∧ ∃ te pe, W.cell? ⟨1, 0, none⟩ = some (.iface te pe) := by
  rw [MakeChecks.laidMetH_plain _ _ _ (by kernel_rfl)] at h
  have h4 : Lib.VarReads Tryz.prog W "unicode/utf8.acceptRanges" Rows.laid_unicode_utf8_acceptRanges := Lib.laidMet.reads h (by unfold Rows.fnXErrorsRow; simp)
  have h5 : Lib.VarReads Tryz.prog W "strconv.ErrRange" Rows.laid_strconv_ErrRange := Lib.laidMet.reads h (by unfold Rows.fnXErrorsRow; simp)
  have h6 : Lib.VarReads Tryz.prog W "strconv.ErrSyntax" Rows.laid_strconv_ErrSyntax := Lib.laidMet.reads h (by unfold Rows.fnXErrorsRow; simp)
  have h3 : Lib.VarReads Tryz.prog W "unicode/utf8.first" Rows.laid_unicode_utf8_first := Lib.laidMet.reads h (by unfold Rows.fnXErrorsRow; simp)
  have h7 : Lib.VarReads Tryz.prog W "io.EOF" Rows.laid_io_EOF := Lib.laidMet.reads h (by unfold Rows.fnXErrorsRow; simp)
  rw [u8first_eq] at h3
  rw [u8accept_eq] at h4
  obtain ⟨t7, p7, c7⟩ := err_cell (g := 7) h6 (by kernel_rfl) (by kernel_rfl)
  obtain ⟨t8, p8, c8⟩ := err_cell (g := 8) h5 (by kernel_rfl) (by kernel_rfl)
  exact ⟨utf8Tabs_of_readsT u8types u8extra h3 h4, ⟨⟨t7, p7, c7⟩, ⟨t8, p8, c8⟩, Nat.not_le.2 (World.block_lt_of_cell? W _ c7), Nat.not_le.2 (World.block_lt_of_cell? W _ c8)⟩, err_cell (g := 1) h7 (by kernel_rfl) (by kernel_rfl)⟩

/-- The law, as the walk shows it. -/
abbrev ErrorsHold : Prop := ∀ (s : ByteArray) (bare : Bool) (w : World), Lib.Utf8Tabs 4 5 w → Errs (fun x => w.heap.size ≤ x) w → (∃ te pe, w.cell? ⟨1, 0, none⟩ = some (.iface te pe)) →
  Calls Tryz.prog 10 #[.string s, .bool bare] w fun e w' => e = .returned (.bool true) ∧ Below w.heap.size w w'

set_option maxRecDepth 100000 in
theorem fnXErrors_lifted (hfn : ErrorsHold) (os : Os) (started : os.Started) (H : Type) (enc : TypeId × Value → H) :
    ReturnsInHanded {} Tryz.checked os 10 .any (fun w args => (Rows.fnXErrorsSpec.pre enc Tryz.prog Tryz.f10 [] false w args ∧ laidMetH Tryz.prog Rows.fnXErrorsRow.laid w) ∧ sizedMet enc Tryz.prog Tryz.f10 (OpenSpec.ofChange Rows.fnXErrorsSpec) false w args)
      (Rows.fnXErrorsSpec.post enc Tryz.prog Tryz.f10 false true false false) := by
  refine returnsInHanded_of_change_and (C := Tryz.checked) (X := fun w _ => laidMetH Tryz.prog Rows.fnXErrorsRow.laid w) (fun _ _ _ hh h => h.of_heap hh) seat_own started (by kernel_rfl) Tryz.func10
    (ChangeSpec.witness_shaped (enc := enc) (C := Tryz.checked) (os := os) (X := fun w _ => laidMetH Tryz.prog Rows.fnXErrorsRow.laid w) false (World.laidAll Tryz.prog os Rows.fnXErrorsRow.laid) #[.string ⟨#[]⟩, .bool false] 8 (World.laidAll_os _ _ _)
      (World.shaped_of_ZipB (by kernel_rfl) (by kernel_rfl)) (by kernel_rfl) (by kernel_rfl) (by kernel_rfl)
      (by rw [MakeChecks.laidMetH_plain _ _ _ (by kernel_rfl)]; exact laidMet_laidAll _ (by kernel_rfl) (by kernel_rfl))) ?_
  intro W base args ds gs before hval0 hW hc _ hL _
  have hval : ∀ (j : Nat) t v, Tryz.f10.params[j]? = some t → args[j]? = some v → Value.okWide Tryz.prog W .any base t v := hval0
  have hW' := hW
  obtain ⟨p, q, hA0, hV, rfl, _, _⟩ := hW
  have hA : DataW.TrodAll enc Tryz.prog W 0 (fun _ => true) true Tryz.f10.params.toList args.toList ds p := hA0
  rw [Tryz.params10] at hA hval
  obtain ⟨v0, v1, d0, d1, p0, p1, rfl, rfl, rfl, h0, h1⟩ := trodAll_two hA
  obtain ⟨rfl, rfl⟩ := trodVars_none hV
  obtain ⟨s, rfl, rfl, rfl, ws⟩ := open_string Tryz.underlying9 (hval 0 9 v0 rfl rfl) h0
  obtain ⟨bare, rfl, rfl, rfl⟩ := open_bool Tryz.underlying4 (hval 1 4 v1 rfl rfl) h1
  obtain ⟨hT, hE, hEO⟩ := laid_tabs hL
  refine (hfn s bare W hT hE hEO).mono ?_
  rintro e W' ⟨rfl, bel⟩
  have e1 : Rows.fnXErrorsSpec.fn H ([.lit (.string s.data.toList), .lit (.bool bare)] ++ []) = { results := [.lit (.bool true)], args := [.lit (.string s.data.toList), .lit (.bool bare)] } := rfl
  refine ⟨_, rfl, _, _, _, [], [] ++ [], [], hW', ?_, ?_, ?_, bel.frame _, fun h => by cases h⟩
  · rw [e1]; exact trodAll_mk1 (shut_bool Tryz.underlying4 _)
  · rw [e1]; exact trodAll_mk2 (shut_string Tryz.underlying9 ws) (shut_bool Tryz.underlying4 _)
  · rw [e1]; rfl

end Go.Proofs.YtlljphipglgjiaaGreatDoor
