/-
  An element of a document, at any depth, has few kids of short names (plain).
  impl.XValue on documents that spec.XRead takes.
  The size guard over a list of texts: none of it is longer than looked at.
  spec.XTextOf of any element.
  FnXValues: the law's own walk, over contracts of spec.XRead and of xAwake.
  FnXValues: its row and its card, over the law's walk.
-/
import Derived.Test.YtlljphipglgjiaaGreatDoorXmLoc
import Derived.Test.YtlljphipglgjiaaGreatDoorXmNew
import Derived.Test.YtlljphipglgjiaaGreatDoorXmXdoc
import Derived.StillTailTactics
import Derived.Test.YtlljphipglgjiaaGreatDoorTie
import Derived.Test.YtlljphipglgjiaaGreatDoorCards
import Derived.ProofKit
import Derived.OpenShut
import Derived.LaidMore
import Derived.Lay
import Derived.SevenTiedAt
import Derived.Stop.Joined
import Derived.Lib.LaidU8T
import Derived.ChangeMaps5
import Derived.ShutString
import Derived.SliceStrings
import Derived.Carry
namespace Go.Proofs.YtlljphipglgjiaaGreatDoor
open Go.RowKit Go.Lib

/-- Few kids of short names and texts, at any depth. -/
inductive SmallK : List XEl → Prop
  | mk (ks : List XEl) : ks.length ≤ 2000000 → (∀ k ∈ ks, k.name.length ≤ 2000000) → (∀ k ∈ ks, k.text.length ≤ 4000000) → (∀ k ∈ ks, SmallK k.kids) → SmallK ks
theorem SmallK.nil : SmallK [] := .mk [] (by simp) (fun _ h => by cases h) (fun _ h => by cases h) (fun _ h => by cases h)
theorem SmallK.parts {ks : List XEl} (h : SmallK ks) : ks.length ≤ 2000000 ∧ (∀ k ∈ ks, k.name.length ≤ 2000000) ∧ (∀ k ∈ ks, k.text.length ≤ 4000000) ∧ ∀ k ∈ ks, SmallK k.kids := by
  cases h with
  | mk _ h1 h2 h3 h4 => exact ⟨h1, h2, h3, h4⟩
theorem cont_deep {l nm : List UInt8} {ks : List XEl} {r : List UInt8} (h : Cont l nm ks r) : l.length ≤ 1000000 → ∀ k ∈ ks, k.text.length ≤ 4000000 ∧ SmallK k.kids := by
  induction h with
  | done nm b r _ _ => exact fun _ _ h => by cases h
  | text c l nm v t ks r hc htp hg hv _ ih =>
    obtain ⟨a, ha⟩ := txp_suffix htp
    have hl := congrArg List.length ha
    rw [List.length_append] at hl
    have hv := txp_len htp
    intro hle k hk
    rcases List.mem_cons.1 hk with rfl | hk
    · exact ⟨by show v.length ≤ _; omega, .nil⟩
    · exact ih (by omega) k hk
  | com c t nm ks r hc _ ih =>
    intro hle k hk
    simp only [List.length_cons, List.length_append] at hle
    rcases List.mem_cons.1 hk with rfl | hk
    · exact ⟨by show c.length ≤ _; omega, .nil⟩
    · exact ih (by omega) k hk
  | empty n2 t nm t2 av ks r hN hA _ ih =>
    obtain ⟨a, rfl, hal⟩ := attrs_suffix hA
    intro hle k hk
    simp only [List.length_cons, List.length_append] at hle
    rcases List.mem_cons.1 hk with rfl | hk
    · exact ⟨Nat.zero_le _, .nil⟩
    · exact ih (by omega) k hk
  | elem n2 t nm t2 t3 av k2 ks r hN hA hC1 _ ih1 ih2 =>
    obtain ⟨a, rfl, hal⟩ := attrs_suffix hA
    obtain ⟨j1, j2, j3⟩ := cont_names hC1
    intro hle k hk
    simp only [List.length_cons, List.length_append] at hle
    rcases List.mem_cons.1 hk with rfl | hk
    · exact ⟨Nat.zero_le _, .mk _ (by show k2.length ≤ _; omega) (fun k hk => by have := j2 k hk; omega) (fun k hk => (ih1 (by omega) k hk).1) (fun k hk => (ih1 (by omega) k hk).2)⟩
    · exact ih2 (by omega) k hk
theorem doc_deep {s : ByteArray} {nm : List UInt8} {av : List AttrS} {ks : List XEl} {rest : List UInt8} (h : DocOk s nm av ks rest) (hs : s.size ≤ 900000) : SmallK ks := by
  obtain ⟨_, _, h2, h3⟩ := doc_small h (by omega)
  obtain ⟨t, t2, r1, em, ⟨_, hR⟩, rfl, hN, hA, hk⟩ := h
  have ht : (nm ++ t2).length ≤ 1000000 := by
    rw [List.drop_zero] at hR
    rcases hR with ⟨l2, h1, h2⟩ | h2
    · have := prol_len h2
      have h3 := congrArg List.length h1
      rw [list_size, List.length_append] at h3
      omega
    · have := prol_len h2
      rw [list_size] at this
      omega
  rw [List.length_append] at ht
  obtain ⟨a, ha, hal⟩ := attrs_suffix hA
  have hl := congrArg List.length ha
  rw [List.length_append] at hl
  rcases hk with ⟨_, rfl, _⟩ | ⟨_, hC⟩
  · exact .nil
  · exact .mk ks h3 h2 (fun k hk => (cont_deep hC (by omega) k hk).1) (fun k hk => (cont_deep hC (by omega) k hk).2)
theorem first_small {ks : List XEl} {nm : List UInt8} {e : XEl} (h : SmallK ks) (hf : firstOf ks nm = some e) : SmallK e.kids := by
  have h1 := List.mem_of_find?_eq_some hf
  unfold elemsOf at h1
  exact h.parts.2.2.2 e (List.mem_filter.1 h1).1
theorem letter_ascii {c : UInt8} {f : Bool} (h : letterB c f = true) : c.toNat < 128 := by
  unfold letterB at h
  simp only [Bool.or_eq_true, Bool.and_eq_true, decide_eq_true_eq, beq_iff_eq] at h
  omega
theorem plain_ascii {x : ByteArray} (h : plainB x.data.toList = true) : ∀ j (hj : j < x.size), x[j].toNat < 128 := by
  intro j hj
  have h2 := ((plainB_iff _).1 h).2 j (by rw [Array.length_toList]; exact hj)
  exact letter_ascii h2
end Go.Proofs.YtlljphipglgjiaaGreatDoor

namespace Go.Proofs.YtlljphipglgjiaaGreatDoor
open Go.RowKit Go.Lib

/-- The kids of the element to which names lead. -/
def walkL : List XEl → List (List UInt8) → Option (List XEl)
  | ks, [] => some ks
  | ks, n :: ns => (firstOf ks n).bind fun k => walkL k.kids ns
theorem walkL_append (ks : List XEl) (a b : List (List UInt8)) : walkL ks (a ++ b) = (walkL ks a).bind fun k => walkL k b := by
  induction a generalizing ks with
  | nil => rfl
  | cons n ns ih =>
    rw [List.cons_append, walkL, walkL, Option.bind_assoc]
    congr 1
    funext k
    exact ih _
theorem walkL_take {ks : List XEl} {ns : List (List UInt8)} {k : Nat} (h : walkL ks (ns.take k) = none) {j : Nat} (hj : k ≤ j) : walkL ks (ns.take j) = none := by
  have e : ns.take j = ns.take k ++ (ns.take j).drop k := by
    conv => lhs; rw [← List.take_append_drop k (ns.take j)]
    rw [List.take_take, Nat.min_eq_left hj]
  rw [e, walkL_append, h]
  rfl
theorem walkL_succ {ks k2 : List XEl} {ns : List (List UInt8)} {k : Nat} (hk : k < ns.length) (h : walkL ks (ns.take k) = some k2) : walkL ks (ns.take (k + 1)) = (firstOf k2 ns[k]).map XEl.kids := by
  rw [List.take_succ_eq_append_getElem hk, walkL_append, h]
  show (firstOf k2 ns[k]).bind (fun k => some k.kids) = _
  cases firstOf k2 ns[k] <;> rfl
def valueL (ks : List XEl) (ns : List (List UInt8)) : Option (List UInt8) := (walkL ks ns).bind oneText
theorem add_block (a : Addr) (k : Nat) : (a.add k).block = a.block := by unfold Addr.add; split <;> rfl
/-- A list of texts lies at p. -/
abbrev NamesAt (w : World) (p : Option Addr) (names : List ByteArray) : Prop := ∀ k (hk : k < names.length), ∃ ad, p = some ad ∧ w.cell? (ad.add k) = some (.string names[k]) ∧ ad.block < w.heap.size
def nmsL (names : List ByteArray) : List (List UInt8) := names.map fun x => x.data.toList

set_option maxRecDepth 100000 in
set_option maxHeartbeats 16000000 in
theorem xvalue_any (s : ByteArray) (w : World) (nm : List UInt8) (av : List AttrS) (ks : List XEl) (rest : List UInt8) (hs : s.size ≤ 1000000) (hT : Utf8Tabs 4 5 w) (h5 : 5 < w.heap.size) (hD : DocOk s nm av ks rest)
    (names : List ByteArray) (p : Option Addr) (cap : Nat) (hlen : names.length ≤ 2000000) (hrow : NamesAt w p names)
    (hsz : ∀ x ∈ names, x.size ≤ 2147483647) (K : Nat) (hK : K = names.length ∨ walkL ks ((nmsL names).take K) = none) (hasc : ∀ k (hk : k < names.length), k < K → ∀ j (hj : j < names[k].size), names[k][j].toNat < 128) :
    Calls Tryz.prog 20 #[.string s, .slice p names.length cap] w fun e w' => e = .returned (.tuple #[.string (bst ((valueL ks (nmsL names)).getD [])), .bool (valueL ks (nmsL names)).isSome]) ∧ Below w.heap.size w w' := by
  obtain ⟨R, hR⟩ : ∃ R, valueL ks (nmsL names) = R := ⟨_, rfl⟩
  rw [hR]
  have hr := rootOf_any s w nm av ks rest hs hT h5 hD
  have hnl : (nmsL names).length = names.length := List.length_map _
  obtain ⟨lo, hlo⟩ : ∃ X, bst (halvesL nm).2 = X := ⟨_, rfl⟩
  obtain ⟨X, hX⟩ : ∃ X, xlate (nsAll nF av) true (bst (halvesL nm).1) (bst (halvesL nm).2) = X := ⟨_, rfl⟩
  rw [hX, hlo] at hr
  have HRR := Lib.hid hR
  have HR := Lib.hid hr
  have HX := Lib.hid hX
  have HLO := Lib.hid hlo
  have HROW := Lib.hid hrow
  have HSZ := Lib.hid hsz
  have HK := Lib.hid hK
  have HASC := Lib.hid hasc
  clear hr hX hlo hD hT hrow hsz hK hasc hR
  go_enter Tryz.func20, Tryz.ntmps20
  go_wp2_with fail
  refine HR.out.mono ?_
  rintro e w1 ⟨P, m, M, a, n, c, rfl, ⟨j0, owe0, hI0, hD0⟩, hE0, hMw, hmw, hb⟩
  have hk := Blk.new w1 62 #[.string X, .string lo, .slice a n c]
  have k0 := hk.cell 0
  have k1 := hk.cell 1
  have k2 := hk.cell 2
  have HWR := Lib.hid (wrap_any (w1.alloc (.cells #[.string X, .string lo, .slice a n c] 62)) P X lo a n c)
  have HI0 := Lib.hid hI0
  have HD0 := Lib.hid hD0
  have HE0 := Lib.hid hE0
  have HMW := Lib.hid hMw
  have HB := Lib.hid hb
  clear hk hI0 hD0 hE0 hMw hb
  go_wp2_with fail
  refine HWR.out.mono ?_
  rintro e w2 ⟨rfl, hb2⟩
  have hb12 : Below w1.heap.size w1 w2 := ((Below.refl w1.heap.size w1).alloc (Nat.le_refl _) _).trans (hb2.mono (by simp))
  have hst0 := (((⟨HD0.out, HE0.out, fun x hx => by simp at hx, Fr.refl _ _⟩ : GSt M w1 w1 P m s j0 owe0 [frOf nm nF] (nsAll nF av) []).wid hb12).push 66 #[.pointer (some ⟨P, 0, none⟩), .string X, .string lo, .slice a n c] (by decide))
  have hnM : M w2.heap.size := DecW.new HD0.out _ hb12.size
  obtain ⟨nb, hnb⟩ : ∃ nb, w2.heap.size = nb := ⟨_, rfl⟩
  obtain ⟨W, hW⟩ : ∃ W, w2.alloc (.cells #[.pointer (some ⟨P, 0, none⟩), .string X, .string lo, .slice a n c] 66) = W := ⟨_, rfl⟩
  rw [hnb, hW] at hst0
  rw [hnb] at hnM
  have hold : ∀ wr, Fr (fun y => M y ∨ y = m) w1 wr → Below w.heap.size w wr := fun wr hf => HB.out.trans (hf.toBelow fun x hx => by
    rcases hx with hx | hx
    · exact HMW.out x hx
    · omega)
  have HOLD := Lib.hid hold
  have HST0 := Lib.hid hst0
  have HW := Lib.hid hW
  clear hst0 hb12 hb2 hW HWR HD0 HE0 k0 k1 k2 hold
  go_wp2_with fail
  rw [HW.out]
  try rw [hnb]
  go_loopg [4, 5, 29] names.length (fun g r4 r5 kv wr => ∃ (k i : Nat) (owe : Option (ByteArray × ByteArray)) (n2 : List UInt8) (kk : List XEl) (rest2 : List UInt8) (frs : List Fram) (F F0 : NsF) (X2 lo2 : ByteArray) (a2 : Option Addr) (m2 c2 : Nat), g = names.length - k ∧ r4 = .string ⟨#[]⟩ ∧ r5 = .bool false ∧ kv = .int .i64 k ∧ k ≤ names.length ∧
    Inside s i owe n2 kk rest2 ∧ X2 = xlate F true (bst (halvesL n2).1) (bst (halvesL n2).2) ∧ lo2 = bst (halvesL n2).2 ∧ Hid (walkL ks ((nmsL names).take k) = some kk) ∧
    GSt M w1 wr P m s i owe (frOf n2 F0 :: frs) F [(nb, 66, #[.pointer (some ⟨P, 0, none⟩), .string X2, .string lo2, .slice a2 m2 c2])])
  case atStart => exact ⟨0, j0, owe0, nm, ks, rest, [], nsAll nF av, nF, X, lo, a, n, c, rfl, rfl, rfl, rfl, Nat.zero_le _, HI0.out, HX.out.symm, HLO.out.symm, Lib.hid rfl, HST0.out⟩
  case round =>
    obtain ⟨k, i, owe, n2, kk, rest2, frs, F, F0, X2, lo2, a2, m2, c2, hg, rfl, rfl, rfl, hk, hin, hX2, hlo2, HWK, hst⟩ := hrel
    have HG := Lib.hid hg
    have HS := Lib.hid hst
    have hnk := (hst.ok (nb, 66, #[.pointer (some ⟨P, 0, none⟩), .string X2, .string lo2, .slice a2 m2 c2]) (by simp)).1
    have nc0 := hnk.cell 0
    have nc1 := hnk.cell 1
    have nc2 := hnk.cell 2
    have nc3 := hnk.cell 3
    have hbw := HOLD.out wr hst.fr
    by_cases hkl : k < names.length
    · have hd : decide ((k : Int) < (names.length : Int)) = true := by rw [decide_eq_true_eq]; omega
      have nn : (0 : Int) ≤ (k : Int) := Int.natCast_nonneg _
      obtain ⟨ad, rfl, hc, hbl⟩ := HROW.out k hkl
      have g0 : wr.cell? (ad.add k) = some (.string names[k]) := (hbw.cell (by rw [add_block]; exact hbl)).trans hc
      have hkK : k < K := by
        rcases Nat.lt_or_ge k K with h1 | h1
        · exact h1
        · rcases HK.out with h2 | h2
          · omega
          · have := walkL_take h2 h1
            rw [HWK.out] at this
            cases this
      have hge := get_any wr X2 lo2 names[k] a2 m2 c2 (text_all s) hst.decS hin hst.envS hX2 hlo2 (HSZ.out _ (List.getElem_mem hkl)) (HASC.out k hkl hkK)
      have hsucc := walkL_succ (by rw [hnl]; exact hkl) HWK.out
      rw [show (nmsL names)[k]'(by rw [hnl]; exact hkl) = names[k].data.toList by unfold nmsL; rw [List.getElem_map]] at hsucc
      unfold firstOf at hsucc
      obtain ⟨E, hE⟩ : ∃ E, (elemsOf kk).find? (isNamed names[k].data.toList) = E := ⟨_, rfl⟩
      rw [hE] at hge hsucc
      obtain ⟨x, hx⟩ : ∃ x, names[k] = x := ⟨_, rfl⟩
      rw [hx] at hge g0
      have HGE := Lib.hid hge
      have HSUCC := Lib.hid hsucc
      clear hg hst hin hnk HST0 hge hsucc hbw hE hx hc hX2 hlo2
      go_wp2_with fail
      refine HGE.out.mono ?_
      intro e w3 hk3
      cases hk3 with
      | found _ j n3 av3 k3 rest3 owe3 frs3 F3 F03 a3 m3 c3 h1 h2 h3 h4 =>
        have hst3 := HS.out.after h3 h4
        obtain ⟨X3, hX3⟩ : ∃ X3, xlate F3 true (bst (halvesL n3).1) (bst (halvesL n3).2) = X3 := ⟨_, rfl⟩
        obtain ⟨lo3, hlo3⟩ : ∃ lo3, bst (halvesL n3).2 = lo3 := ⟨_, rfl⟩
        rw [hX3, hlo3]
        have hst4 := hst3.wid ((Below.refl w3.heap.size w3).alloc (Nat.le_refl _) (.cells #[.string X3, .string lo3, .slice a3 m3 c3] 62))
        have htb := Blk.new w3 62 #[.string X3, .string lo3, .slice a3 m3 c3]
        obtain ⟨tb, htb2⟩ : ∃ tb, w3.heap.size = tb := ⟨_, rfl⟩
        obtain ⟨V, hV⟩ : ∃ V, w3.alloc (.cells #[.string X3, .string lo3, .slice a3 m3 c3] 62) = V := ⟨_, rfl⟩
        rw [hV] at hst4 htb
        rw [htb2] at htb
        have t0 := htb.cell 0
        have t1 := htb.cell 1
        have t2 := htb.cell 2
        have HV := Lib.hid hV
        have HST4 := Lib.hid hst4
        have H2 := Lib.hid h2
        have HX3 := Lib.hid hX3
        have HLO3 := Lib.hid hlo3
        have HWR := Lib.hid (wrap_any V P X3 lo3 a3 m3 c3)
        clear h1 h2 h3 h4 hst3 hst4 htb hV hX3 hlo3 nc0 nc1 nc2 nc3
        go_wp2_with fail
        rw [HV.out]
        try rw [htb2]
        go_wp2_with fail
        refine HWR.out.mono ?_
        rintro e w5 ⟨rfl, hb5⟩
        have hst5 := HST4.out.wid hb5
        have hnk := (hst5.ok (nb, 66, #[.pointer (some ⟨P, 0, none⟩), .string X2, .string lo2, .slice a2 m2 c2]) (by simp)).1
        have nc0 := hnk.cell 0
        have nc1 := hnk.cell 1
        have nc2 := hnk.cell 2
        have nc3 := hnk.cell 3
        have nf := hnk.frozen
        have HST6 : Hid (GSt M w1 ((((w5.setCell ⟨nb, 0, none⟩ (.pointer (some ⟨P, 0, none⟩))).setCell ⟨nb, 1, none⟩ (.string X3)).setCell ⟨nb, 2, none⟩ (.string lo3)).setCell ⟨nb, 3, none⟩ (.slice a3 m3 c3)) P m s j owe3 (frOf n3 F03 :: frs3) F3 [(nb, 66, #[.pointer (some ⟨P, 0, none⟩), .string X3, .string lo3, .slice a3 m3 c3])]) :=
          Lib.hid ((((hst5.set (by simp) hnM 0 _).set (by simp) hnM 1 _).set (by simp) hnM 2 _).set (by simp) hnM 3 _)
        clear hst5 hnk hb5 t0 t1 t2
        go_wp2_with fail
        go_roundg (names.length - (k + 1))
        case rel => exact ⟨k + 1, j, owe3, n3, k3, rest3, frs3, F3, F03, X3, lo3, a3, m3, c3, rfl, rfl, rfl, rfl, by omega, H2.out, HX3.out.symm, HLO3.out.symm, Lib.hid HSUCC.out, HST6.out⟩
        case measure => have := HG.out; omega
      | no _ pe h1 =>
        have hRn : R = none := by
          have h2 := walkL_take (j := names.length) HSUCC.out (by omega)
          rw [← HRR.out]
          unfold valueL
          rw [← hnl, List.take_length] at h2
          rw [h2]
          rfl
        have HP := Lib.hid ((HOLD.out w3 (HS.out.fr.trans (h1.mono fun y hy => by rcases hy with hy | hy; exact .inl hy.1; exact .inr hy))))
        clear h1 nc0 nc1 nc2 nc3
        go_wp2_with fail
        go_ret2
        exact ⟨by rw [hRn]; rfl, HP.out.alloc HP.out.size _⟩
    · have hd : decide ((k : Int) < (names.length : Int)) = false := by rw [decide_eq_false_iff_not]; omega
      have hRv : oneText kk = R := by
        have h2 := HWK.out
        rw [show k = (nmsL names).length by omega, List.take_length] at h2
        rw [← HRR.out]
        unfold valueL
        rw [h2]
        rfl
      have hv := value_any wr X2 lo2 a2 m2 c2 (text_all s) hst.decS hin hst.envS hX2 hlo2
      rw [hRv] at hv
      have HVA := Lib.hid hv
      clear hg hst hin hnk HST0 hv hbw hRv hX2 hlo2
      go_wp2_with fail
      refine HVA.out.mono ?_
      intro e w3 hk3
      cases hk3 with
      | some _ v t h1 h2 =>
        have hcv := run_bytes_string h1
        have HP := Lib.hid ((HOLD.out w3 (HS.out.fr.trans (h2.mono fun y hy => by rcases hy with hy | hy; exact .inl hy.1; exact .inr hy))))
        clear h1 h2 nc0 nc1 nc2 nc3
        go_wp2_with fail
        go_ret2
        exact ⟨rfl, HP.out⟩
      | none _ v pe h1 =>
        have HP := Lib.hid ((HOLD.out w3 (HS.out.fr.trans (h1.mono fun y hy => by rcases hy with hy | hy; exact .inl hy.1; exact .inr hy))))
        clear h1 nc0 nc1 nc2 nc3
        go_wp2_with fail
        go_ret2
        exact ⟨rfl, HP.out⟩
end Go.Proofs.YtlljphipglgjiaaGreatDoor

namespace Go.Proofs.YtlljphipglgjiaaGreatDoor
open Go.RowKit Go.Lib

def fitsL (names : List ByteArray) : Bool := decide (names.length ≤ 2147483647) && names.all fun x => decide (x.size ≤ 2147483647)
theorem fitsL_iff {names : List ByteArray} (h : fitsL names = true) : names.length ≤ 2147483647 ∧ ∀ x ∈ names, x.size ≤ 2147483647 := by
  unfold fitsL at h
  rw [Bool.and_eq_true, decide_eq_true_eq, List.all_eq_true] at h
  exact ⟨h.1, fun x hx => of_decide_eq_true (h.2 x hx)⟩

set_option maxRecDepth 100000 in
theorem fits2_any (names : List ByteArray) (p : Option Addr) (cap : Nat) (w : World) (hnm : NamesAt w p names) :
    Calls Tryz.prog 16 #[.slice p names.length cap] w fun e w' => e = .returned (.bool (fitsL names)) ∧ Below w.heap.size w w' := by
  obtain ⟨r, hr⟩ : ∃ r, fitsL names = r := ⟨_, rfl⟩
  rw [hr]
  by_cases h1 : 2147483647 < names.length
  · have d1 : decide ((2147483647 : Int) < (names.length : Int)) = true := by rw [decide_eq_true_eq]; omega
    have hr2 : r = false := by
      rw [← hr, ← Bool.not_eq_true]
      intro h
      have := (fitsL_iff h).1
      omega
    subst hr2
    clear hr hnm h1
    go_enter Tryz.func16, Tryz.ntmps16
    go_wp2_with fail
    go_ret
    exact ⟨rfl, Below.refl _ _⟩
  have d1 : decide ((2147483647 : Int) < (names.length : Int)) = false := by rw [decide_eq_false_iff_not]; omega
  have HR := Lib.hid hr
  have HNM := Lib.hid hnm
  clear hr hnm
  go_enter Tryz.func16, Tryz.ntmps16
  go_wp2_with fail
  go_loopg [2, 10] names.length (fun g rv kv wr => ∃ k n : Nat, g = names.length - k ∧ k ≤ names.length ∧ rv = .bool false ∧ kv = .int .i64 k ∧ wr = w.drewN n ∧ Hid (∀ j (hj : j < names.length), j < k → names[j].size ≤ 2147483647))
  case atStart => exact ⟨0, 0, rfl, Nat.zero_le _, rfl, rfl, rfl, Lib.hid fun j _ h => by omega⟩
  case round =>
    obtain ⟨k, n, hg, hk, rfl, rfl, rfl, HA⟩ := hrel
    have HG := Lib.hid hg
    clear hg
    by_cases hkl : k < names.length
    · have hd : decide ((k : Int) < (names.length : Int)) = true := by rw [decide_eq_true_eq]; omega
      have nn : (0 : Int) ≤ (k : Int) := Int.natCast_nonneg _
      obtain ⟨ad, rfl, hc, _⟩ := HNM.out k hkl
      have g0 : ∀ n, (w.drewN n).cell? (ad.add k) = some (.string names[k]) := fun _ => hc
      have g1 := g0 n
      obtain ⟨x, hx⟩ : ∃ x, names[k] = x := ⟨_, rfl⟩
      have HX := Lib.hid hx
      rw [hx] at g0 g1
      clear hc hx
      by_cases h2 : 2147483647 < x.size
      · have d2 : decide ((2147483647 : Int) < (x.size : Int)) = true := by rw [decide_eq_true_eq]; omega
        have hr2 : r = false := by
          rw [← HR.out, ← Bool.not_eq_true]
          intro h
          have := (fitsL_iff h).2 _ (List.getElem_mem hkl)
          rw [HX.out] at this
          omega
        subst hr2
        go_wp2_with fail
        go_ret
        exact ⟨rfl, ⟨rfl, rfl, rfl, Nat.le_refl _, fun _ _ => rfl⟩⟩
      · have d2 : decide ((2147483647 : Int) < (x.size : Int)) = false := by rw [decide_eq_false_iff_not]; omega
        go_wp2_with fail
        go_roundg (names.length - (k + 1))
        case rel =>
          refine ⟨k + 1, _, rfl, by omega, rfl, rfl, rfl, Lib.hid fun j hj hjk => ?_⟩
          by_cases e : j = k
          · subst e
            rw [HX.out]
            omega
          · exact HA.out j hj (by omega)
        case measure => have := HG.out; omega
    · have hd : decide ((k : Int) < (names.length : Int)) = false := by rw [decide_eq_false_iff_not]; omega
      have hr2 : r = true := by
        rw [← HR.out]
        unfold fitsL
        rw [Bool.and_eq_true, decide_eq_true_eq, List.all_eq_true]
        refine ⟨by omega, fun y hy => ?_⟩
        obtain ⟨j, hj, rfl⟩ := List.mem_iff_getElem.1 hy
        exact decide_eq_true (HA.out j hj (by omega))
      subst hr2
      go_wp2_with fail
      go_ret
      exact ⟨rfl, ⟨rfl, rfl, rfl, Nat.le_refl _, fun _ _ => rfl⟩⟩
end Go.Proofs.YtlljphipglgjiaaGreatDoor

namespace Go.Proofs.YtlljphipglgjiaaGreatDoor
open Go.RowKit Go.Lib

/-- An element's text; is it all there is? -/
def textOfL : List XEl → List UInt8 × Bool
  | [] => ([], true)
  | k :: t => (k.text, t.isEmpty && k.name.isEmpty)

theorem textOf_onex (nm tx t x : ByteArray) (ap : Option Addr) (an ac g kc : Nat) (w : World) (h0 : w.cell? ⟨g, 0, none⟩ = some (.string x)) (h2 : w.cell? ⟨g, 2, none⟩ = some (.string t)) (hg : g < w.heap.size) (hx : x.toList ≠ []) :
    Calls Tryz.prog 19 #[.agg #[.string nm, .slice ap an ac, .string tx, .slice (some ⟨g, 0, none⟩) 1 kc]] w fun e w' => e = .returned (.tuple #[.string t, .bool false]) ∧ Below w.heap.size w w' := by
  obtain ⟨W, hW⟩ : ∃ W, w.alloc (.cells #[.string nm, .slice ap an ac, .string tx, .slice (some ⟨g, 0, none⟩) 1 kc] 25) = W := ⟨_, rfl⟩
  have hb : Below w.heap.size w W := by rw [← hW]; exact (Below.refl _ _).alloc (Nat.le_refl _) _
  have k := Blk.new w 25 #[.string nm, .slice ap an ac, .string tx, .slice (some ⟨g, 0, none⟩) 1 kc]
  rw [hW] at k
  have k3 := k.cell 3
  have g0 : W.cell? ⟨g, 0, none⟩ = some (.string x) := by rw [World.cell?, hb.block _ hg]; exact h0
  have g2 : W.cell? ⟨g, 2, none⟩ = some (.string t) := by rw [World.cell?, hb.block _ hg]; exact h2
  have e1 : (x.toList == []) = false := beq_eq_false_iff_ne.2 hx
  have e2 : x.toList.isEmpty = false := List.isEmpty_eq_false_iff.2 hx
  have HB := Lib.hid hb
  clear hb h0 h2 k hx
  go_enter Tryz.func19, Tryz.ntmps19
  go_wp2_with fail
  go_quiet (fail)
  go_wp2_with fail
  exact bodyPost_ret (v := .tuple #[.string t, .bool false]) (by simp [results, Tryz.results19, go_sem]) rfl ⟨rfl, ((Fr.below (M := fun x => w.heap.size ≤ x) HB.out (Nat.le_refl _) (fun _ h => h)).drewN _).toBelow (fun _ h => h)⟩

theorem textOf_more (nm tx t : ByteArray) (ap : Option Addr) (an ac g kc n : Nat) (w : World) (h2 : w.cell? ⟨g, 2, none⟩ = some (.string t)) (hg : g < w.heap.size) :
    Calls Tryz.prog 19 #[.agg #[.string nm, .slice ap an ac, .string tx, .slice (some ⟨g, 0, none⟩) (n + 2) kc]] w fun e w' => e = .returned (.tuple #[.string t, .bool false]) ∧ Below w.heap.size w w' := by
  obtain ⟨W, hW⟩ : ∃ W, w.alloc (.cells #[.string nm, .slice ap an ac, .string tx, .slice (some ⟨g, 0, none⟩) (n + 2) kc] 25) = W := ⟨_, rfl⟩
  have hb : Below w.heap.size w W := by rw [← hW]; exact (Below.refl _ _).alloc (Nat.le_refl _) _
  have k := Blk.new w 25 #[.string nm, .slice ap an ac, .string tx, .slice (some ⟨g, 0, none⟩) (n + 2) kc]
  rw [hW] at k
  have k3 := k.cell 3
  have g2 : W.cell? ⟨g, 2, none⟩ = some (.string t) := by rw [World.cell?, hb.block _ hg]; exact h2
  obtain ⟨m, hm⟩ : ∃ m, n + 2 = m := ⟨_, rfl⟩
  rw [hm] at k3 hW ⊢
  have e1 : ((m : Int) == 0) = false := by rw [beq_eq_false_iff_ne]; omega
  have e2 : ((m : Int) == 1) = false := by rw [beq_eq_false_iff_ne]; omega
  have e3 : decide ((0 : Int) < (m : Int)) = true := by rw [decide_eq_true_eq]; omega
  have e4 : (0 : Int) < (m : Int) := by omega
  have HB := Lib.hid hb
  clear hb h2 k hm
  go_enter Tryz.func19, Tryz.ntmps19
  go_wp2_with fail
  go_quiet (fail)
  go_wp2_with fail
  exact bodyPost_ret (v := .tuple #[.string t, .bool false]) (by simp [results, Tryz.results19, go_sem]) rfl ⟨rfl, ((Fr.below (M := fun x => w.heap.size ≤ x) HB.out (Nat.le_refl _) (fun _ h => h)).drewN _).toBelow (fun _ h => h)⟩

theorem textOf_any (w : World) (D : Nat → Prop) (av kv : Value) (e : XEl) (hel : ElM 49 25 w D av kv e) :
    Calls Tryz.prog 19 #[.agg #[.string (bst e.name), av, .string (bst e.text), kv]] w fun e' w' => e' = .returned (.tuple #[.string (bst (textOfL e.kids).1), .bool (textOfL e.kids).2]) ∧ Below w.heap.size w w' := by
  obtain ⟨⟨ap, an, ac, rfl⟩, ⟨kp, kn, kc, rfl⟩⟩ := hel.slices
  obtain ⟨ks, hks, hkm⟩ := hel.inv2
  have hkn : kn = ks.length := by
    obtain ⟨⟨h1, ⟨h2, h3⟩ | ⟨g, cap, cur, h2, _⟩⟩, _, _⟩ := hkm
    · injection h2 with _ h4 _
      rw [h4, h3]
    · injection h2
  subst hkn
  rw [hks]
  match ks, hkm with
  | [], _ => exact textOf_none _ _ _ _ _ _ _ _
  | [k], hkm =>
    obtain ⟨g, c, hgv, hgl, _, h0, _, h2, _⟩ := kid_cells hkm 0 (by simp)
    injection hgv with hgv1 hgv2 hgv3
    subst hgv1
    obtain ⟨n, nn⟩ : ∃ n, k.1.name = n := ⟨_, rfl⟩
    have hkn : (k.1.name).isEmpty = n.isEmpty := by rw [nn]
    rw [show ([k][0]) = k from rfl, nn] at h0
    simp only [Nat.zero_mul, Nat.zero_add] at h0 h2
    cases n with
    | nil =>
      have := textOf_one (bst e.name) (bst e.text) _ ap an ac g kc w h0 h2 hgl
      simpa [textOfL, hkn] using this
    | cons b l =>
      have := textOf_onex (bst e.name) (bst e.text) _ _ ap an ac g kc w h0 h2 hgl (by rw [Lib.toList_data, bst_toList]; exact List.cons_ne_nil _ _)
      simpa [textOfL, hkn] using this
  | k :: k2 :: t, hkm =>
    obtain ⟨g, c, hgv, hgl, _, _, _, h2, _⟩ := kid_cells hkm 0 (by simp)
    injection hgv with hgv1 hgv2 hgv3
    subst hgv1
    simp only [Nat.zero_mul, Nat.zero_add] at h2
    have := textOf_more (bst e.name) (bst e.text) _ ap an ac g kc t.length w h2 hgl
    simpa [textOfL] using this
theorem textOf_value (ks : List XEl) : oneText ks = if (textOfL ks).2 then some (textOfL ks).1 else none := by
  match ks with
  | [] => rfl
  | [k] =>
    unfold oneText textOfL
    cases h : k.name <;> simp
  | k :: k2 :: t => rfl
end Go.Proofs.YtlljphipglgjiaaGreatDoor

namespace Go.Proofs.YtlljphipglgjiaaGreatDoor
open Go.RowKit Go.Lib

/-- How far names have led: there, in this element, or nowhere. -/
def Led (ks : List XEl) (names : List ByteArray) (k : Nat) (there : Bool) (el : XEl) : Prop :=
  (∀ j (hj : j < names.length), j < k → plainB names[j].data.toList = true) ∧ SmallK el.kids ∧
  ((there = true ∧ walkL ks ((nmsL names).take k) = some el.kids) ∨ (there = false ∧ el = .mk [] [] [] [] ∧ walkL ks ((nmsL names).take k) = none))
theorem Led.next {ks : List XEl} {names : List ByteArray} {k : Nat} {el el2 : XEl} {ok : Bool} (h : Led ks names k true el) (hk : k < names.length) (hp : plainB names[k].data.toList = true) (hf : firstVal (firstOf el.kids names[k].data.toList) = (el2, ok)) : Led ks names (k + 1) ok el2 := by
  obtain ⟨h1, h2, ⟨_, h3⟩ | ⟨h, _⟩⟩ := h
  · have hs := walkL_succ (ns := nmsL names) (by unfold nmsL; rw [List.length_map]; exact hk) h3
    rw [show (nmsL names)[k]'(by unfold nmsL; rw [List.length_map]; exact hk) = names[k].data.toList by unfold nmsL; rw [List.getElem_map]] at hs
    have hall : ∀ j (hj : j < names.length), j < k + 1 → plainB names[j].data.toList = true := by
      intro j hj hjk
      by_cases e : j = k
      · subst e; exact hp
      · exact h1 j hj (by omega)
    cases hx : firstOf el.kids names[k].data.toList with
    | none =>
      rw [hx] at hf hs
      cases hf
      exact ⟨hall, .nil, .inr ⟨rfl, rfl, hs⟩⟩
    | some x =>
      rw [hx] at hf hs
      cases hf
      exact ⟨hall, first_small h2 hx, .inl ⟨rfl, hs⟩⟩
  · cases h
/-- What both sides say at the end. -/
theorem Led.last {ks : List XEl} {names : List ByteArray} {k : Nat} {el : XEl} {there : Bool} (h : Led ks names k there el) (hk : k ≤ names.length) (he : there = true → k = names.length) :
    (there = true ∧ (textOfL el.kids).2 = true ∧ valueL ks (nmsL names) = some (textOfL el.kids).1) ∨ (there = true ∧ (textOfL el.kids).2 = false ∧ valueL ks (nmsL names) = none) ∨ (there = false ∧ (textOfL el.kids).2 = true ∧ valueL ks (nmsL names) = none) := by
  obtain ⟨_, _, ⟨h1, h2⟩ | ⟨h1, rfl, h2⟩⟩ := h
  · have hkl : k = (nmsL names).length := by unfold nmsL; rw [List.length_map]; exact he h1
    rw [hkl, List.take_length] at h2
    have hv : valueL ks (nmsL names) = oneText el.kids := by unfold valueL; rw [h2]; rfl
    rw [hv, textOf_value]
    cases hb : (textOfL el.kids).2 with
    | true => exact .inl ⟨h1, rfl, rfl⟩
    | false => exact .inr (.inl ⟨h1, rfl, rfl⟩)
  · refine .inr (.inr ⟨h1, rfl, ?_⟩)
    have h3 := walkL_take (j := (nmsL names).length) h2 (by unfold nmsL; rw [List.length_map]; exact hk)
    rw [List.take_length] at h3
    unfold valueL
    rw [h3]
    rfl
theorem Led.asc {ks : List XEl} {names : List ByteArray} {k : Nat} {el : XEl} {there : Bool} (h : Led ks names k there el) (he : there = true → k = names.length) :
    (k = names.length ∨ walkL ks ((nmsL names).take k) = none) ∧ ∀ i (hi : i < names.length), i < k → ∀ j (hj : j < names[i].size), names[i][j].toNat < 128 := by
  obtain ⟨h1, _, h2⟩ := h
  refine ⟨?_, fun i hi hik j hj => plain_ascii (h1 i hi hik) j hj⟩
  rcases h2 with ⟨h2, _⟩ | ⟨_, _, h2⟩
  · exact .inl (he h2)
  · exact .inr h2

set_option maxRecDepth 100000 in
set_option maxHeartbeats 16000000 in
theorem fnXValues_any (hx : ∀ s : ByteArray, s.size ≤ 1000000 → ∀ w : World, Errs (fun x => w.heap.size ≤ x) w → Calls Tryz.prog 25 #[.string s] w (XPost w (xreadL s.data.toList)))
    (ha : ∀ w : World, Utf8Tabs 4 5 w → Calls Tryz.prog 12 #[] w fun e w' => e = .returned (.bool true) ∧ Below w.heap.size w w')
    (s : ByteArray) (p : Option Addr) (names : List ByteArray) (cap : Nat) (w : World) (hnm : NamesAt w p names) (hT : Utf8Tabs 4 5 w) (hE : Errs (fun x => w.heap.size ≤ x) w) :
    Calls Tryz.prog 4 #[.string s, .slice p names.length cap] w fun e w' => e = .returned (.bool true) ∧ Below w.heap.size w w' := by
  have h5 : 5 < w.heap.size := World.block_lt_of_cell? w _ (hT.2 0 (by omega)).1
  by_cases h1 : 2147483647 < s.size
  · have d1 : decide ((2147483647 : Int) < (s.size : Int)) = true := by rw [decide_eq_true_eq]; omega
    clear hx ha hnm hT hE
    go_enter Tryz.func4, Tryz.ntmps4
    go_wp2_with fail
    go_ret
    exact ⟨rfl, Below.refl _ _⟩
  have d1 : decide ((2147483647 : Int) < (s.size : Int)) = false := by rw [decide_eq_false_iff_not]; omega
  have hf := fits2_any names p cap w hnm
  cases hfit : fitsL names with
  | false =>
    rw [hfit] at hf
    have HF := Lib.hid hf
    clear hx ha hnm hT hE hf
    go_enter Tryz.func4, Tryz.ntmps4
    go_wp2_with fail
    refine HF.out.mono ?_
    rintro e w2 ⟨rfl, hb2⟩
    have HB2 := Lib.hid hb2
    clear hb2
    go_wp2_with fail
    go_ret
    exact ⟨rfl, HB2.out⟩
  | true =>
    rw [hfit] at hf
    obtain ⟨hnl, hns⟩ := fitsL_iff hfit
    have HF := Lib.hid hf
    have HX := Lib.hid hx
    have HA := Lib.hid ha
    have HT := Lib.hid hT
    have HE := Lib.hid hE
    have HNM := Lib.hid hnm
    have HNS := Lib.hid hns
    clear hx ha hnm hT hE hf hns hfit
    go_enter Tryz.func4, Tryz.ntmps4
    go_wp2_with fail
    refine HF.out.mono ?_
    rintro e w1 ⟨rfl, hb1⟩
    have hE1 : Errs (fun x => w1.heap.size ≤ x) w1 := by
      have := HE.out.fr (Fr.below hb1 (Nat.le_refl _) (fun _ h => h) : Fr (fun x => w.heap.size ≤ x) w _)
      exact ⟨this.1, this.2.1, fun h => this.2.2.1 (Nat.le_trans hb1.size h), fun h => this.2.2.2 (Nat.le_trans hb1.size h)⟩
    have HD := Lib.hid (xdoc2_any HX.out s w1 hE1)
    have HB1 := Lib.hid hb1
    clear hb1 hE1 HX HE HF
    go_wp2_with fail
    refine HD.out.mono ?_
    rintro e w2 ⟨el, av, kv, ok, rfl, hel, hf2, hsays⟩
    obtain ⟨⟨ap, an, ac, rfl⟩, ⟨kp, kn, kc, rfl⟩⟩ := hel.slices
    have hb2 : Below w.heap.size w w2 := HB1.out.trans (hf2.toBelow fun _ h => Nat.le_trans HB1.out.size h)
    have htab : ∀ W, Below w.heap.size w W → Utf8Tabs 4 5 W := fun W hb => utf8_fr (M := fun x => w.heap.size ≤ x) HT.out (Fr.below hb (Nat.le_refl _) (fun _ h => h)) ⟨by omega, by omega⟩
    have hbV : Below w2.heap.size w2 (w2.alloc (.cells #[.string (bst el.name), .slice ap an ac, .string (bst el.text), .slice kp kn kc] 25)) := (Below.refl _ _).alloc (Nat.le_refl _) _
    have hk0 := Blk.new w2 25 #[.string (bst el.name), .slice ap an ac, .string (bst el.text), .slice kp kn kc]
    have hel2 := hel.mono (D' := fun g => w.heap.size ≤ g ∧ g < w2.heap.size) fun x hx => ⟨Nat.le_trans HB1.out.size hx.1, hx.2⟩
    have hstE := hel2.fr (Fr.below hbV (Nat.le_refl _) (fun _ h => h) : Fr (fun x => w2.heap.size ≤ x) w2 _) (fun x hx => Nat.not_le.2 hx.2)
    have HTAB := Lib.hid htab
    obtain ⟨eb, heb⟩ : ∃ eb, w2.heap.size = eb := ⟨_, rfl⟩
    obtain ⟨A, hA⟩ : ∃ A, bst el.name = A := ⟨_, rfl⟩
    obtain ⟨T, hTx⟩ : ∃ T, bst el.text = T := ⟨_, rfl⟩
    rw [hA, hTx] at hbV hk0 hstE ⊢
    obtain ⟨V, hV⟩ : ∃ V, w2.alloc (.cells #[.string A, .slice ap an ac, .string T, .slice kp kn kc] 25) = V := ⟨_, rfl⟩
    rw [hV] at hbV hk0 hstE
    have hbwV : Below w.heap.size w V := hb2.trans (hbV.mono hb2.size)
    have hebw : w.heap.size ≤ eb := by rw [← heb]; exact hb2.size
    have hebV : eb < V.heap.size := by rw [← heb, ← hV]; simp
    rw [heb] at hk0 hstE
    have HV := Lib.hid hV
    have HBWV := Lib.hid hbwV
    have HAW := Lib.hid (HA.out V (HTAB.out V hbwV))
    by_cases hbad : ok = false ∨ 10 < names.length
    · have hd : ok = false ∨ (ok = true ∧ decide ((10 : Int) < (names.length : Int)) = true) := by
        rcases hbad with h | h
        · exact .inl h
        · cases ok with
          | false => exact .inl rfl
          | true => exact .inr ⟨rfl, by rw [decide_eq_true_eq]; omega⟩
      clear hsays hel hf2 hb2 htab hk0 hbV hV hbwV hA hTx hel2 hstE hbad HD
      rcases hd with rfl | ⟨rfl, hd⟩
      all_goals
        go_wp2_with fail
        rw [HV.out]
        refine HAW.out.mono ?_
        rintro e w3 ⟨rfl, hb3⟩
        have HB3 := Lib.hid hb3
        clear hb3
        go_wp2_with fail
        go_ret
        exact ⟨rfl, HBWV.out.trans (HB3.out.mono HBWV.out.size)⟩
    rw [not_or] at hbad
    obtain ⟨hok, hn10⟩ := hbad
    obtain rfl : ok = true := by simpa using hok
    have hd10 : decide ((10 : Int) < (names.length : Int)) = false := by rw [decide_eq_false_iff_not]; omega
    have hdoc : s.size ≤ 5000 ∧ xreadL s.data.toList = some el := by
      by_cases h2 : 5000 < s.size
      · rw [if_pos h2] at hsays
        cases hsays
      · rw [if_neg h2] at hsays
        cases hxr : xreadL s.data.toList with
        | none => rw [hxr] at hsays; cases hsays
        | some e0 =>
          rw [hxr] at hsays
          exact ⟨by omega, by rw [hsays.2]⟩
    obtain ⟨hsz, hdoc⟩ := hdoc
    obtain ⟨nm, atts, ks, rest, hele, hD⟩ := doc_ok hdoc
    have hled : Led ks names 0 true el := ⟨fun _ _ h => absurd h (Nat.not_lt_zero _), by rw [hele]; exact doc_deep hD (by omega), .inl ⟨rfl, by rw [hele]; rfl⟩⟩
    have HDOC := Lib.hid hD
    have HK0 := Lib.hid hk0
    have HST := Lib.hid hstE
    have HLED := Lib.hid hled
    have HAA := Lib.hid hA
    have HTT := Lib.hid hTx
    clear hsays hel hf2 hb2 htab hk0 hbV hV hbwV hA hTx hel2 hstE hdoc hD hled hok hele HD HAW
    go_wp2_with fail
    rw [HV.out]
    try rw [heb]
    go_loopg [4, 7, 8] names.length (fun g rv th iv wr => ∃ (k : Nat) (there : Bool) (el : XEl) (A T : ByteArray) (ap : Option Addr) (an ac : Nat) (kp : Option Addr) (kn kc : Nat), g = names.length - k ∧ rv = .bool false ∧ th = .bool there ∧ iv = .int .i64 k ∧ k ≤ names.length ∧ bst el.name = A ∧ bst el.text = T ∧ Below w.heap.size w wr ∧
      Blk wr eb 25 #[.string A, .slice ap an ac, .string T, .slice kp kn kc] ∧ Hid (ElM 49 25 wr (fun g => w.heap.size ≤ g ∧ g < eb) (.slice ap an ac) (.slice kp kn kc) el) ∧ Hid (Led ks names k there el))
    case atStart => exact ⟨0, true, el, A, T, ap, an, ac, kp, kn, kc, rfl, rfl, rfl, rfl, Nat.zero_le _, HAA.out, HTT.out, HBWV.out, HK0.out, HST, HLED⟩
    case round =>
      clear HK0 HST HLED HAA HTT HV
      obtain ⟨k, there, el, A, T, ap, an, ac, kp, kn, kc, hg, rfl, rfl, rfl, hk, hA, hTx, hbr, hkb, HEL, HLED⟩ := hrel
      have HG := Lib.hid hg
      have HBR := Lib.hid hbr
      have HKB := Lib.hid hkb
      have c0 := hkb.cell 0
      have c1 := hkb.cell 1
      have c2 := hkb.cell 2
      have c3 := hkb.cell 3
      have hto := textOf_any wr _ _ _ el HEL.out
      rw [hA, hTx] at hto
      obtain ⟨tv, htv⟩ : ∃ x, bst (textOfL el.kids).1 = x := ⟨_, rfl⟩
      have HTV := Lib.hid htv
      have HAA := Lib.hid hA
      have HTT := Lib.hid hTx
      have hval : ∀ W, Below w.heap.size w W → (there = true → k = names.length) → Calls Tryz.prog 20 #[.string s, .slice p names.length cap] W fun e w' => e = .returned (.tuple #[.string (bst ((valueL ks (nmsL names)).getD [])), .bool (valueL ks (nmsL names)).isSome]) ∧ Below W.heap.size W w' := fun W hb he =>
        xvalue_any s W nm atts ks rest (by omega) (HTAB.out W hb) (by have := hb.size; omega) HDOC.out names p cap (by omega)
          (fun i hi => by obtain ⟨ad, h1, h2, h3⟩ := HNM.out i hi; exact ⟨ad, h1, (hb.cell (by rw [add_block]; exact h3)).trans h2, Nat.lt_of_lt_of_le h3 hb.size⟩) HNS.out k (HLED.out.asc he).1 (HLED.out.asc he).2
      have HVAL := Lib.hid hval
      clear hg hbr hkb htv hA hTx hval
      cases there with
      | true =>
        by_cases hkl : k < names.length
        · have hd : decide ((k : Int) < (names.length : Int)) = true := by rw [decide_eq_true_eq]; omega
          have nn : (0 : Int) ≤ (k : Int) := Int.natCast_nonneg _
          obtain ⟨ad, rfl, hc, hbl⟩ := HNM.out k hkl
          have g0 : ∀ W, Below w.heap.size w W → W.cell? (ad.add k) = some (.string names[k]) := fun W hb => (hb.cell (by rw [add_block]; exact hbl)).trans hc
          have hsz1 := HNS.out _ (List.getElem_mem hkl)
          have hnext := fun el2 ok => HLED.out.next (el2 := el2) (ok := ok) hkl
          obtain ⟨x, hx⟩ : ∃ x, names[k] = x := ⟨_, rfl⟩
          rw [hx] at g0 hsz1 hnext
          have HNEXT := Lib.hid hnext
          have HG0 := Lib.hid g0
          have g1 := g0 wr HBR.out
          have hpl := plain_any x wr hsz1
          obtain ⟨pb, hpb⟩ : ∃ b, plainB x.data.toList = b := ⟨_, rfl⟩
          rw [hpb] at hpl
          have HPL := Lib.hid hpl
          have HPB := Lib.hid hpb
          clear hc hbl g0 hnext hx hpl hpb hto HTV HVAL
          go_wp2_with fail
          refine HPL.out.mono ?_
          rintro e w3 ⟨rfl, n3, hw3⟩
          have hs3 : Below wr.heap.size wr w3 := by rw [← hw3]; exact ⟨rfl, rfl, rfl, Nat.le_refl _, fun _ _ => rfl⟩
          have hkb3 : Blk w3 eb 25 #[.string A, .slice ap an ac, .string T, .slice kp kn kc] := (hs3.block _ HKB.out.lt).trans HKB.out
          have hb3 : Below w.heap.size w w3 := HBR.out.trans (hs3.mono HBR.out.size)
          clear hw3
          cases pb with
          | false =>
            have HAW := Lib.hid (HA.out _ (HTAB.out _ hb3))
            have HB3 := Lib.hid hb3
            clear hb3 c0 c1 c2 c3 g1 hs3 hkb3
            go_wp2_with fail
            refine HAW.out.mono ?_
            rintro e w4 ⟨rfl, hb4⟩
            have HB4 := Lib.hid hb4
            clear hb4
            go_wp2_with fail
            go_ret
            exact ⟨rfl, HB3.out.trans (HB4.out.mono HB3.out.size)⟩
          | true =>
            have hdr : Below w3.heap.size w3 w3.drew := ⟨rfl, rfl, rfl, Nat.le_refl _, fun _ _ => rfl⟩
            have hb4 : Below w.heap.size w w3.drew := hb3.trans (hdr.mono hb3.size)
            have hkb4 : Blk w3.drew eb 25 #[.string A, .slice ap an ac, .string T, .slice kp kn kc] := hkb3
            have hel4 : ElM 49 25 w3.drew (fun g => w.heap.size ≤ g ∧ g < eb) (.slice ap an ac) (.slice kp kn kc) el := HEL.out.fr (Fr.below (hs3.trans (hdr.mono hs3.size)) (Nat.le_refl _) (fun _ h => h) : Fr (fun x => wr.heap.size ≤ x) wr _) (fun y hy => by have := hy.2; have := HKB.out.lt; omega)
            have hsm := HLED.out.2.1.parts
            have hfi := xfirst_any w3.drew _ _ _ el x hel4 (fun y hy => Nat.lt_trans hy.2 hkb4.lt) hsm.2.1 hsm.1 hsz1
            rw [HAA.out, HTT.out] at hfi
            have HFI := Lib.hid hfi
            have HB4 := Lib.hid hb4
            have HKB4 := Lib.hid hkb4
            have q0 := hkb4.cell 0
            have q1 := hkb4.cell 1
            have q2 := hkb4.cell 2
            have q3 := hkb4.cell 3
            have g4 := HG0.out _ hb4
            clear hfi hel4 hkb4 hb4 hdr hb3 hkb3 hs3 c0 c1 c2 c3 g1 hsm
            go_upto_region 12 with fail
            go_region_with
              (first | (go_at_call 18
                        refine HFI.out.mono ?_
                        rintro e W8 ⟨el2, ok, av2, kv2, hf, rfl, hel8, hb8⟩
                        obtain ⟨⟨ap2, an2, ac2, rfl⟩, ⟨kp2, kn2, kc2, rfl⟩⟩ := hel8.slices
                        have qs : Blk W8 eb 25 #[.string A, .slice ap an ac, .string T, .slice kp kn kc] := (hb8.block eb HKB4.out.lt).trans HKB4.out
                        obtain ⟨A2, hA2⟩ : ∃ y, bst el2.name = y := ⟨_, rfl⟩
                        obtain ⟨T2, hT2⟩ : ∃ y, bst el2.text = y := ⟨_, rfl⟩
                        rw [hA2, hT2]
                        have hs5 : Fr (fun x => x = eb) W8 ((((W8.setCell ⟨eb, 0, none⟩ (.string A2)).setCell ⟨eb, 1, none⟩ (.slice ap2 an2 ac2)).setCell ⟨eb, 2, none⟩ (.string T2)).setCell ⟨eb, 3, none⟩ (.slice kp2 kn2 kc2)) := ((((Fr.refl (fun x => x = eb) W8).setCell (p := ⟨eb, 0, none⟩) rfl _).setCell (p := ⟨eb, 1, none⟩) rfl _).setCell (p := ⟨eb, 2, none⟩) rfl _).setCell (p := ⟨eb, 3, none⟩) rfl _
                        have HBL : Hid (Blk ((((W8.setCell ⟨eb, 0, none⟩ (.string A2)).setCell ⟨eb, 1, none⟩ (.slice ap2 an2 ac2)).setCell ⟨eb, 2, none⟩ (.string T2)).setCell ⟨eb, 3, none⟩ (.slice kp2 kn2 kc2)) eb 25 #[.string A2, .slice ap2 an2 ac2, .string T2, .slice kp2 kn2 kc2]) := Lib.hid (((((qs.set 0 _).set 1 _).set 2 _).set 3 _).eq rfl)
                        have HBF := Lib.hid ((HB4.out.trans (hb8.mono HB4.out.size)).trans (hs5.toBelow (B := w.heap.size) fun x hx => by rw [hx]; omega))
                        have HEL8 := Lib.hid (hel8.fr hs5 fun x hx e => absurd e (Nat.ne_of_lt hx.2))
                        have HL8 := Lib.hid (HNEXT.out el2 ok HPB.out hf)
                        have HA2 := Lib.hid hA2
                        have HT2 := Lib.hid hT2
                        have y0 := qs.cell 0
                        have y1 := qs.cell 1
                        have y2 := qs.cell 2
                        have y3 := qs.cell 3
                        have yf := qs.frozen
                        clear hf hel8 hb8 qs hA2 hT2 hs5))
            all_goals
              go_wp2_with fail
              go_roundg (names.length - (k + 1))
              case rel => exact ⟨k + 1, ok, el2, A2, T2, ap2, an2, ac2, kp2, kn2, kc2, rfl, rfl, rfl, rfl, by omega, HA2.out, HT2.out, HBF.out, HBL.out, HEL8, HL8⟩
              case measure => have := HG.out; omega
        · have hd : decide ((k : Int) < (names.length : Int)) = false := by rw [decide_eq_false_iff_not]; omega
          have hke : k = names.length := by omega
          have hlast := HLED.out.last hk (fun _ => hke)
          rw [HTV.out] at hto
          obtain ⟨ob, hob⟩ : ∃ b, (textOfL el.kids).2 = b := ⟨_, rfl⟩
          rw [hob] at hto hlast
          have hv2 : (ob = true ∧ valueL ks (nmsL names) = some (textOfL el.kids).1) ∨ (ob = false ∧ valueL ks (nmsL names) = none) := by
            rcases hlast with ⟨_, h1, h2⟩ | ⟨_, h1, h2⟩ | ⟨h, _⟩
            · exact .inl ⟨h1, h2⟩
            · exact .inr ⟨h1, h2⟩
            · cases h
          have HTO := Lib.hid hto
          have HV2 := Lib.hid hv2
          clear hto hlast hob hv2
          go_wp2_with fail
          refine HTO.out.mono ?_
          rintro e w5 ⟨rfl, hb5⟩
          have hbw5 := HBR.out.trans (hb5.mono HBR.out.size)
          have hv5 := HVAL.out w5 hbw5 (fun _ => hke)
          have HB5 := Lib.hid hbw5
          clear hb5 hbw5 c0 c1 c2 c3
          rcases HV2.out with ⟨rfl, hv⟩ | ⟨rfl, hv⟩
          · rw [hv, Option.getD_some, Option.isSome_some, HTV.out] at hv5
            have HV5 := Lib.hid hv5
            have e1 : (tv.toList == tv.toList) = true := beq_self_eq_true _
            clear hv hv5
            go_wp2_with fail
            refine HV5.out.mono ?_
            rintro e w6 ⟨rfl, hb6⟩
            have hbw6 := HB5.out.trans (hb6.mono HB5.out.size)
            have HAW := Lib.hid (HA.out _ (HTAB.out _ hbw6))
            have HB6 := Lib.hid hbw6
            clear hb6 hbw6
            go_wp2_with fail
            refine HAW.out.mono ?_
            rintro e w7 ⟨rfl, hb7⟩
            have HB7 := Lib.hid hb7
            clear hb7
            go_wp2_with fail
            go_ret
            exact ⟨rfl, HB6.out.trans (HB7.out.mono HB6.out.size)⟩
          · rw [hv, Option.getD_none, Option.isSome_none] at hv5
            have HV5 := Lib.hid hv5
            clear hv hv5
            go_wp2_with fail
            refine HV5.out.mono ?_
            rintro e w6 ⟨rfl, hb6⟩
            have hbw6 := HB5.out.trans (hb6.mono HB5.out.size)
            have HAW := Lib.hid (HA.out _ (HTAB.out _ hbw6))
            have HB6 := Lib.hid hbw6
            clear hb6 hbw6
            go_wp2_with fail
            refine HAW.out.mono ?_
            rintro e w7 ⟨rfl, hb7⟩
            have HB7 := Lib.hid hb7
            clear hb7
            go_wp2_with fail
            go_ret
            exact ⟨rfl, HB6.out.trans (HB7.out.mono HB6.out.size)⟩
      | false =>
        have hlast := HLED.out.last hk (fun h => by cases h)
        rw [HTV.out] at hto
        have hv2 : (textOfL el.kids).2 = true ∧ valueL ks (nmsL names) = none := by
          rcases hlast with ⟨h, _⟩ | ⟨h, _⟩ | ⟨_, h1, h2⟩
          · cases h
          · cases h
          · exact ⟨h1, h2⟩
        rw [hv2.1] at hto
        have HTO := Lib.hid hto
        have HV2 := Lib.hid hv2.2
        clear hto hlast hv2
        go_wp2_with fail
        all_goals
          refine HTO.out.mono ?_
          rintro e w5 ⟨rfl, hb5⟩
          have hbw5 := HBR.out.trans (hb5.mono HBR.out.size)
          have hv5 := HVAL.out w5 hbw5 (fun h => by cases h)
          rw [HV2.out, Option.getD_none, Option.isSome_none] at hv5
          have HV5 := Lib.hid hv5
          have HB5 := Lib.hid hbw5
          clear hb5 hbw5 c0 c1 c2 c3 hv5
          go_wp2_with fail
          refine HV5.out.mono ?_
          rintro e w6 ⟨rfl, hb6⟩
          have hbw6 := HB5.out.trans (hb6.mono HB5.out.size)
          have HAW := Lib.hid (HA.out _ (HTAB.out _ hbw6))
          have HB6 := Lib.hid hbw6
          clear hb6 hbw6
          go_wp2_with fail
          refine HAW.out.mono ?_
          rintro e w7 ⟨rfl, hb7⟩
          have HB7 := Lib.hid hb7
          clear hb7
          go_wp2_with fail
          go_ret
          exact ⟨rfl, HB6.out.trans (HB7.out.mono HB6.out.size)⟩
end Go.Proofs.YtlljphipglgjiaaGreatDoor

namespace Go.Proofs.YtlljphipglgjiaaGreatDoor
open Go.ChangeShapes Go.WideShapes Go.ChangeAt Go.RowKit
open Go.ChangeMaps (open_string shut_string)

theorem seat_own : ownKnob Tryz.prog.godebug = none := by kernel_rfl
def u8ren : Go.Shelf.Ren := ⟨fun n => n, fun | 119 => 315 | 138 => 317 | 139 => 318 | n => n, fun | 3 => 4 | 4 => 5 | n => n⟩
theorem u8types : U8Types Tryz.prog u8ren := ⟨Tryz.underlying5, Tryz.underlying315, Tryz.underlying317, Tryz.underlying318⟩
theorem u8extra : U8Extra Tryz.prog u8ren := ⟨by kernel_rfl, by kernel_rfl, by kernel_rfl, by kernel_rfl, by kernel_rfl, by kernel_rfl, by kernel_rfl⟩
theorem u8first_eq : Rows.laid_unicode_utf8_first = Lib.firstData := by kernel_rfl
theorem u8accept_eq : Rows.laid_unicode_utf8_acceptRanges = Lib.acceptData := by kernel_rfl

/-- A listed error: its variable holds an interface value. -/
theorem err_cell {w : World} {n : String} {g : Nat} {nm : String} {d : DataW Unit} (h : Lib.VarReads Tryz.prog w n (.iface nm d)) (hn : Tryz.prog.globalNamed n = some g) (ht : (Tryz.prog.globals[g]?).map (·.type) = some 69) :
    ∃ te pe, w.cell? ⟨g, 0, none⟩ = some (.iface te pe) := by
  obtain ⟨g', t, cs, fuel, p, h1, h2, h3, h4⟩ := h
  obtain rfl := Option.some.inj (hn.symm.trans h1)
  obtain rfl := Option.some.inj (ht.symm.trans h2)
  have hv := World.var?_cell hn h3 0
  cases fuel with
  | zero => simp [DataW.trod] at h4
  | succ fuel =>
    simp only [DataW.trod, Tryz.underlying69] at h4
    split at h4
    case h_12 =>
      rename_i hcs
      exact ⟨_, _, by rw [hv, ← Array.getElem?_toList, hcs]; rfl⟩
    case h_11 => simp at h4
    all_goals first
      | (simp at h4; done)
      | (exfalso; rename_i e1 e2; exact absurd (Option.some.inj e1) (by intro e; cases e))
      | (exfalso; rename_i e1; exact absurd (Option.some.inj e1) (by intro e; cases e))

theorem laid_tabs {W : World} (h : laidMetH Tryz.prog Rows.fnXValuesRow.laid W) : Lib.Utf8Tabs 4 5 W ∧ Errs (fun x => W.heap.size ≤ x) W := by
  rw [MakeChecks.laidMetH_plain _ _ _ (by kernel_rfl)] at h
  have h4 : Lib.VarReads Tryz.prog W "unicode/utf8.acceptRanges" Rows.laid_unicode_utf8_acceptRanges := Lib.laidMet.reads h (by unfold Rows.fnXValuesRow; simp)
  have h5 : Lib.VarReads Tryz.prog W "strconv.ErrRange" Rows.laid_strconv_ErrRange := Lib.laidMet.reads h (by unfold Rows.fnXValuesRow; simp)
  have h6 : Lib.VarReads Tryz.prog W "strconv.ErrSyntax" Rows.laid_strconv_ErrSyntax := Lib.laidMet.reads h (by unfold Rows.fnXValuesRow; simp)
  have h3 : Lib.VarReads Tryz.prog W "unicode/utf8.first" Rows.laid_unicode_utf8_first := Lib.laidMet.reads h (by unfold Rows.fnXValuesRow; simp)
  rw [u8first_eq] at h3
  rw [u8accept_eq] at h4
  obtain ⟨t7, p7, c7⟩ := err_cell (g := 7) h6 (by kernel_rfl) (by kernel_rfl)
  obtain ⟨t8, p8, c8⟩ := err_cell (g := 8) h5 (by kernel_rfl) (by kernel_rfl)
  exact ⟨utf8Tabs_of_readsT u8types u8extra h3 h4, ⟨t7, p7, c7⟩, ⟨t8, p8, c8⟩, Nat.not_le.2 (World.block_lt_of_cell? W _ c7), Nat.not_le.2 (World.block_lt_of_cell? W _ c8)⟩

theorem seat_laidOut : laidOutB Tryz.prog = true := by kernel_rfl
theorem cells9_one : Tryz.prog.cellsOf 9 = 1 := by kernel_rfl

/-- A list of texts that came in, nil or not. -/
theorem open_names {H : Type} {enc : TypeId × Value → H} {W : World} {a0 : Option Addr} {len cap fuel : Nat} {x : DataW H × List MemPlace} (hf : DataW.trod enc Tryz.prog W 0 (fun _ => true) true fuel 29 [.slice a0 len cap] = some x) :
    ∃ names : List ByteArray, names.length = len ∧ NamesAt W a0 names := by
  rcases open_strings Tryz.underlying29 Tryz.underlying9 cells9_one hf with ⟨hcs, hx⟩ | ⟨a, len', cap', ss, hcs, _, hl, hm, hz, hx, hcell, _⟩
  · simp at hcs
    obtain ⟨rfl, rfl, rfl⟩ := hcs
    exact ⟨[], rfl, fun k hk => by simp at hk⟩
  · simp at hcs
    obtain ⟨rfl, rfl, rfl⟩ := hcs
    simp only [if_true] at hz
    refine ⟨ss.take len, by rw [List.length_take]; omega, fun k hk => ?_⟩
    rw [List.length_take] at hk
    have hc := hcell k (by omega)
    have e : ss.getD k ByteArray.empty = (ss.take len)[k]'(by rw [List.length_take]; omega) := by
      rw [List.getElem_take, List.getD_eq_getElem?_getD, List.getElem?_eq_getElem (by omega), Option.getD_some]
    exact ⟨a, rfl, by rw [hc, e], by have := World.block_lt_of_cell? W _ hc; rwa [add_block] at this⟩

/-- The law, as the walk shows it. -/
abbrev ValuesHold : Prop := ∀ (s : ByteArray) (p : Option Addr) (names : List ByteArray) (cap : Nat) (w : World), NamesAt w p names → Lib.Utf8Tabs 4 5 w → Errs (fun x => w.heap.size ≤ x) w →
  Calls Tryz.prog 4 #[.string s, .slice p names.length cap] w fun e w' => e = .returned (.bool true) ∧ Below w.heap.size w w'

set_option maxRecDepth 100000 in
theorem fnXValues_lifted (hfn : ValuesHold) (os : Os) (started : os.Started) (H : Type) (enc : TypeId × Value → H) :
    ReturnsInHanded {} Tryz.checked os 4 .any (fun w args => (Rows.fnXValuesSpec.pre enc Tryz.prog Tryz.f4 [] false w args ∧ laidMetH Tryz.prog Rows.fnXValuesRow.laid w) ∧ sizedMet enc Tryz.prog Tryz.f4 (OpenSpec.ofChange Rows.fnXValuesSpec) false w args)
      (Rows.fnXValuesSpec.post enc Tryz.prog Tryz.f4 false true false false) := by
  refine returnsInHanded_of_change_and (C := Tryz.checked) (X := fun w _ => laidMetH Tryz.prog Rows.fnXValuesRow.laid w) (fun _ _ _ hh h => h.of_heap hh) seat_own started (by kernel_rfl) Tryz.func4
    (ChangeSpec.witness_shaped (enc := enc) (C := Tryz.checked) (os := os) (X := fun w _ => laidMetH Tryz.prog Rows.fnXValuesRow.laid w) false (World.laidAll Tryz.prog os Rows.fnXValuesRow.laid) #[.string ⟨#[]⟩, .slice none 0 0] 8 (World.laidAll_os _ _ _)
      (World.shaped_of_ZipB (by kernel_rfl) (by kernel_rfl)) (by kernel_rfl) (by kernel_rfl) (by kernel_rfl)
      (by rw [MakeChecks.laidMetH_plain _ _ _ (by kernel_rfl)]; exact laidMet_laidAll _ (by kernel_rfl) (by kernel_rfl))) ?_
  intro W base args ds gs before hval0 hW hc _ hL _
  have hval : ∀ (j : Nat) t v, Tryz.f4.params[j]? = some t → args[j]? = some v → Value.okWide Tryz.prog W .any base t v := hval0
  have hW' := hW
  obtain ⟨p, q, hA0, hV, rfl, _, _⟩ := hW
  have hA : DataW.TrodAll enc Tryz.prog W 0 (fun _ => true) true Tryz.f4.params.toList args.toList ds p := hA0
  rw [Tryz.params4] at hA hval
  obtain ⟨v0, v1, d0, d1, p0, p1, rfl, rfl, rfl, h0, h1⟩ := trodAll_two hA
  obtain ⟨rfl, rfl⟩ := trodVars_none hV
  obtain ⟨s, rfl, rfl, rfl, ws⟩ := open_string Tryz.underlying9 (hval 0 9 v0 rfl rfl) h0
  obtain ⟨a1, l1, c1, rfl⟩ := okWide_slice Tryz.underlying29 (hval 1 29 v1 rfl rfl)
  have h1k := h1
  obtain ⟨fuel1, hf1⟩ := h1
  obtain ⟨names, rfl, hnm⟩ := open_names hf1
  simp only [List.append_nil] at hW'
  have hlt : ∀ x ∈ p1, x.block < W.heap.size := fun x hx => by simpa using hW'.lt x (by simpa using hx)
  obtain ⟨hT, hE⟩ := laid_tabs hL
  refine (hfn s a1 names c1 W hnm hT hE).mono ?_
  rintro e W' ⟨rfl, bel⟩
  have e1 : Rows.fnXValuesSpec.fn H ([.lit (.string s.data.toList), d1] ++ []) = { results := [.lit (.bool true)], args := [.lit (.string s.data.toList), d1] } := rfl
  refine ⟨_, rfl, _, _, _, [], [] ++ p1, [], hW', ?_, ?_, ?_, bel.frame _, fun h => by cases h⟩
  · rw [e1]; exact trodAll_mk1 (shut_bool Tryz.underlying4 _)
  · rw [e1]; exact trodAll_mk2 (shut_string Tryz.underlying9 ws) (Below.trod seat_laidOut (by kernel_rfl) (of_decide_eq_true (by kernel_rfl)) h1k bel hlt)
  · rw [e1]; rfl

end Go.Proofs.YtlljphipglgjiaaGreatDoor
