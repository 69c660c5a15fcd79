/-
  zxml's Decoder.Token: an element's start.
-/
import Derived.Test.YtlljphipglgjiaaGreatDoorXmAssert
import Derived.Test.YtlljphipglgjiaaGreatDoorXmSans
import Derived.Deep.LoopGhost
import Derived.Deep.RegionHeld3
namespace Go.Proofs.YtlljphipglgjiaaGreatDoor
open Go.RowKit Go.Lib

def AttrS.small (a : AttrS) : Prop := a.sp.size ≤ maxLen ∧ a.loc.size ≤ maxLen ∧ a.val.size ≤ maxLen
/-- A row of strings, three an attribute. -/
def RowS (cur : Array Value) (cap k : Nat) : Prop := k ≤ cap ∧ cap ≤ maxLen ∧ cur.size = cap * 3 ∧ ∀ j, j < k * 3 → ∃ x : ByteArray, cur[j]? = some (.string x) ∧ x.size ≤ maxLen
def StartTok (M : Nat → Prop) (w : World) (L : LS) (s : ByteArray) (j : Nat) (f : Bool) (bs : List UInt8) (st : List (Nat × SRec)) (m n : Nat) (F : NsF) (sp lo : ByteArray) (av : List AttrS) (e : Ending) (w' : World) : Prop :=
  ∃ (ga cap : Nat) (cur : Array Value), e = .returned (.tuple #[.iface 62 (.agg #[.string (xlate (nsAll F av) true sp lo), .string lo, .slice (some ⟨ga, 0, none⟩) av.length cap]), .nilIface]) ∧
    ∃ (b : Nat) (ok : Bool) (st' fl' : List (Nat × SRec)) (stk free : Option Addr) (n' : Nat), StD M w w' { L with stk := stk, free := free } s j f bs ((b, ⟨0, sp, lo, ok⟩) :: st') fl' m n' (nsAll F av) [(ga, 204, cur)] ∧
      undoNs st' (nsAll F av) = undoNs st F ∧ dropNs st' = dropNs st ∧ StOk st' ∧ n' + st'.length ≤ n + st.length + 2 * av.length ∧ RowS cur cap av.length ∧ w.heap.size ≤ ga

theorem nsAll_snoc (F : NsF) (l : List AttrS) (a : AttrS) : nsAll F (l ++ [a]) = nsAttr (nsAll F l) a := by unfold nsAll; rw [List.foldl_append]; rfl
theorem nsAttr_pre (F : NsF) {x y z : ByteArray} (hx : x = xmlnsB) : nsAttr F ⟨x, y, z⟩ = F.put y (some z) := by unfold nsAttr; rw [if_pos hx]
theorem nsAttr_dft (F : NsF) {x y z : ByteArray} (hx : x = ⟨#[]⟩) (hy : y = xmlnsB) : nsAttr F ⟨x, y, z⟩ = F.put ⟨#[]⟩ (some z) := by
  unfold nsAttr
  rw [if_neg (fun e => absurd (hx.symm.trans e) (by decide)), if_pos ⟨hx, hy⟩]
theorem nsAttr_no (F : NsF) {x y z : ByteArray} (hx : x ≠ xmlnsB) (h : ¬ (x = ⟨#[]⟩ ∧ y = xmlnsB)) : nsAttr F ⟨x, y, z⟩ = F := by unfold nsAttr; rw [if_neg hx, if_neg h]
theorem push_ok {st : List (Nat × SRec)} {b : Nat} {u y : ByteArray} {o : Bool} (h : StOk st) (hu : u.size ≤ maxLen) (hy : y.size ≤ maxLen) : StOk ((b, ⟨1, u, y, o⟩) :: st) := by
  intro p hp
  rcases List.mem_cons.1 hp with rfl | hp
  · exact ⟨.inr rfl, hu, hy⟩
  · exact h p hp
theorem xlate_size {w : World} {m n : Nat} {F : NsF} (h : NsM w m n F) (el : Bool) {sp : ByteArray} (lo : ByteArray) (hs : sp.size ≤ maxLen) : (xlate F el sp lo).size ≤ maxLen := by
  have hg : ∀ k : ByteArray, k.size ≤ maxLen → ((F k).getD k).size ≤ maxLen := by
    intro k hk
    have := (h.look k hk).2
    cases hF : F k with
    | none => exact hk
    | some v => rw [hF] at this; exact this
  unfold xlate
  split
  · exact hs
  split
  · exact hs
  split
  · exact hg _ (by decide)
  split
  · exact hs
  · exact hg _ hs
theorem RowA.rowS {cur : Array Value} {cap : Nat} {al : List AttrS} (h : RowA cur cap al) (hs : ∀ a ∈ al, a.small) : RowS cur cap al.length := by
  obtain ⟨h1, h2, h3, h4⟩ := h
  refine ⟨h1, h2, h3, fun j hj => ?_⟩
  have hk : j / 3 < al.length := by omega
  have e := flatN_get 3 AttrS.cells (fun _ => rfl) al (j / 3) (j % 3) hk (Nat.mod_lt _ (by decide))
  rw [show j / 3 * 3 + j % 3 = j by omega, ← h4, List.getElem?_take_of_lt hj, Array.getElem?_toList] at e
  rw [e]
  obtain ⟨s1, s2, s3⟩ := hs _ (List.getElem_mem hk)
  have hm : j % 3 = 0 ∨ j % 3 = 1 ∨ j % 3 = 2 := by omega
  rcases hm with hm | hm | hm
  · rw [hm]; exact ⟨_, rfl, s1⟩
  · rw [hm]; exact ⟨_, rfl, s2⟩
  · rw [hm]; exact ⟨_, rfl, s3⟩
theorem RowS.set {cur : Array Value} {cap k : Nat} (h : RowS cur cap k) (i : Nat) {x : ByteArray} (hx : x.size ≤ maxLen) : RowS (cur.setIfInBounds i (.string x)) cap k := by
  obtain ⟨h1, h2, h3, h4⟩ := h
  refine ⟨h1, h2, by rw [Array.size_setIfInBounds]; exact h3, fun j hj => ?_⟩
  by_cases hij : i = j
  · subst hij
    have hlt : i < cur.size := by
      have := h4 i hj
      rw [h3]
      have := Nat.mul_le_mul_right 3 h1
      omega
    exact ⟨x, by rw [Array.getElem?_setIfInBounds_self_of_lt hlt], hx⟩
  · rw [Array.getElem?_setIfInBounds_ne hij]
    exact h4 j hj
theorem xmlns_beq (x : ByteArray) : (x.toList == [120, 109, 108, 110, 115]) = decide (x = xmlnsB) := by
  rw [← ba_beq]
  congr 1
  rw [Lib.toList_data]
  rfl
theorem empty_iff (x : ByteArray) : x.toList = [] ↔ x = ⟨#[]⟩ := by
  rw [Lib.toList_data]
  exact ⟨fun h => ba_of_list h, fun h => by rw [h]⟩

set_option maxRecDepth 100000 in
set_option maxHeartbeats 8000000 in
theorem token_push' (M : Nat → Prop) (w : World) (P : Nat) (a : Option Addr) (s : ByteArray) (L : LS) (j : Nat) (st fl : List (Nat × SRec)) (m n : Nat) (F : NsF) (sp lo : ByteArray) (av : List AttrS) (h : TokAt w P a) (hN : New M w) (hp : L.p = P)
    (hm : L.nsb = m) (hsp : sp.size ≤ maxLen) (_hlo : lo.size ≤ maxLen) (hav : ∀ a ∈ av, a.small) (hst : StOk st) (hnl : n + st.length + 2 * av.length + 1 < maxLen)
    (hr : Calls Tryz.prog 117 #[.pointer (some ⟨P, 0, none⟩)] w fun e w1 => ∃ (ga cap : Nat) (cur : Array Value) (f : Bool) (bs : List UInt8), e = .returned (.tuple #[.iface 62 (.agg #[.string sp, .string lo, .slice (some ⟨ga, 0, none⟩) av.length cap]), .nilIface]) ∧ StD M w w1 L s j f bs st fl m n F [(ga, 204, cur)] ∧ RowA cur cap av ∧ w.heap.size ≤ ga) :
    Calls Tryz.prog 70 #[.pointer (some ⟨P, 0, none⟩)] w (fun e w' => ∃ (f : Bool) (bs : List UInt8), StartTok M w L s j f bs st m n F sp lo av e w') := by
  obtain ⟨post, hpost⟩ : ∃ post : Ending → World → Prop, (fun e w' => ∃ (f : Bool) (bs : List UInt8), StartTok M w L s j f bs st m n F sp lo av e w') = post := ⟨_, rfl⟩
  have hfin : ∀ (f : Bool) (bs : List UInt8) (x : ByteArray) (ga cap : Nat) (cur : Array Value) (w' : World) (b : Nat) (ok : Bool) (st' fl' : List (Nat × SRec)) (stk free : Option Addr) (n' : Nat), xlate (nsAll F av) true sp lo = x → StD M w w' { L with stk := stk, free := free } s j f bs ((b, ⟨0, sp, lo, ok⟩) :: st') fl' m n' (nsAll F av) [(ga, 204, cur)] →
      undoNs st' (nsAll F av) = undoNs st F → dropNs st' = dropNs st → StOk st' → n' + st'.length ≤ n + st.length + 2 * av.length → RowS cur cap av.length → w.heap.size ≤ ga →
      post (.returned (.tuple #[.iface 62 (.agg #[.string x, .string lo, .slice (some ⟨ga, 0, none⟩) av.length cap]), .nilIface])) w' := by
    intro f bs x ga cap cur w' b ok st' fl' stk free n' h0 h1 h2 h3 h4 h5 h6 h7
    rw [← hpost]
    exact ⟨f, bs, ga, cap, cur, by rw [h0], b, ok, st', fl', stk, free, n', h1, h2, h3, h4, h5, h6, h7⟩
  rw [hpost]
  subst hp
  have hml : 2 * av.length + 1 < 9223372036854775807 := by have := hnl; unfold maxLen at this; omega
  have HFIN := Lib.hid hfin
  have HR := Lib.hid hr
  have HST := Lib.hid hst
  have HLM := Lib.hid hm
  have HAV := Lib.hid hav
  have HN := Lib.hid hN
  obtain ⟨c5, htop, c8⟩ := h
  have a1 := ta62_62
  clear hr hfin hpost hst hav hN hm
  rcases htop with rfl | ⟨b0, rfl, d1⟩
  all_goals
    go_enter Tryz.func70, Tryz.ntmps70
    go_wp2_with fail
    refine HR.out.mono ?_
    rintro e w1 ⟨ga, cap, cur, f, bs, rfl, hsd, hrow, hga⟩
    obtain ⟨_, _, _, _, _, buf, ⟨lr, nbx, ri, pr, line, ls, off, q1, _⟩, _⟩ := hsd.dec.1
    have c0 := q1.cell 0
    unfold lcells at c0
    have HS0 := Lib.hid (hsd.alloc 62 #[.string sp, .string lo, .slice (some ⟨ga, 0, none⟩) av.length cap] (by decide))
    have HROW := Lib.hid hrow
    have HTBM := Lib.hid (hsd.new w1.heap.size (Nat.le_refl _))
    have HGAM : Hid (M ga) := Lib.hid (HN.out ga hga)
    clear q1 hsd hrow
    go_wp2_with fail
    obtain ⟨tb, htb⟩ : ∃ tb, w1.heap.size = tb := ⟨_, rfl⟩
    rw [htb] at HS0 HTBM ⊢
    obtain ⟨W, hW⟩ : ∃ W, w1.alloc (.cells #[.string sp, .string lo, .slice (some ⟨ga, 0, none⟩) av.length cap] 62) = W := ⟨_, rfl⟩
    rw [hW] at HS0 ⊢
    clear hW htb c0
    go_loopg [103] av.length (fun g kv wr => ∃ (k : Nat) (st' fl' : List (Nat × SRec)) (stk free : Option Addr) (n' : Nat), g = av.length - k ∧ k ≤ av.length ∧ kv = .int .i64 k ∧
      StD M w wr { L with stk := stk, free := free } s j f bs st' fl' m n' (nsAll F (av.take k)) [(tb, 62, #[.string sp, .string lo, .slice (some ⟨ga, 0, none⟩) av.length cap]), (ga, 204, cur)] ∧ n' + st'.length ≤ n + st.length + 2 * k ∧
      Hid (StOk st' ∧ undoNs st' (nsAll F (av.take k)) = undoNs st F ∧ dropNs st' = dropNs st))
    case atStart => exact ⟨0, st, fl, L.stk, L.free, n, rfl, Nat.zero_le _, rfl, HS0.out, Nat.le_refl _, Lib.hid ⟨HST.out, rfl, rfl⟩⟩
    case round =>
      obtain ⟨k, st', fl', stk, free, n', hg, hk, rfl, hsd, hbd, HQ⟩ := hrel
      have HG := Lib.hid hg
      have HS := Lib.hid hsd
      clear hg hsd
      by_cases hkl : k < av.length
      · have hd : decide ((k : Int) < (av.length : Int)) = true := by rw [decide_eq_true_eq]; omega
        obtain ⟨x, hx⟩ : ∃ x, av[k].sp = x := ⟨_, rfl⟩
        obtain ⟨y, hy⟩ : ∃ x, av[k].loc = x := ⟨_, rfl⟩
        obtain ⟨z, hz⟩ : ∃ x, av[k].val = x := ⟨_, rfl⟩
        have hak : av[k] = ⟨x, y, z⟩ := by rw [← hx, ← hy, ← hz]
        have hsm := HAV.out av[k] (List.getElem_mem hkl)
        rw [hak] at hsm
        obtain ⟨hsx, hsy, hsz⟩ := hsm
        dsimp only at hsx hsy hsz
        have htk : av.take (k + 1) = av.take k ++ [⟨x, y, z⟩] := by rw [List.take_succ_eq_append_getElem hkl, hak]
        have HTK := Lib.hid htk
        have hgb := (HS.out.ok (ga, 204, cur) (by simp)).1
        have g0 : wr.cell? ⟨ga, k * 3, none⟩ = some (.string x) := by
          have := AttrsT.cell hgb HROW.out.2.2.2 k 0 hkl (by decide)
          rw [hak] at this
          exact this
        have g1 : wr.cell? ⟨ga, k * 3 + 1, none⟩ = some (.string y) := by
          have := AttrsT.cell hgb HROW.out.2.2.2 k 1 hkl (by decide)
          rw [hak] at this
          exact this
        have g2 : wr.cell? ⟨ga, k * 3 + 2, none⟩ = some (.string z) := by
          have := AttrsT.cell hgb HROW.out.2.2.2 k 2 hkl (by decide)
          rw [hak] at this
          exact this
        have HS2 := Lib.hid (HS.out.alloc 204 #[.string x, .string y, .string z] (by decide))
        have nn : (0 : Int) ≤ (k : Int) := Int.natCast_nonneg _
        clear hgb htk hak hx hy hz
        go_upto_region 25 with fail
        obtain ⟨xb, hxb⟩ : ∃ xb, wr.heap.size = xb := ⟨_, rfl⟩
        obtain ⟨V, hV⟩ : ∃ V, wr.alloc (.cells #[.string x, .string y, .string z] 204) = V := ⟨_, rfl⟩
        rw [hxb, hV] at HS2
        rw [hxb, hV]
        have hxk := (HS2.out.ok (xb, 204, #[.string x, .string y, .string z]) (by simp)).1
        have k0 := hxk.cell 0
        have k1 := hxk.cell 1
        have k2 := hxk.cell 2
        obtain ⟨_, _, _, _, _, buf, ⟨lr, nbx, ri, pr, line, ls, off, q1, _⟩, _⟩ := HS2.out.dec.1
        have c7 := q1.cell 7
        unfold lcells at c7
        rw [show ({ L with stk := stk, free := free } : LS).nsb = m from HLM.out] at c7
        obtain ⟨FK, hFK⟩ : ∃ FK, nsAll F (av.take k) = FK := ⟨_, rfl⟩
        rw [hFK] at HS2
        have HFK := Lib.hid hFK
        clear hxk hxb hV q1 hFK g0 g1 g2 HS
        by_cases hxn : x = xmlnsB
        · have e1 : (x.toList == [120, 109, 108, 110, 115]) = true := by rw [xmlns_beq, hxn]; rfl
          have e2 : x.toList.isEmpty = false := by rw [hxn, Lib.toList_data]; rfl
          have HXN := Lib.hid hxn
          clear hxn
          obtain ⟨hl, hls⟩ := NsM.look (w := V.drew) (HS2.out.drew 1).ns y hsy
          obtain ⟨u, hu⟩ : ∃ u, (FK y).getD ⟨#[]⟩ = u := ⟨_, rfl⟩
          obtain ⟨o, ho⟩ : ∃ o, (FK y).isSome = o := ⟨_, rfl⟩
          rw [hu, ho] at hl
          rw [hu] at hls
          have HU : Hid ((FK y).getD ⟨#[]⟩ = u ∧ (FK y).isSome = o) := Lib.hid ⟨hu, ho⟩
          have HP := Lib.hid (pushNs_dec y u o (HS2.out.drew 1).decS)
          clear hu ho
          go_wp2_with fail
          go_region
          go_wp2_with fail
          refine HP.out.mono ?_
          rintro e w5 ⟨rfl, b5, fl5, stk5, free5, hd5, hf5⟩
          have HS5 := Lib.hid ((HS2.out.drew 1).after hd5 hf5)
          clear hd5 hf5 HP k0 k1 k2 c7 hl
          have hxk := (HS5.out.ok (xb, 204, #[.string x, .string y, .string z]) (by simp)).1
          have k0 := hxk.cell 0
          have k1 := hxk.cell 1
          have k2 := hxk.cell 2
          obtain ⟨_, _, _, _, _, buf, ⟨lr, nbx, ri, pr, line, ls, off, q1, _⟩, _⟩ := HS5.out.dec.1
          have c7 := q1.cell 7
          unfold lcells at c7
          rw [show ({ L with stk := stk5, free := free5 } : LS).nsb = m from HLM.out] at c7
          clear hxk q1
          obtain ⟨w6, hrun, hns6, hgrow⟩ := NsM.set (w := w5.drew) (HS5.out.drew 1).ns (by omega) y z hsy hsz
          have HS6 := Lib.hid ((HS5.out.drew 1).map hns6 hgrow)
          clear hns6 hgrow
          go_wp2_with fail
          go_region
          have hxk := (HS6.out.ok (xb, 204, #[.string x, .string y, .string z]) (by simp)).1
          have j0 := hxk.cell 0
          clear hxk k0 k1 k2 c7 hrun HS5
          go_wp2_with fail
          go_roundg (av.length - (k + 1))
          case rel => exact ⟨k + 1, _, fl5, stk5, free5, n' + 1, rfl, by omega, rfl, by rw [HTK.out, nsAll_snoc, HFK.out, nsAttr_pre _ HXN.out]; exact HS6.out.tail, by simp only [List.length_cons]; omega, Lib.hid ⟨push_ok HQ.out.1 hls hsy, by rw [HTK.out, nsAll_snoc, HFK.out, nsAttr_pre _ HXN.out, ← HU.out.1, ← HU.out.2, undo_push, ← HFK.out]; exact HQ.out.2.1, by rw [drop_push]; exact HQ.out.2.2⟩⟩
          case measure => have := HG.out; omega
        · have e1 : (x.toList == [120, 109, 108, 110, 115]) = false := by rw [xmlns_beq, decide_eq_false hxn]
          by_cases hxe : x = ⟨#[]⟩ ∧ y = xmlnsB
          · obtain ⟨hx0, hy0⟩ := hxe
            have e2 : x.toList.isEmpty = true := by rw [hx0, Lib.toList_data]; rfl
            have e3 : (y.toList == [120, 109, 108, 110, 115]) = true := by rw [xmlns_beq, hy0]; rfl
            have HXN : Hid (nsAttr FK ⟨x, y, z⟩ = FK.put ⟨#[]⟩ (some z)) := Lib.hid (nsAttr_dft FK hx0 hy0)
            clear hxn hx0 hy0
            obtain ⟨hl, hls⟩ := NsM.look (w := V) HS2.out.ns ⟨#[]⟩ (by decide)
            obtain ⟨u, hu⟩ : ∃ u, (FK ⟨#[]⟩).getD ⟨#[]⟩ = u := ⟨_, rfl⟩
            obtain ⟨o, ho⟩ : ∃ o, (FK ⟨#[]⟩).isSome = o := ⟨_, rfl⟩
            rw [hu, ho] at hl
            rw [hu] at hls
            have HU : Hid ((FK ⟨#[]⟩).getD ⟨#[]⟩ = u ∧ (FK ⟨#[]⟩).isSome = o) := Lib.hid ⟨hu, ho⟩
            have HP := Lib.hid (pushNs_dec ⟨#[]⟩ u o HS2.out.decS)
            clear hu ho
            go_wp2_with fail
            refine HP.out.mono ?_
            rintro e w5 ⟨rfl, b5, fl5, stk5, free5, hd5, hf5⟩
            have HS5 := Lib.hid (HS2.out.after hd5 hf5)
            clear hd5 hf5 HP k0 k1 k2 c7 hl
            have hxk := (HS5.out.ok (xb, 204, #[.string x, .string y, .string z]) (by simp)).1
            have k0 := hxk.cell 0
            have k1 := hxk.cell 1
            have k2 := hxk.cell 2
            obtain ⟨_, _, _, _, _, buf, ⟨lr, nbx, ri, pr, line, ls, off, q1, _⟩, _⟩ := HS5.out.dec.1
            have c7 := q1.cell 7
            unfold lcells at c7
            rw [show ({ L with stk := stk5, free := free5 } : LS).nsb = m from HLM.out] at c7
            clear hxk q1
            obtain ⟨w6, hrun, hns6, hgrow⟩ := NsM.set (w := w5.drew) (HS5.out.drew 1).ns (by omega) ⟨#[]⟩ z (by decide) hsz
            have HS6 := Lib.hid ((HS5.out.drew 1).map hns6 hgrow)
            clear hns6 hgrow
            go_wp2_with fail
            go_region
            clear k0 k1 k2 c7 hrun HS5
            go_wp2_with fail
            go_roundg (av.length - (k + 1))
            case rel => exact ⟨k + 1, _, fl5, stk5, free5, n' + 1, rfl, by omega, rfl, by rw [HTK.out, nsAll_snoc, HFK.out, HXN.out]; exact HS6.out.tail, by simp only [List.length_cons]; omega, Lib.hid ⟨push_ok HQ.out.1 hls (by decide), by rw [HTK.out, nsAll_snoc, HFK.out, HXN.out, ← HU.out.1, ← HU.out.2, undo_push, ← HFK.out]; exact HQ.out.2.1, by rw [drop_push]; exact HQ.out.2.2⟩⟩
            case measure => have := HG.out; omega
          · have HXN : Hid (nsAttr FK ⟨x, y, z⟩ = FK) := Lib.hid (nsAttr_no FK hxn hxe)
            by_cases hx0 : x = ⟨#[]⟩
            · have e2 : x.toList.isEmpty = true := by rw [hx0, Lib.toList_data]; rfl
              have e3 : (y.toList == [120, 109, 108, 110, 115]) = false := by rw [xmlns_beq, decide_eq_false fun h => hxe ⟨hx0, h⟩]
              clear hxn hx0 hxe
              go_wp2_with fail
              go_roundg (av.length - (k + 1))
              case rel => exact ⟨k + 1, st', fl', stk, free, n', rfl, by omega, rfl, by rw [HTK.out, nsAll_snoc, HFK.out, HXN.out]; exact HS2.out.tail, by omega, Lib.hid ⟨HQ.out.1, by rw [HTK.out, nsAll_snoc, HFK.out, HXN.out, ← HFK.out]; exact HQ.out.2.1, HQ.out.2.2⟩⟩
              case measure => have := HG.out; omega
            · have e2 : x.toList.isEmpty = false := by rw [← Bool.not_eq_true, List.isEmpty_iff, empty_iff]; exact hx0
              clear hxn hx0 hxe
              go_wp2_with fail
              go_roundg (av.length - (k + 1))
              case rel => exact ⟨k + 1, st', fl', stk, free, n', rfl, by omega, rfl, by rw [HTK.out, nsAll_snoc, HFK.out, HXN.out]; exact HS2.out.tail, by omega, Lib.hid ⟨HQ.out.1, by rw [HTK.out, nsAll_snoc, HFK.out, HXN.out, ← HFK.out]; exact HQ.out.2.1, HQ.out.2.2⟩⟩
              case measure => have := HG.out; omega
      · have hd : decide ((k : Int) < (av.length : Int)) = false := by rw [decide_eq_false_iff_not]; omega
        obtain rfl : k = av.length := by omega
        rw [List.take_length] at HS HQ
        have htk := (HS.out.ok (tb, 62, #[.string sp, .string lo, .slice (some ⟨ga, 0, none⟩) av.length cap]) (by simp)).1
        have k0 := htk.cell 0
        have k1 := htk.cell 1
        have k2 := htk.cell 2
        have kf := htk.frozen
        clear htk
        go_wp2_with fail
        have HP := Lib.hid (pushElement_dec sp lo HS.out.decS)
        refine HP.out.mono ?_
        rintro e w2 ⟨rfl, b2, ok2, fl2, stk2, free2, hd2, hf2⟩
        have HS2 := Lib.hid (HS.out.after hd2 hf2)
        clear hd2 hf2 HP k0 k1 k2 kf
        have htk := (HS2.out.ok (tb, 62, #[.string sp, .string lo, .slice (some ⟨ga, 0, none⟩) av.length cap]) (by simp)).1
        obtain ⟨_, _, _, _, _, buf, ⟨lr, nbx, ri, pr, line, ls, off, q1, _⟩, _⟩ := HS2.out.dec.1
        have htr := translate_any w2 { L with stk := stk2, free := free2 } buf lr nbx line ls off m n' tb 0 (nsAll F av) sp lo true q1 HLM.out HS2.out.ns hsp (htk.cell 0) (htk.cell 1) (htk.frozen 0) (q1.ne htk (by decide : (197 : TypeId) ≠ 62))
        have HTR := Lib.hid htr
        have HTB := Lib.hid htk
        have htbg : tb ≠ ga := htk.ne (HS2.out.ok (ga, 204, cur) (by simp)).1 (by decide : (62 : TypeId) ≠ 204)
        have htbM : M tb := HTBM.out
        clear q1 htr htk HS
        go_wp2_with fail
        refine HTR.out.mono ?_
        rintro e w3 ⟨rfl, htr3⟩
        obtain ⟨hf3, hb3⟩ := translate_use htr3
        have hb3' := hb3 62 _ HTB.out rfl
        have HS3 := Lib.hid ((HS2.out.head (by simpa using htbg) htbM hf3 hb3').swap)
        clear htr3 hf3 hb3 hb3' HTR HTB HS2
        obtain ⟨X, hX⟩ : ∃ X, xlate (nsAll F av) true sp lo = X := ⟨_, rfl⟩
        have HX := Lib.hid hX
        rw [hX] at HS3
        have htk : Blk w3 tb 62 #[.string X, .string lo, .slice (some ⟨ga, 0, none⟩) av.length cap] := (HS3.out.ok (tb, 62, _) (by simp)).1
        have k2 := htk.cell 2
        clear htk hX
        go_wp2_with fail
        go_loopg [177] av.length (fun g kv wr => ∃ (k : Nat) (cu : Array Value), g = av.length - k ∧ k ≤ av.length ∧ kv = .int .i64 k ∧
          StD M w wr { L with stk := stk2, free := free2 } s j f bs ((b2, ⟨0, sp, lo, ok2⟩) :: st') fl2 m n' (nsAll F av) [(ga, 204, cu), (tb, 62, #[.string X, .string lo, .slice (some ⟨ga, 0, none⟩) av.length cap])] ∧ RowS cu cap av.length)
        case atStart => exact ⟨0, cur, rfl, Nat.zero_le _, rfl, HS3.out, HROW.out.rowS HAV.out⟩
        case round =>
          obtain ⟨k, cu, hg, hk, rfl, hsd, hrs⟩ := hrel
          have HG := Lib.hid hg
          have HS := Lib.hid hsd
          have htk : Blk wr tb 62 #[.string X, .string lo, .slice (some ⟨ga, 0, none⟩) av.length cap] := (hsd.ok (tb, 62, _) (by simp)).1
          have hgb : Blk wr ga 204 cu := (hsd.ok (ga, 204, _) (by simp)).1
          have k0 := htk.cell 0
          have k1 := htk.cell 1
          have k2 := htk.cell 2
          by_cases hkl : k < av.length
          · have hd : decide ((k : Int) < (av.length : Int)) = true := by rw [decide_eq_true_eq]; omega
            have nn : (0 : Int) ≤ (k : Int) := Int.natCast_nonneg _
            obtain ⟨x, hx, hxs⟩ := hrs.2.2.2 (k * 3) (by omega)
            obtain ⟨y, hy, hys⟩ := hrs.2.2.2 (k * 3 + 1) (by omega)
            obtain ⟨_, _, _, _, _, buf, ⟨lr, nbx, ri, pr, line, ls, off, q1, _⟩, _⟩ := hsd.dec.1
            have htr := translate_any wr { L with stk := stk2, free := free2 } buf lr nbx line ls off m n' ga (k * 3) (nsAll F av) x y false q1 HLM.out hsd.ns hxs ((hgb.cell _).trans hx) ((hgb.cell _).trans hy) (hgb.frozen _) (q1.ne hgb (by decide : (197 : TypeId) ≠ 204))
            have HTR := Lib.hid htr
            have HGB := Lib.hid hgb
            have HXX := Lib.hid hx
            have HXS := Lib.hid (xlate_size hsd.ns false y hxs)
            have HRS := Lib.hid hrs
            clear q1 htr hgb htk hx hy hrs hsd hg
            go_wp2_with fail
            refine HTR.out.mono ?_
            rintro e w4 ⟨rfl, htr4⟩
            obtain ⟨hf4, hb4⟩ := translate_use htr4
            have HS4 := Lib.hid (HS.out.head (by simpa using htbg.symm) HGAM.out hf4 (hb4 204 _ HGB.out HXX.out))
            clear htr4 hf4 hb4 HTR HGB k0 k1 k2
            go_wp2_with fail
            go_roundg (av.length - (k + 1))
            case rel => exact ⟨k + 1, _, rfl, by omega, rfl, HS4.out, HRS.out.set _ HXS.out⟩
            case measure => have := HG.out; omega
          · have hd : decide ((k : Int) < (av.length : Int)) = false := by rw [decide_eq_false_iff_not]; omega
            have HP := Lib.hid (HFIN.out f bs X ga cap cu wr b2 ok2 st' fl2 stk2 free2 n' HX.out hsd.swap.tail HQ.out.2.1 HQ.out.2.2 HQ.out.1 hbd hrs hga)
            clear hgb htk hrs hsd hg
            go_wp2_with fail
            exact HP.out
end Go.Proofs.YtlljphipglgjiaaGreatDoor
