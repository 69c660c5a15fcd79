/-
  spec.XLocals: the local names of an element's elements.
  spec.XFirst: the first element of a name, in any letters; spec.XTextOf of any element.
  FnXNames: rows of strings, and a root's name (plain and small).
  NodeDecoder.GetElement: the first element of a name, in any letters, or an error.
  NodeDecoder.Value: the text that stands in an element alone, or nothing; else an error.
-/
import Derived.Test.YtlljphipglgjiaaGreatDoorXmNew
import Derived.Test.YtlljphipglgjiaaGreatDoorXmRoot
import Derived.Test.YtlljphipglgjiaaGreatDoorXmNd
import Derived.Deep.RegionHeld3
namespace Go.Proofs.YtlljphipglgjiaaGreatDoor
open Go.RowKit Go.Lib

theorem ElM.inv2 {TA TE : TypeId} {w : World} {D : Nat → Prop} {av kv : Value} {e : XEl} (h : ElM TA TE w D av kv e) : ∃ ks : List (XEl × Value × Value), e.kids = ks.map (·.1) ∧ KidsM TA TE w D kv ks := by
  induction h with
  | mk D n t l ks av kv h1 h2 h3 h4 h5 _ => exact ⟨ks, rfl, h3, h4, h5⟩
theorem RowStr.snoc {w wr w2 : World} {v v2 : Value} {names : List ByteArray} {X : Known} {x : ByteArray} (h : RowStr v names X) (hX : ∀ x ∈ X, w.heap.size ≤ x.1) (hb : Below w.heap.size w wr) (hown : w2.ownsRow 0 9 1 v2 (names.length + 1) (names.map Value.string ++ [.string x])) (hg : wr.grownBy w2 v.ownBlock) (hat : RowAt wr v v2) :
    ∃ X2, RowStr v2 (names ++ [x]) X2 ∧ (∀ x ∈ X2, w.heap.size ≤ x.1 ∧ Blk w2 x.1 x.2.1 x.2.2) ∧ Below w.heap.size w w2 := by
  obtain ⟨hlen, ⟨_, h0⟩ | ⟨g2, cap2, cur2, rfl, _, hb2, k1, k2, k3, k4⟩⟩ := hown
  · omega
  have hal : (names ++ [x]).length = names.length + 1 := by simp
  have hbl := h.blocks
  have hrow : ∀ y, v.ownBlock = some y → w.heap.size ≤ y := fun y hy => by
    obtain ⟨z, hz, rfl⟩ := List.mem_map.1 ((hbl y).1 hy)
    exact hX z hz
  have hg2 : w.heap.size ≤ g2 := by
    rcases hat with e | ⟨g3, e, hge⟩
    · exact hrow g2 e.symm
    · have e1 : g2 = g3 := Option.some.inj e
      have := hb.size
      omega
  refine ⟨[(g2, 9, cur2)], .inr ⟨g2, cap2, cur2, by rw [hal], rfl, by rw [hal]; exact k1, k2, k3, by rw [hal, k4]; simp⟩, fun y hy => ?_, ⟨hg.os.trans hb.os, hg.tape.trans hb.tape, hg.output.trans hb.output, Nat.le_trans hb.size hg.size, fun i hi => (hg.block i (Nat.lt_of_lt_of_le hi hb.size) fun e => ?_).trans (hb.block i hi)⟩⟩
  · rw [List.mem_singleton] at hy
    subst hy
    exact ⟨hg2, hb2⟩
  · have := hrow i e.symm
    omega
theorem kid_cell {w : World} {D : Nat → Prop} {kv : Value} {ks : List (XEl × Value × Value)} (h : KidsM 49 25 w D kv ks) (k : Nat) (hk : k < ks.length) : ∃ g c, kv = .slice (some ⟨g, 0, none⟩) ks.length c ∧ w.cell? ⟨g, k * 4, none⟩ = some (.string (bst (ks[k]).1.name)) ∧ g < w.heap.size := by
  obtain ⟨⟨h1, ⟨_, h2⟩ | ⟨g, cap, cur, rfl, _, hg, hl, hm, hsz, ht⟩⟩, _, _⟩ := h
  · omega
  · have hc : w.cell? ⟨g, k * 4 + 0, none⟩ = (kidCells ks[k])[0]? := by
      rw [cell_of_row w g _ cur 25 (0, 0) hg, ← flatN_get 4 kidCells (fun _ => rfl) ks k 0 hk (by decide), ← ht, List.getElem?_take_of_lt (by omega), Array.getElem?_toList]
    exact ⟨g, cap, rfl, hc, World.block_lt_of_cell? w _ hc⟩

set_option maxRecDepth 100000 in
set_option maxHeartbeats 8000000 in
theorem xlocals_any (w : World) (D : Nat → Prop) (av kv : Value) (e : XEl) (hel : ElM 49 25 w D av kv e) (hsz : ∀ k ∈ e.kids, k.name.length ≤ 2000000) (hlen : e.kids.length ≤ 2000000) :
    Calls Tryz.prog 14 #[.agg #[.string (bst e.name), av, .string (bst e.text), kv]] w fun e' w' => ∃ v, e' = .returned v ∧ (w'.ownsRow 0 9 1 v (localsOf e.kids).length ((localsOf e.kids).map Value.string) ∧ (∀ g, v.ownBlock = some g → w.heap.size ≤ g) ∧ Below w.heap.size w w') := by
  obtain ⟨⟨ap, an, ac, rfl⟩, ⟨kp, kn, kc, rfl⟩⟩ := hel.slices
  obtain ⟨ks, hks, hkm⟩ := hel.inv2
  obtain ⟨all, hall⟩ : ∃ x, localsOf e.kids = x := ⟨_, rfl⟩
  obtain ⟨nm, hnm⟩ : ∃ x, bst e.name = x := ⟨_, rfl⟩
  obtain ⟨tx, htx⟩ : ∃ x, bst e.text = x := ⟨_, rfl⟩
  rw [hks] at hall hsz hlen
  rw [List.length_map] at hlen
  obtain ⟨post, hpost⟩ : ∃ post : Ending → World → Prop, (fun e' w' => ∃ v, e' = .returned v ∧ (w'.ownsRow 0 9 1 v (localsOf e.kids).length ((localsOf e.kids).map Value.string) ∧ (∀ g, v.ownBlock = some g → w.heap.size ≤ g) ∧ Below w.heap.size w w')) = post := ⟨_, rfl⟩
  have hfin : ∀ (v : Value) (w' : World), w'.ownsRow 0 9 1 v all.length (all.map Value.string) → (∀ g, v.ownBlock = some g → w.heap.size ≤ g) → Below w.heap.size w w' → post (.returned v) w' := by
    intro v w' h1 h2 h3
    rw [← hpost]
    refine ⟨v, rfl, ?_, h2, h3⟩
    rw [hks, hall]
    exact h1
  rw [hpost, hnm, htx]
  have hkn : kn = ks.length := by
    obtain ⟨⟨h1, ⟨h2, h3⟩ | ⟨g, cap, cur, h2, _⟩⟩, _, _⟩ := hkm
    · injection h2 with _ h4 _
      rw [h4, h3]
    · injection h2
  subst hkn
  obtain ⟨i9, hi9, hz9a, hz9b, hz9c⟩ := info_parts Tryz.info9
  have HFIN := Lib.hid hfin
  have HKM := Lib.hid hkm
  have HALL := Lib.hid hall
  have HSZ := Lib.hid hsz
  have hb0 : Below w.heap.size w (w.alloc (.cells #[.string nm, .slice ap an ac, .string tx, .slice kp ks.length kc] 25)) := (Below.refl _ _).alloc (Nat.le_refl _) _
  have hk0 := Blk.new w 25 #[.string nm, .slice ap an ac, .string tx, .slice kp ks.length kc]
  obtain ⟨W, hW⟩ : ∃ W, w.alloc (.cells #[.string nm, .slice ap an ac, .string tx, .slice kp ks.length kc] 25) = W := ⟨_, rfl⟩
  obtain ⟨eb, heb⟩ : ∃ eb, w.heap.size = eb := ⟨_, rfl⟩
  rw [hW] at hb0 hk0
  rw [heb] at hk0
  have HB0 := Lib.hid hb0
  have HK0 := Lib.hid hk0
  have HW := Lib.hid hW
  clear hpost hfin hks hkm hall hsz hel hb0 hk0 hW hnm htx
  go_enter Tryz.func14, Tryz.ntmps14
  go_wp2_with fail
  rw [HW.out]
  try rw [heb]
  go_loopg [3, 4] ks.length (fun g ov kv wr => ∃ (k : Nat) (names : List ByteArray) (op : Option Addr) (on oc : Nat) (Y : Known), g = ks.length - k ∧ k ≤ ks.length ∧ kv = .int .i64 k ∧ ov = .slice op on oc ∧ RowStr (.slice op on oc) names Y ∧ (∀ x ∈ Y, w.heap.size ≤ x.1 ∧ Blk wr x.1 x.2.1 x.2.2) ∧ Below w.heap.size w wr ∧
    Blk wr eb 25 #[.string nm, .slice ap an ac, .string tx, .slice kp ks.length kc] ∧ (∀ x ∈ Y, x.1 ≠ eb) ∧ names.length ≤ k ∧ Hid (names ++ localsOf ((ks.drop k).map (·.1)) = all))
  case atStart => exact ⟨0, [], none, 0, 0, [], rfl, Nat.zero_le _, rfl, rfl, .inl ⟨rfl, rfl, rfl⟩, fun x hx => by simp at hx, HB0.out, HK0.out, fun x hx => by simp at hx, Nat.zero_le _, Lib.hid (by rw [List.drop_zero]; exact HALL.out)⟩
  case round =>
    obtain ⟨k, names, op, on, oc, Y, hg, hk, rfl, rfl, hrow, hY, hbe, hkb, hYn, hnl, HN⟩ := hrel
    have HG := Lib.hid hg
    have HROW := Lib.hid hrow
    have HY := Lib.hid hY
    have HBE := Lib.hid hbe
    have HKB := Lib.hid hkb
    have HYN := Lib.hid hYn
    have c3 := hkb.cell 3
    clear hg hrow hY hbe hkb hYn
    by_cases hkl : k < ks.length
    · have hd : decide ((k : Int) < (ks.length : Int)) = true := by rw [decide_eq_true_eq]; omega
      obtain ⟨g, c, hgv, hgc, hgl⟩ := kid_cell HKM.out k hkl
      injection hgv with hgv1 hgv2 hgv3
      subst hgv1
      subst hgv3
      clear hgv2
      have nn : (0 : Int) ≤ (k : Int) := Int.natCast_nonneg _
      have g0 : wr.cell? ⟨g, k * 4, none⟩ = some (.string (bst (ks[k]).1.name)) := by rw [World.cell?, HBE.out.block _ hgl]; exact hgc
      have hnsz := HSZ.out (ks[k]).1 (List.mem_map.2 ⟨ks[k], List.getElem_mem hkl, rfl⟩)
      have hdrop : (ks.drop k).map (·.1) = (ks[k]).1 :: (ks.drop (k + 1)).map (·.1) := by rw [List.drop_eq_getElem_cons hkl]; rfl
      obtain ⟨q, hq⟩ : ∃ q, (ks[k]).1 = q := ⟨_, rfl⟩
      rw [hq] at g0 hnsz hdrop
      obtain ⟨x, hx⟩ : ∃ x, bst q.name = x := ⟨_, rfl⟩
      rw [hx] at g0
      have HDR := Lib.hid hdrop
      have HXX := Lib.hid hx
      clear hgc hdrop hq hx
      by_cases hq0 : notEl q = true
      · have HN2 : Hid (names ++ localsOf ((ks.drop (k + 1)).map (·.1)) = all) := Lib.hid (by
          have := HN.out
          rw [HDR.out] at this
          unfold localsOf elemsOf at this ⊢
          rw [List.filter_cons_of_neg (by rw [hq0]; decide)] at this
          exact this)
        unfold notEl at hq0
        rw [Bool.or_eq_true, beq_iff_eq, beq_iff_eq] at hq0
        rcases hq0 with hq0 | hq0
        · have e1 : x.toList.isEmpty = true := by rw [← HXX.out, hq0, Lib.toList_data]; rfl
          have e2 : (x.toList != []) = false := by rw [← HXX.out, hq0, Lib.toList_data]; rfl
          clear hq0
          go_wp2_with fail
          go_roundg (ks.length - (k + 1))
          case rel => exact ⟨k + 1, names, op, on, oc, Y, rfl, by omega, rfl, rfl, HROW.out, HY.out, HBE.out, HKB.out, HYN.out, by omega, HN2⟩
          case measure => have := HG.out; omega
        · have e1 : x.toList.isEmpty = false := by rw [← HXX.out, hq0, Lib.toList_data]; rfl
          have e2 : (x.toList != []) = true := by rw [← HXX.out, hq0, Lib.toList_data]; rfl
          have e3 : (x.toList == [33]) = true := by rw [← HXX.out, hq0, Lib.toList_data]; rfl
          have e4 : (x.toList != [33]) = false := by rw [bne, e3]; rfl
          clear hq0
          go_wp2_with fail
          go_roundg (ks.length - (k + 1))
          case rel => exact ⟨k + 1, names, op, on, oc, Y, rfl, by omega, rfl, rfl, HROW.out, HY.out, HBE.out, HKB.out, HYN.out, by omega, HN2⟩
          case measure => have := HG.out; omega
      · have hq1 : notEl q = false := by simpa using hq0
        have HN2 : Hid ((names ++ [bst (halvesL q.name).2]) ++ localsOf ((ks.drop (k + 1)).map (·.1)) = all) := Lib.hid (by
          have := HN.out
          rw [HDR.out] at this
          unfold localsOf at this ⊢
          rw [elemsOf_cons hq1, List.map_cons] at this
          rw [List.append_assoc]
          exact this)
        unfold notEl at hq1
        rw [Bool.or_eq_false_iff, beq_eq_false_iff_ne, beq_eq_false_iff_ne] at hq1
        have hxd : x.toList = q.name := by rw [← HXX.out, Lib.toList_data, bst_toList]
        have e1 : x.toList.isEmpty = false := by rw [hxd, List.isEmpty_eq_false_iff]; exact hq1.1
        have e2 : (x.toList != []) = true := by rw [hxd, bne_iff_ne]; exact hq1.1
        have e3 : (x.toList == [33]) = false := by rw [hxd, beq_eq_false_iff_ne]; exact hq1.2
        have e4 : (x.toList != [33]) = true := by rw [bne, e3]; rfl
        obtain ⟨lo2, hlo2⟩ : ∃ y, bst (halvesL q.name).2 = y := ⟨_, rfl⟩
        obtain ⟨lo1, hlo1⟩ : ∃ y, bst (halvesL q.name).1 = y := ⟨_, rfl⟩
        have hh := halves_any x wr (by rw [← HXX.out, bst_size]; omega)
        rw [show x.data.toList = q.name by rw [← hxd, Lib.toList_data], hlo1, hlo2] at hh
        rw [hlo2] at HN2
        have HH := Lib.hid hh
        clear hq0 hq1 hxd hh hlo1 hlo2
        go_wp2_with fail
        refine HH.out.mono ?_
        rintro e w5 ⟨rfl, dn, rfl⟩
        have HOWN : Hid ((wr.drewN dn).ownsRow 0 9 1 (.slice op on oc) names.length (names.map Value.string)) := Lib.hid (HROW.out.owns fun x hx => ((HY.out x hx).2).drewN dn)
        clear HH g0 e1 e2 e3 e4 c3
        go_wp2_with ((at_builtin; refine wpList_append_where _ rfl _ _ 29 rfl 0 9 i9 (.string ⟨#[]⟩) 1 16 Tryz.underlying29 hi9 hz9a hz9b hz9c rfl (by decide) _ _ _ rfl (HOWN.out.alloc _) ⟨(wr.drewN dn).heap.size, 0, none⟩ 1 1 [.string lo2] rfl rfl ?c1 ?c2 ?c3 ?c4 ?c5 ?_))
        case c1 => exact World.news_of_block (cs := #[.string lo2]) (t := 9) (fr := (0, 0)) (heap_alloc_new (wr.drewN dn) _)
        case c2 => simp [Value.oneCell']
        case c3 => unfold maxLen; omega
        case c4 => omega
        case c5 => exact Nat.zero_le _
        intro v2 w4 hown2 hgrow hat2
        obtain ⟨vp2, vn2, vc2, rfl⟩ : ∃ ap an ac, v2 = .slice ap an ac := by
          rcases hown2.2 with ⟨rfl, _⟩ | ⟨g, cap, cur, rfl, _⟩
          · exact ⟨_, _, _, rfl⟩
          · exact ⟨_, _, _, rfl⟩
        have hbu : Below wr.heap.size wr ((wr.drewN dn).alloc (.cells #[.string lo2] 9)) := (⟨rfl, rfl, rfl, Nat.le_refl _, fun _ _ => rfl⟩ : Below wr.heap.size wr (wr.drewN dn)).trans ((Below.refl wr.heap.size (wr.drewN dn)).alloc (show wr.heap.size ≤ (wr.drewN dn).heap.size from Nat.le_refl _) _)
        obtain ⟨Y2, hr2, hy2, hb2⟩ := HROW.out.snoc (fun x hx => (HY.out x hx).1) (HBE.out.trans (hbu.mono HBE.out.size)) hown2 hgrow hat2
        have hfe : Fr (fun y => wr.heap.size ≤ y ∨ (.slice op on oc : Value).ownBlock = some y) ((wr.drewN dn).alloc (.cells #[.string lo2] 9)) w4 :=
          ⟨hgrow.os, hgrow.tape, hgrow.output, hgrow.size, fun j hj => by
            rcases Nat.lt_or_ge j ((wr.drewN dn).alloc (.cells #[.string lo2] 9)).heap.size with h1 | h1
            · exact hgrow.block j h1 fun e => hj (.inr e.symm)
            · exact absurd (.inl (Nat.le_trans hbu.size h1)) hj⟩
        have hke : Blk w4 eb 25 #[.string nm, .slice ap an ac, .string tx, .slice (some ⟨g, 0, none⟩) ks.length kc] := Blk.fr (show Blk ((wr.drewN dn).alloc (.cells #[.string lo2] 9)) eb 25 _ from (hbu.block _ HKB.out.lt).trans HKB.out) hfe (fun e => by
          rcases e with e | e
          · have := HKB.out.lt; omega
          · obtain ⟨z, hz, hze⟩ := List.mem_map.1 ((HROW.out.blocks eb).1 e)
            exact HYN.out z hz hze)
        have hyn2 : ∀ x ∈ Y2, x.1 ≠ eb := by
          intro x hx e
          have h1 := (hy2 x hx).2
          rw [e] at h1
          rcases hr2 with ⟨_, hnil, _⟩ | ⟨g2, cap2, cur2, _, rfl, _⟩
          · simp at hnil
          · rw [List.mem_singleton] at hx
            subst hx
            exact h1.ne hke (by decide : (9 : TypeId) ≠ 25) rfl
        have HR2 := Lib.hid hr2
        have HY2 := Lib.hid hy2
        have HB2 := Lib.hid hb2
        have HKE := Lib.hid hke
        have HYN2 := Lib.hid hyn2
        clear hown2 hgrow hat2 hbu hr2 hy2 hb2 hfe hke hyn2
        go_wp2_with fail
        go_roundg (ks.length - (k + 1))
        case rel => exact ⟨k + 1, names ++ [lo2], vp2, vn2, vc2, Y2, rfl, by omega, rfl, rfl, HR2.out, HY2.out, HB2.out, HKE.out, HYN2.out, by rw [List.length_append, List.length_singleton]; omega, HN2⟩
        case measure => have := HG.out; omega
    · have hd : decide ((k : Int) < (ks.length : Int)) = false := by rw [decide_eq_false_iff_not]; omega
      have hfi : names = all := by
        have := HN.out
        rw [List.drop_of_length_le (by omega)] at this
        have e0 : localsOf (List.map (fun x : XEl × Value × Value => x.1) []) = [] := rfl
        rw [e0, List.append_nil] at this
        exact this
      have HP := Lib.hid (HFIN.out (.slice op on oc) wr (by rw [← hfi]; exact HROW.out.owns fun x hx => (HY.out x hx).2) (fun g hg => by
        obtain ⟨z, hz, rfl⟩ := List.mem_map.1 ((HROW.out.blocks g).1 hg)
        exact (HY.out z hz).1) HBE.out)
      clear hfi
      go_wp2_with fail
      exact HP.out
end Go.Proofs.YtlljphipglgjiaaGreatDoor

namespace Go.Proofs.YtlljphipglgjiaaGreatDoor
open Go.RowKit Go.Lib

/-- Has it that local name, in any letters? -/
def isNamed (nm : List UInt8) (k : XEl) : Bool := lowL (halvesL k.name).2 == lowL nm
def firstOf (ks : List XEl) (nm : List UInt8) : Option XEl := (elemsOf ks).find? (isNamed nm)
theorem firstOf_skip {k : XEl} {ks : List XEl} {nm : List UInt8} (h : notEl k = true) : firstOf (k :: ks) nm = firstOf ks nm := by
  unfold firstOf elemsOf
  rw [List.filter_cons_of_neg (by rw [h]; decide)]
theorem firstOf_no {k : XEl} {ks : List XEl} {nm : List UInt8} (h : notEl k = false) (hn : isNamed nm k = false) : firstOf (k :: ks) nm = firstOf ks nm := by
  unfold firstOf
  rw [elemsOf_cons h, List.find?_cons, hn]
theorem firstOf_yes {k : XEl} {ks : List XEl} {nm : List UInt8} (h : notEl k = false) (hn : isNamed nm k = true) : firstOf (k :: ks) nm = some k := by
  unfold firstOf
  rw [elemsOf_cons h, List.find?_cons, hn]

theorem kid_cells {w : World} {D : Nat → Prop} {kv : Value} {ks : List (XEl × Value × Value)} (h : KidsM 49 25 w D kv ks) (k : Nat) (hk : k < ks.length) :
    ∃ g c, kv = .slice (some ⟨g, 0, none⟩) ks.length c ∧ g < w.heap.size ∧ ElM 49 25 w D ks[k].2.1 ks[k].2.2 ks[k].1 ∧ w.cell? ⟨g, k * 4, none⟩ = some (.string (bst (ks[k]).1.name)) ∧ w.cell? ⟨g, k * 4 + 1, none⟩ = some (ks[k]).2.1 ∧ w.cell? ⟨g, k * 4 + 2, none⟩ = some (.string (bst (ks[k]).1.text)) ∧ w.cell? ⟨g, k * 4 + 3, none⟩ = some (ks[k]).2.2 := by
  obtain ⟨⟨h1, ⟨_, h2⟩ | ⟨g, cap, cur, rfl, _, hg, hl, hm, hsz, ht⟩⟩, _, h5⟩ := h
  · omega
  · have hc : ∀ j, j < 4 → w.cell? ⟨g, k * 4 + j, none⟩ = (kidCells ks[k])[j]? := fun j hj => by
      rw [cell_of_row w g _ cur 25 (0, 0) hg, ← flatN_get 4 kidCells (fun _ => rfl) ks k j hk hj, ← ht, List.getElem?_take_of_lt (by omega), Array.getElem?_toList]
    have h0 := hc 0 (by decide)
    exact ⟨g, cap, rfl, World.block_lt_of_cell? w _ h0, (h5 k hk).mono fun x hx => hx.1, h0, hc 1 (by decide), hc 2 (by decide), hc 3 (by decide)⟩

/-- What a finding hands back. -/
def firstVal (r : Option XEl) : XEl × Bool := match r with | some e => (e, true) | none => (.mk [] [] [] [], false)

set_option maxRecDepth 100000 in
set_option maxHeartbeats 8000000 in
theorem xfirst_any (w : World) (D : Nat → Prop) (av kv : Value) (e : XEl) (nm : ByteArray) (hel : ElM 49 25 w D av kv e) (hD : ∀ x, D x → x < w.heap.size) (hsz : ∀ k ∈ e.kids, k.name.length ≤ 2000000) (hlen : e.kids.length ≤ 2000000) (hnm : nm.size ≤ 2147483647) :
    Calls Tryz.prog 18 #[.agg #[.string (bst e.name), av, .string (bst e.text), kv], .string nm] w fun e' w' => ∃ (el : XEl) (ok : Bool) (av' kv' : Value), firstVal (firstOf e.kids nm.data.toList) = (el, ok) ∧ e' = .returned (.tuple #[.agg #[.string (bst el.name), av', .string (bst el.text), kv'], .bool ok]) ∧ (ElM 49 25 w' D av' kv' el ∧ Below w.heap.size w w') := by
  obtain ⟨⟨ap, an, ac, rfl⟩, ⟨kp, kn, kc, rfl⟩⟩ := hel.slices
  obtain ⟨ks, hks, hkm⟩ := hel.inv2
  obtain ⟨all, hall⟩ : ∃ x, firstOf e.kids nm.data.toList = x := ⟨_, rfl⟩
  obtain ⟨en, hen⟩ : ∃ x, bst e.name = x := ⟨_, rfl⟩
  obtain ⟨tx, htx⟩ : ∃ x, bst e.text = x := ⟨_, rfl⟩
  rw [hks] at hall hsz hlen
  rw [List.length_map] at hlen
  obtain ⟨post, hpost⟩ : ∃ post : Ending → World → Prop, (fun e' w' => ∃ (el : XEl) (ok : Bool) (av' kv' : Value), firstVal (firstOf e.kids nm.data.toList) = (el, ok) ∧ e' = .returned (.tuple #[.agg #[.string (bst el.name), av', .string (bst el.text), kv'], .bool ok]) ∧ (ElM 49 25 w' D av' kv' el ∧ Below w.heap.size w w')) = post := ⟨_, rfl⟩
  have hfin : ∀ (el : XEl) (av' kv' : Value) (ok : Bool) (w' : World), firstVal all = (el, ok) → ElM 49 25 w' D av' kv' el → Below w.heap.size w w' → post (.returned (.tuple #[.agg #[.string (bst el.name), av', .string (bst el.text), kv'], .bool ok])) w' := by
    intro el av' kv' ok w' h1 h2 h3
    rw [← hpost, hks, hall]
    exact ⟨el, ok, av', kv', h1, rfl, h2, h3⟩
  rw [hpost, hen, htx]
  have hkn : kn = ks.length := by
    obtain ⟨⟨h1, ⟨h2, h3⟩ | ⟨g, cap, cur, h2, _⟩⟩, _, _⟩ := hkm
    · injection h2 with _ h4 _
      rw [h4, h3]
    · injection h2
  subst hkn
  have hlo := fun W => lowerS_any nm W hnm
  obtain ⟨ln, hln⟩ : ∃ x, bst (lowL nm.data.toList) = x := ⟨_, rfl⟩
  rw [hln] at hlo
  have HLO := Lib.hid hlo
  have HLN := Lib.hid hln
  have HFIN := Lib.hid hfin
  have HKM := Lib.hid hkm
  have HALL := Lib.hid hall
  have HSZ := Lib.hid hsz
  have HD := Lib.hid hD
  obtain ⟨eb, heb⟩ : ∃ eb, w.heap.size = eb := ⟨_, rfl⟩
  obtain ⟨rb, hrb⟩ : ∃ rb, eb + 1 = rb := ⟨_, rfl⟩
  have hb0 : Below w.heap.size w ((w.alloc (.cells #[.string en, .slice ap an ac, .string tx, .slice kp ks.length kc] 25)).alloc (.cells #[.string ⟨#[]⟩, .slice none 0 0, .string ⟨#[]⟩, .slice none 0 0] 25)) := ((Below.refl _ _).alloc (Nat.le_refl _) _).alloc (by simp) _
  have hk0 : Blk ((w.alloc (.cells #[.string en, .slice ap an ac, .string tx, .slice kp ks.length kc] 25)).alloc (.cells #[.string ⟨#[]⟩, .slice none 0 0, .string ⟨#[]⟩, .slice none 0 0] 25)) eb 25 #[.string en, .slice ap an ac, .string tx, .slice kp ks.length kc] := by rw [← heb]; exact (Blk.new w 25 _).alloc _
  have hk1 : Blk ((w.alloc (.cells #[.string en, .slice ap an ac, .string tx, .slice kp ks.length kc] 25)).alloc (.cells #[.string ⟨#[]⟩, .slice none 0 0, .string ⟨#[]⟩, .slice none 0 0] 25)) rb 25 #[.string ⟨#[]⟩, .slice none 0 0, .string ⟨#[]⟩, .slice none 0 0] := by
    have := Blk.new (w.alloc (.cells #[.string en, .slice ap an ac, .string tx, .slice kp ks.length kc] 25)) 25 #[.string ⟨#[]⟩, .slice none 0 0, .string ⟨#[]⟩, .slice none 0 0]
    simpa [← hrb, ← heb] using this
  obtain ⟨W, hW⟩ : ∃ W, (w.alloc (.cells #[.string en, .slice ap an ac, .string tx, .slice kp ks.length kc] 25)).alloc (.cells #[.string ⟨#[]⟩, .slice none 0 0, .string ⟨#[]⟩, .slice none 0 0] 25) = W := ⟨_, rfl⟩
  rw [hW] at hb0 hk0 hk1
  have hbr : w.heap.size ≤ eb ∧ w.heap.size ≤ rb ∧ rb ≠ eb := by omega
  have HB0 := Lib.hid hb0
  have HK0 := Lib.hid hk0
  have HK1 := Lib.hid hk1
  have HW := Lib.hid hW
  clear hpost hfin hks hkm hall hsz hel hb0 hk0 hk1 hW hen htx hlo hln hD
  go_enter Tryz.func18, Tryz.ntmps18
  go_wp2_with fail
  rw [show (w.alloc (.cells #[.string en, .slice ap an ac, .string tx, .slice kp ks.length kc] 25)).alloc (.cells #[.string ⟨#[]⟩, .slice none 0 0, .string ⟨#[]⟩, .slice none 0 0] 25) = W from HW.out]
  try rw [heb]
  try rw [hrb]
  go_loopg [6] ks.length (fun g kv wr => ∃ (k : Nat), g = ks.length - k ∧ k ≤ ks.length ∧ kv = .int .i64 k ∧ Below w.heap.size w wr ∧
    Blk wr eb 25 #[.string en, .slice ap an ac, .string tx, .slice kp ks.length kc] ∧ Blk wr rb 25 #[.string ⟨#[]⟩, .slice none 0 0, .string ⟨#[]⟩, .slice none 0 0] ∧ Hid (firstOf ((ks.drop k).map (·.1)) nm.data.toList = all))
  case atStart => exact ⟨0, rfl, Nat.zero_le _, rfl, HB0.out, HK0.out, HK1.out, Lib.hid (by rw [List.drop_zero]; exact HALL.out)⟩
  case round =>
    obtain ⟨k, hg, hk, rfl, hbe, hkb, hkr, HN⟩ := hrel
    have HG := Lib.hid hg
    have HBE := Lib.hid hbe
    have HKB := Lib.hid hkb
    have HKR := Lib.hid hkr
    have c3 := hkb.cell 3
    clear hg hbe hkb hkr
    by_cases hkl : k < ks.length
    · have hd : decide ((k : Int) < (ks.length : Int)) = true := by rw [decide_eq_true_eq]; omega
      obtain ⟨g, c, hgv, hgl, hkel, hg0, hg1, hg2, hg3⟩ := kid_cells HKM.out k hkl
      injection hgv with hgv1 hgv2 hgv3
      subst hgv1
      subst hgv3
      clear hgv2
      have nn : (0 : Int) ≤ (k : Int) := Int.natCast_nonneg _
      have hcell : ∀ W, Below w.heap.size w W → ∀ j v, w.cell? ⟨g, j, none⟩ = some v → W.cell? ⟨g, j, none⟩ = some v := fun W hb j v hv => by rw [World.cell?, hb.block _ hgl]; exact hv
      have g0 := hcell wr HBE.out _ _ hg0
      have hnsz := HSZ.out (ks[k]).1 (List.mem_map.2 ⟨ks[k], List.getElem_mem hkl, rfl⟩)
      have hdrop : (ks.drop k).map (·.1) = (ks[k]).1 :: (ks.drop (k + 1)).map (·.1) := by rw [List.drop_eq_getElem_cons hkl]; rfl
      obtain ⟨q, hq⟩ : ∃ q, ks[k] = q := ⟨_, rfl⟩
      rw [hq] at g0 hnsz hdrop hg0 hg1 hg2 hg3 hkel
      obtain ⟨qe, qa, qk⟩ := q
      dsimp only at g0 hnsz hdrop hg0 hg1 hg2 hg3 hkel
      obtain ⟨⟨qap, qan, qac, rfl⟩, ⟨qkp, qkn, qkc, rfl⟩⟩ := hkel.slices
      obtain ⟨x, hx⟩ : ∃ x, bst qe.name = x := ⟨_, rfl⟩
      rw [hx] at g0
      have HDR := Lib.hid hdrop
      have HXX := Lib.hid hx
      have HCELL := Lib.hid hcell
      have HG0 := Lib.hid hg0
      have HG1 := Lib.hid hg1
      have HG2 := Lib.hid hg2
      have HG3 := Lib.hid hg3
      have HKEL := Lib.hid hkel
      clear hdrop hq hx hcell hg0 hg1 hg2 hg3 hkel
      by_cases hq0 : notEl qe = true
      · have HN2 : Hid (firstOf ((ks.drop (k + 1)).map (·.1)) nm.data.toList = all) := Lib.hid (by
          have := HN.out
          rw [HDR.out, firstOf_skip hq0] at this
          exact this)
        unfold notEl at hq0
        rw [Bool.or_eq_true, beq_iff_eq, beq_iff_eq] at hq0
        rcases hq0 with hq0 | hq0
        · have e1 : x.toList.isEmpty = true := by rw [← HXX.out, hq0, Lib.toList_data]; rfl
          have e2 : (x.toList != []) = false := by rw [← HXX.out, hq0, Lib.toList_data]; rfl
          clear hq0
          go_wp2_with fail
          go_roundg (ks.length - (k + 1))
          case rel => exact ⟨k + 1, rfl, by omega, rfl, HBE.out, HKB.out, HKR.out, HN2⟩
          case measure => have := HG.out; omega
        · have e1 : x.toList.isEmpty = false := by rw [← HXX.out, hq0, Lib.toList_data]; rfl
          have e2 : (x.toList != []) = true := by rw [← HXX.out, hq0, Lib.toList_data]; rfl
          have e3 : (x.toList == [33]) = true := by rw [← HXX.out, hq0, Lib.toList_data]; rfl
          have e4 : (x.toList != [33]) = false := by rw [bne, e3]; rfl
          clear hq0
          go_wp2_with fail
          go_roundg (ks.length - (k + 1))
          case rel => exact ⟨k + 1, rfl, by omega, rfl, HBE.out, HKB.out, HKR.out, HN2⟩
          case measure => have := HG.out; omega
      · have hq1 : notEl qe = false := by simpa using hq0
        have HQ1 := Lib.hid hq1
        unfold notEl at hq1
        rw [Bool.or_eq_false_iff, beq_eq_false_iff_ne, beq_eq_false_iff_ne] at hq1
        have hxd : x.toList = qe.name := by rw [← HXX.out, Lib.toList_data, bst_toList]
        have e1 : x.toList.isEmpty = false := by rw [hxd, List.isEmpty_eq_false_iff]; exact hq1.1
        have e2 : (x.toList != []) = true := by rw [hxd, bne_iff_ne]; exact hq1.1
        have e3 : (x.toList == [33]) = false := by rw [hxd, beq_eq_false_iff_ne]; exact hq1.2
        have e4 : (x.toList != [33]) = true := by rw [bne, e3]; rfl
        obtain ⟨lo2, hlo2⟩ : ∃ y, bst (halvesL qe.name).2 = y := ⟨_, rfl⟩
        obtain ⟨lo1, hlo1⟩ : ∃ y, bst (halvesL qe.name).1 = y := ⟨_, rfl⟩
        have hh := halves_any x wr (by rw [← HXX.out, bst_size]; omega)
        rw [show x.data.toList = qe.name by rw [← hxd, Lib.toList_data], hlo1, hlo2] at hh
        have HH := Lib.hid hh
        have hl2 := fun W => lowerS_any lo2 W (by rw [← hlo2, bst_size]; have := halves_le qe.name; omega)
        obtain ⟨l2, hl2e⟩ : ∃ y, bst (lowL lo2.data.toList) = y := ⟨_, rfl⟩
        rw [hl2e] at hl2
        have HL2 := Lib.hid hl2
        have hcmp : (l2.toList == ln.toList) = isNamed nm.data.toList qe := by
          unfold isNamed
          rw [← hl2e, ← HLN.out, Lib.toList_data, Lib.toList_data, bst_toList, bst_toList, ← hlo2, bst_toList]
        have HCMP := Lib.hid hcmp
        clear hq0 hq1 hxd hh hlo1 hlo2 hl2 hl2e hcmp
        go_wp2_with fail
        refine HH.out.mono ?_
        rintro e w5 ⟨rfl, dn, rfl⟩
        clear HH g0 e1 e2 e3 e4 c3
        go_wp2_with fail
        refine (HL2.out (wr.drewN dn)).mono ?_
        rintro e w6 ⟨rfl, hb6⟩
        have hb6' : Below wr.heap.size wr w6 := (⟨rfl, rfl, rfl, Nat.le_refl _, fun _ _ => rfl⟩ : Below wr.heap.size wr (wr.drewN dn)).trans hb6
        have HB6 := Lib.hid hb6'
        clear hb6 hb6'
        go_wp2_with fail
        refine (HLO.out w6).mono ?_
        rintro e w7 ⟨rfl, hb7⟩
        have hbw : Below w.heap.size w w7 := HBE.out.trans ((HB6.out.trans (hb7.mono HB6.out.size)).mono HBE.out.size)
        have hold : ∀ b, b < wr.heap.size → w7.heap[b]? = wr.heap[b]? := fun b hb => (hb7.block _ (Nat.lt_of_lt_of_le hb HB6.out.size)).trans (HB6.out.block _ hb)
        have hke : Blk w7 eb 25 #[.string en, .slice ap an ac, .string tx, .slice (some ⟨g, 0, none⟩) ks.length kc] := (hold _ HKB.out.lt).trans HKB.out
        have hkr : Blk w7 rb 25 #[.string ⟨#[]⟩, .slice none 0 0, .string ⟨#[]⟩, .slice none 0 0] := (hold _ HKR.out.lt).trans HKR.out
        have HBW := Lib.hid hbw
        have HKE := Lib.hid hke
        have HKR2 := Lib.hid hkr
        clear hb7 hbw hold hke hkr HB6 HKB HKR
        by_cases hnmd : isNamed nm.data.toList qe = true
        · have e5 : (l2.toList == ln.toList) = true := by rw [HCMP.out, hnmd]
          have g0 := HCELL.out w7 HBW.out _ _ HG0.out
          have g1 := HCELL.out w7 HBW.out _ _ HG1.out
          have g2 := HCELL.out w7 HBW.out _ _ HG2.out
          have g3 := HCELL.out w7 HBW.out _ _ HG3.out
          have c3 := HKE.out.cell 3
          have r0 := HKR2.out.cell 0
          have r1 := HKR2.out.cell 1
          have r2 := HKR2.out.cell 2
          have r3 := HKR2.out.cell 3
          have rf := HKR2.out.frozen
          have hall2 : firstVal all = (qe, true) := by
            have := HN.out
            rw [HDR.out, firstOf_yes HQ1.out hnmd] at this
            rw [← this]
            rfl
          have HF2 := HFIN.out qe (.slice qap qan qac) (.slice qkp qkn qkc) true
          obtain ⟨y0, hy0⟩ : ∃ y, bst qe.name = y := ⟨_, rfl⟩
          obtain ⟨y2, hy2⟩ : ∃ y, bst qe.text = y := ⟨_, rfl⟩
          rw [hy0, hy2] at HF2
          rw [hy0] at g0
          rw [hy2] at g2
          have HF3 := Lib.hid (HF2 · hall2)
          clear hnmd hall2 HF2 hy0 hy2
          go_wp2_with fail
          have z0 := (HKR2.out.set 0 (.string y0)).cell 0
          have z1 := ((HKR2.out.set 0 (.string y0)).set 1 (.slice qap qan qac)).cell 1
          have z2 := (((HKR2.out.set 0 (.string y0)).set 1 (.slice qap qan qac)).set 2 (.string y2)).cell 2
          have z3 := ((((HKR2.out.set 0 (.string y0)).set 1 (.slice qap qan qac)).set 2 (.string y2)).set 3 (.slice qkp qkn qkc)).cell 3
          have hs5 : Fr (fun x => x = rb) w7 ((((w7.setCell ⟨rb, 0, none⟩ (.string y0)).setCell ⟨rb, 1, none⟩ (.slice qap qan qac)).setCell ⟨rb, 2, none⟩ (.string y2)).setCell ⟨rb, 3, none⟩ (.slice qkp qkn qkc)) := ((((Fr.refl (fun x => x = rb) w7).setCell (p := ⟨rb, 0, none⟩) rfl _).setCell (p := ⟨rb, 1, none⟩) rfl _).setCell (p := ⟨rb, 2, none⟩) rfl _).setCell (p := ⟨rb, 3, none⟩) rfl _
          have hbf := HBW.out.trans (hs5.toBelow (B := w.heap.size) fun x hx => by rw [hx]; omega)
          have hfi := HF3.out _ (HKEL.out.fr (Fr.below hbf (Nat.le_refl _) (fun _ h => h) : Fr (fun x => w.heap.size ≤ x) w _) (fun x hx => Nat.not_le.2 (HD.out x hx))) hbf
          exact bodyPost_ret (v := .tuple #[.agg #[.string y0, .slice qap qan qac, .string y2, .slice qkp qkn qkc], .bool true]) (by simp [results, Tryz.results18, go_sem, z0, z1, z2, z3]) rfl hfi
        · have hnm0 : isNamed nm.data.toList qe = false := by simpa using hnmd
          have e5 : (l2.toList == ln.toList) = false := by rw [HCMP.out, hnm0]
          have HN2 : Hid (firstOf ((ks.drop (k + 1)).map (·.1)) nm.data.toList = all) := Lib.hid (by
            have := HN.out
            rw [HDR.out, firstOf_no HQ1.out hnm0] at this
            exact this)
          clear hnmd hnm0
          go_wp2_with fail
          go_roundg (ks.length - (k + 1))
          case rel => exact ⟨k + 1, rfl, by omega, rfl, HBW.out, HKE.out, HKR2.out, HN2⟩
          case measure => have := HG.out; omega
    · have hd : decide ((k : Int) < (ks.length : Int)) = false := by rw [decide_eq_false_iff_not]; omega
      have hall2 : firstVal all = (.mk [] [] [] [], false) := by
        have := HN.out
        rw [List.drop_of_length_le (by omega)] at this
        rw [← this]
        rfl
      have HF2 := HFIN.out (.mk [] [] [] []) (.slice none 0 0) (.slice none 0 0) false
      have hx0 : bst (XEl.mk [] [] [] []).name = ⟨#[]⟩ := rfl
      have hx2 : bst (XEl.mk [] [] [] []).text = ⟨#[]⟩ := rfl
      rw [hx0, hx2] at HF2
      have HF3 := Lib.hid (HF2 · hall2)
      have r0 := HKR.out.cell 0
      have r1 := HKR.out.cell 1
      have r2 := HKR.out.cell 2
      have r3 := HKR.out.cell 3
      have rf := HKR.out.frozen
      clear hall2 HF2 hx0 hx2
      go_wp2_with fail
      have z0 := (HKR.out.set 0 (.string ⟨#[]⟩)).cell 0
      have z1 := ((HKR.out.set 0 (.string ⟨#[]⟩)).set 1 (.slice none 0 0)).cell 1
      have z2 := (((HKR.out.set 0 (.string ⟨#[]⟩)).set 1 (.slice none 0 0)).set 2 (.string ⟨#[]⟩)).cell 2
      have z3 := ((((HKR.out.set 0 (.string ⟨#[]⟩)).set 1 (.slice none 0 0)).set 2 (.string ⟨#[]⟩)).set 3 (.slice none 0 0)).cell 3
      have hs5 : Fr (fun x => x = rb) wr ((((wr.setCell ⟨rb, 0, none⟩ (.string ⟨#[]⟩)).setCell ⟨rb, 1, none⟩ (.slice none 0 0)).setCell ⟨rb, 2, none⟩ (.string ⟨#[]⟩)).setCell ⟨rb, 3, none⟩ (.slice none 0 0)) := ((((Fr.refl (fun x => x = rb) wr).setCell (p := ⟨rb, 0, none⟩) rfl _).setCell (p := ⟨rb, 1, none⟩) rfl _).setCell (p := ⟨rb, 2, none⟩) rfl _).setCell (p := ⟨rb, 3, none⟩) rfl _
      have hbf := HBE.out.trans (hs5.toBelow (B := w.heap.size) fun x hx => by rw [hx]; omega)
      have hfi := HF3.out _ (ElM.zero _ _) hbf
      exact bodyPost_ret (v := .tuple #[.agg #[.string ⟨#[]⟩, .slice none 0 0, .string ⟨#[]⟩, .slice none 0 0], .bool false]) (by simp [results, Tryz.results18, go_sem, z0, z1, z2, z3]) rfl hfi
end Go.Proofs.YtlljphipglgjiaaGreatDoor

namespace Go.Proofs.YtlljphipglgjiaaGreatDoor
open Go.RowKit Go.Lib

theorem row_slice {w : World} {v : Value} {names : List ByteArray} (h : w.ownsRow 0 9 1 v names.length (names.map Value.string)) :
    ∃ (ap : Option Addr) (c : Nat), v = .slice ap names.length c ∧ ∀ k (hk : k < names.length), ∃ g, ap = some ⟨g, 0, none⟩ ∧ w.cell? ⟨g, k, none⟩ = some (.string names[k]) ∧ g < w.heap.size := by
  obtain ⟨h1, ⟨rfl, h2⟩ | ⟨g, cap, cur, rfl, _, hg, hl, hm, hsz, ht⟩⟩ := h
  · exact ⟨none, 0, by rw [h2], fun k hk => by omega⟩
  · refine ⟨_, cap, rfl, fun k hk => ?_⟩
    have hc : w.cell? ⟨g, k, none⟩ = some (.string names[k]) := by
      rw [cell_of_row w g _ cur 9 (0, 0) hg, ← Array.getElem?_toList]
      have : (cur.toList.take (names.length * 1))[k]? = (names.map Value.string)[k]? := by rw [ht]
      rw [List.getElem?_take_of_lt (by omega)] at this
      rw [this, List.getElem?_map, List.getElem?_eq_getElem hk]
      rfl
    exact ⟨g, rfl, hc, World.block_lt_of_cell? w _ hc⟩
theorem owns_below {w w' : World} {v : Value} {n : Nat} {xs : List Value} (h : w.ownsRow 0 9 1 v n xs) (hb : Below w.heap.size w w') : w'.ownsRow 0 9 1 v n xs :=
  owns_fr h (Fr.below hb (Nat.le_refl _) (fun _ h => h) : Fr (fun x => w.heap.size ≤ x) w w') fun g hg => Nat.not_le.2 (h.lt g hg).2

/-- A root's name ends in its local part, alone or behind a colon. -/
theorem root_name {nm : List UInt8} (h : GoodN nm) : (bst (halvesL nm).2).size ≤ (bst nm).size ∧ (bst nm).extract ((bst nm).size - (bst (halvesL nm).2).size) (bst nm).size = bst (halvesL nm).2 ∧
    ((bst (halvesL nm).2).size = (bst nm).size ∨ ((bst (halvesL nm).2).size < (bst nm).size ∧ ∀ h : (bst nm).size - (bst (halvesL nm).2).size - 1 < (bst nm).size, (bst nm)[(bst nm).size - (bst (halvesL nm).2).size - 1] = 58)) := by
  have hq := h.q
  obtain ⟨lo, hlo⟩ : ∃ lo, (halvesL nm).2 = lo := ⟨_, rfl⟩
  obtain ⟨sp, hsp⟩ : ∃ sp, (halvesL nm).1 = sp := ⟨_, rfl⟩
  rw [hlo, hsp] at hq
  rw [hlo]
  rcases hq with ⟨_, rfl, _⟩ | ⟨_, _, rfl, _, _⟩
  · refine ⟨Nat.le_refl _, ?_, .inl rfl⟩
    rw [Nat.sub_self]
    exact ByteArray.extract_zero_size
  · have hs1 : (bst (sp ++ 58 :: lo)).size = sp.length + 1 + lo.length := by rw [bst_size]; simp; omega
    have hs2 : (bst lo).size = lo.length := bst_size lo
    refine ⟨by omega, ba_ext ?_, .inr ⟨by omega, fun hlt => ?_⟩⟩
    · rw [ext_list, bst_toList]
      rw [hs1, hs2, bst_toList, show sp.length + 1 + lo.length - lo.length = (sp ++ [58]).length by simp, show sp ++ 58 :: lo = (sp ++ [58]) ++ lo by simp, List.drop_left' rfl, List.take_of_length_le (by simp)]
    · have e : (bst (sp ++ 58 :: lo)).size - (bst lo).size - 1 = sp.length := by omega
      have h4 : (bst (sp ++ 58 :: lo)).data.toList[(bst (sp ++ 58 :: lo)).size - (bst lo).size - 1]? = some 58 := by
        rw [e, bst_toList, List.getElem?_append_right (Nat.le_refl _), Nat.sub_self]
        rfl
      rw [List.getElem?_eq_getElem (by rw [list_size]; exact hlt)] at h4
      exact Option.some.inj h4
theorem cont_names {l nm : List UInt8} {ks : List XEl} {r : List UInt8} (h : Cont l nm ks r) : r.length < l.length ∧ (∀ k ∈ ks, k.name.length ≤ l.length + 1) ∧ ks.length ≤ l.length := by
  induction h with
  | done nm b r _ _ => exact ⟨by simp; omega, (fun k hk => by cases hk), by simp⟩
  | text c l nm v t ks r hc htp hg hv _ ih =>
    obtain ⟨a, ha⟩ := txp_suffix htp
    have hne : a ≠ [] := by
      rintro rfl
      rw [List.nil_append] at ha
      injection ha with e1
      exact hc e1
    have hlt := List.length_pos_iff.2 hne
    have hl := congrArg List.length ha
    rw [List.length_append] at hl
    obtain ⟨i1, i2, i3⟩ := ih
    refine ⟨by omega, fun k hk => ?_, by rw [List.length_cons]; omega⟩
    rcases List.mem_cons.1 hk with rfl | hk
    · exact Nat.zero_le _
    · have := i2 k hk; omega
  | com c t nm ks r hc _ ih =>
    obtain ⟨i1, i2, i3⟩ := ih
    simp only [List.length_cons, List.length_append]
    refine ⟨by omega, fun k hk => ?_, by omega⟩
    rcases List.mem_cons.1 hk with rfl | hk
    · show 1 ≤ _; omega
    · have := i2 k hk; omega
  | empty n2 t nm t2 av ks r hN hA _ ih =>
    obtain ⟨a, rfl, hal⟩ := attrs_suffix hA
    obtain ⟨i1, i2, i3⟩ := ih
    simp only [List.length_cons, List.length_append]
    refine ⟨by omega, fun k hk => ?_, by omega⟩
    rcases List.mem_cons.1 hk with rfl | hk
    · show n2.length ≤ _; omega
    · have := i2 k hk; omega
  | elem n2 t nm t2 t3 av k2 ks r hN hA _ _ ih1 ih2 =>
    obtain ⟨a, rfl, hal⟩ := attrs_suffix hA
    obtain ⟨i1, i2, i3⟩ := ih1
    obtain ⟨j1, j2, j3⟩ := ih2
    simp only [List.length_cons, List.length_append]
    refine ⟨by omega, fun k hk => ?_, by omega⟩
    rcases List.mem_cons.1 hk with rfl | hk
    · show n2.length ≤ _; omega
    · have := j2 k hk; omega
theorem prol_len {l t : List UInt8} (h : Prol l t) : t.length ≤ l.length := by
  induction h with
  | here t => simp
  | text c l v t r hc htp _ _ _ ih =>
    obtain ⟨a, ha⟩ := txp_suffix htp
    have hl := congrArg List.length ha
    rw [List.length_append] at hl
    omega
  | com c t r _ _ ih => simp only [List.length_cons, List.length_append]; omega
theorem doc_small {s : ByteArray} {nm : List UInt8} {av : List AttrS} {ks : List XEl} {rest : List UInt8} (h : DocOk s nm av ks rest) (hs : s.size ≤ 1000000) : GoodN nm ∧ nm.length ≤ 1000000 ∧ (∀ k ∈ ks, k.name.length ≤ 2000000) ∧ ks.length ≤ 2000000 := by
  obtain ⟨t, t2, r1, em, ⟨_, hR⟩, rfl, hN, hA, hk⟩ := h
  have ht : (nm ++ t2).length ≤ 1000000 := by
    rw [List.drop_zero] at hR
    rcases hR with ⟨l2, h1, h2⟩ | h2
    · have := prol_len h2
      have h3 := congrArg List.length h1
      rw [list_size, List.length_append] at h3
      omega
    · have := prol_len h2
      rw [list_size] at this
      omega
  rw [List.length_append] at ht
  refine ⟨hN, by omega, ?_⟩
  rcases hk with ⟨_, rfl, _⟩ | ⟨_, hC⟩
  · exact ⟨fun k hk => (by cases hk), Nat.zero_le _⟩
  · obtain ⟨a, ha, _⟩ := attrs_suffix hA
    have h3 := congrArg List.length ha
    rw [List.length_append] at h3
    obtain ⟨_, i2, i3⟩ := cont_names hC
    exact ⟨fun k hk => by have := i2 k hk; omega, by omega⟩
end Go.Proofs.YtlljphipglgjiaaGreatDoor

namespace Go.Proofs.YtlljphipglgjiaaGreatDoor
open Go.RowKit Go.Lib

/-- The decoder and blocks known beside it; since w only M and m have turned. -/
structure GSt (M : Nat → Prop) (w wr : World) (P m : Nat) (s : ByteArray) (i : Nat) (owe : Option (ByteArray × ByteArray)) (fr : List Fram) (F : NsF) (X : Known) : Prop where
  dec : DecV M wr P m s i owe fr F
  env : Env M m wr
  ok : KnownD X wr
  fr : Fr (fun y => M y ∨ y = m) w wr
section
variable {M : Nat → Prop} {w wr w2 : World} {P m : Nat} {s : ByteArray} {i j : Nat} {owe owe2 : Option (ByteArray × ByteArray)} {fr fr2 : List Fram} {F F2 : NsF} {X : Known}
theorem GSt.decS (h : GSt M w wr P m s i owe fr F X) : DecV (Sans M (X.map (·.1))) wr P m s i owe fr F := DecW.sans h.dec h.ok
theorem GSt.envS (h : GSt M w wr P m s i owe fr F X) : Env (Sans M (X.map (·.1))) m wr := h.env.sans _
theorem GSt.mne (h : GSt M w wr P m s i owe fr F X) : ∀ x ∈ X.map (·.1), m ≠ x := by
  intro x hx
  obtain ⟨L, f, bs, st, fl, n, _, _, _, _, _, hns, _⟩ := h.dec
  obtain ⟨y, hy, rfl⟩ := List.mem_map.1 hx
  exact hns.not_blk (h.ok y hy).1
/-- Behind a callee that works on the decoder. -/
theorem GSt.after (h : GSt M w wr P m s i owe fr F X) (h2 : DecV (Sans M (X.map (·.1))) w2 P m s j owe2 fr2 F2) (hf : Fr (fun y => Sans M (X.map (·.1)) y ∨ y = m) wr w2) : GSt M w w2 P m s j owe2 fr2 F2 X := by
  have hf2 : Fr (fun y => M y ∨ y = m) wr w2 := hf.mono fun y hy => by rcases hy with hy | hy; exact .inl hy.1; exact .inr hy
  exact ⟨DecW.wide h2 (fun k hk => hk.1) (DecW.notM h.dec), h.env.fr hf2, h.ok.fr hf (fun x hx e => by
    rcases e with e | e
    · exact e.2 hx
    · exact h.mne x hx e.symm), h.fr.trans hf2⟩
theorem GSt.wid (h : GSt M w wr P m s i owe fr F X) (hb : Below wr.heap.size wr w2) : GSt M w w2 P m s i owe fr F X := by
  have hf : Fr (fun x => wr.heap.size ≤ x) wr w2 := Fr.below hb (Nat.le_refl _) fun _ h => h
  have hf2 : Fr (fun y => M y ∨ y = m) wr w2 := hf.mono fun y hy => .inl (DecW.new h.dec y hy)
  exact ⟨DecW.below h.dec hb, h.env.fr hf2, h.ok.fr hf (fun x hx => Nat.not_le.2 (by
    obtain ⟨y, hy, rfl⟩ := List.mem_map.1 hx
    exact (h.ok y hy).1.lt)), h.fr.trans hf2⟩
theorem GSt.push (h : GSt M w wr P m s i owe fr F X) (T : TypeId) (cs : Array Value) (hT : T ≠ 197 ∧ T ≠ 190 ∧ T ≠ 5 ∧ T ≠ 200) : GSt M w (wr.alloc (.cells cs T)) P m s i owe fr F ((wr.heap.size, T, cs) :: X) := by
  have h2 := h.wid ((Below.refl wr.heap.size wr).alloc (Nat.le_refl _) (.cells cs T))
  refine ⟨h2.dec, h2.env, fun x hx => ?_, h2.fr⟩
  rcases List.mem_cons.1 hx with rfl | hx
  · exact ⟨Blk.new wr T cs, hT⟩
  · exact h2.ok x hx
theorem GSt.tail {x : Nat × TypeId × Array Value} (h : GSt M w wr P m s i owe fr F (x :: X)) : GSt M w wr P m s i owe fr F X := ⟨h.dec, h.env, fun y hy => h.ok y (by simp [hy]), h.fr⟩
/-- The head block gets a cell. -/
theorem GSt.set {b : Nat} {T : TypeId} {cs : Array Value} (h : GSt M w wr P m s i owe fr F ((b, T, cs) :: X)) (hb : b ∉ X.map (·.1)) (hM : M b) (k : Nat) (u : Value) : GSt M w (wr.setCell ⟨b, k, none⟩ u) P m s i owe fr F ((b, T, cs.setIfInBounds k u) :: X) := by
  have hf : Fr (fun x => x = b) wr (wr.setCell ⟨b, k, none⟩ u) := (Fr.refl (fun x => x = b) wr).setCell (p := ⟨b, k, none⟩) rfl u
  have hf2 : Fr (fun y => M y ∨ y = m) wr (wr.setCell ⟨b, k, none⟩ u) := hf.mono fun x hx => .inl (hx ▸ hM)
  have hmb := h.mne b (by simp)
  refine ⟨DecW.wide (DecW.other h.decS hf fun x hx _ e => ?_) (fun k hk => hk.1) (DecW.notM h.dec), h.env.fr hf2, fun x hx => ?_, h.fr.trans hf2⟩
  · rcases hx with hx | hx
    · exact hx.2 (by simp [e])
    · exact hmb (hx.symm.trans e)
  · rcases List.mem_cons.1 hx with rfl | hx
    · exact ⟨(h.ok (b, T, cs) (by simp)).1.set k u, (h.ok (b, T, cs) (by simp)).2⟩
    · exact ⟨(h.ok x (by simp [hx])).1.fr hf fun e => hb (List.mem_map.2 ⟨x, hx, e⟩), (h.ok x (by simp [hx])).2⟩
theorem GSt.drew (h : GSt M w wr P m s i owe fr F X) : GSt M w wr.drew P m s i owe fr F X := h.wid ⟨rfl, rfl, rfl, Nat.le_refl _, fun _ _ => rfl⟩
end

set_option maxRecDepth 100000 in
/-- errors.New. -/
theorem errNew_any (c : ByteArray) (w : World) : Calls Tryz.prog 73 #[.string c] w fun e w' => ∃ p, e = .returned (.iface 211 p) ∧ Below w.heap.size w w' := by
  go_enter Tryz.func73, Tryz.ntmps73
  go_wp2_with fail
  go_ret
  exact ⟨_, rfl, (Below.refl w.heap.size w).alloc (Nat.le_refl _) _⟩

theorem nameB_ascii {c : UInt8} (h : nameB c = true) : c.toNat < 128 := by
  unfold nameB at h
  simp only [Bool.or_eq_true, Bool.and_eq_true, decide_eq_true_eq, beq_iff_eq] at h
  omega
theorem local_ascii {nm : List UInt8} (h : GoodN nm) : ∀ b ∈ (halvesL nm).2, b.toNat < 128 := by
  intro b hb
  refine nameB_ascii (h.all b ?_)
  unfold halvesL at hb
  split at hb
  · exact List.mem_of_mem_drop hb
  · exact hb
theorem bst_ascii {l : List UInt8} (h : ∀ b ∈ l, b.toNat < 128) : ∀ k (hk : k < (bst l).size), (bst l)[k].toNat < 128 := by
  intro k hk
  refine h _ ?_
  have e : (bst l).data.toList = l := bst_toList l
  have : (bst l)[k] ∈ (bst l).data.toList := by
    rw [show (bst l)[k] = (bst l).data.toList[k]'(by rw [list_size]; exact hk) from rfl]
    exact List.getElem_mem _
  rw [e] at this
  exact this

theorem inside_names {s : ByteArray} {i : Nat} {owe : Option (ByteArray × ByteArray)} {nm : List UInt8} {ks : List XEl} {rest : List UInt8} (h : Inside s i owe nm ks rest) : ∀ k ∈ ks, k.name.length ≤ s.size + 1 := by
  obtain ⟨hi, ⟨_, rfl, _⟩ | ⟨_, hC⟩⟩ := h
  · intro k hk
    cases hk
  · intro k hk
    have h1 := (cont_names hC).2.1 k hk
    rw [List.length_drop, list_size] at h1
    omega
/-- A result cell that is still nothing. -/
theorem rz_full {w : World} {rb : Nat} (h : Blk w rb 62 #[.string ⟨#[]⟩, .string ⟨#[]⟩, .slice none 0 0]) : Blk w rb 62 #[.string ⟨#[]⟩, .string ⟨#[]⟩, .slice none 0 0] ∧ w.cell? ⟨rb, 0, none⟩ = some (.string ⟨#[]⟩) ∧ w.cell? ⟨rb, 1, none⟩ = some (.string ⟨#[]⟩) ∧ w.cell? ⟨rb, 2, none⟩ = some (.slice none 0 0) ∧ w.frozen? ⟨rb, 0, none⟩ = false ∧ w.frozen? ⟨rb, 1, none⟩ = false ∧ w.frozen? ⟨rb, 2, none⟩ = false :=
  ⟨h, h.cell 0, h.cell 1, h.cell 2, h.frozen 0, h.frozen 1, h.frozen 2⟩
theorem rz_store {w : World} {rb : Nat} (h : Blk w rb 62 #[.string ⟨#[]⟩, .string ⟨#[]⟩, .slice none 0 0]) : Blk (((w.setCell ⟨rb, 0, none⟩ (.string ⟨#[]⟩)).setCell ⟨rb, 1, none⟩ (.string ⟨#[]⟩)).setCell ⟨rb, 2, none⟩ (.slice none 0 0)) rb 62 #[.string ⟨#[]⟩, .string ⟨#[]⟩, .slice none 0 0] :=
  (((h.set 0 _).set 1 _).set 2 _).eq rfl

/-- What GetElement hands back. -/
inductive GetEnd (M : Nat → Prop) (w : World) (P m : Nat) (s : ByteArray) : Option XEl → Ending → World → Prop
  | found (w' : World) (j : Nat) (n2 : List UInt8) (av : List AttrS) (k2 : List XEl) (rest2 : List UInt8) (owe : Option (ByteArray × ByteArray)) (frs : List Fram) (F F0 : NsF) (a : Option Addr) (n c : Nat) : GoodN n2 → Inside s j owe n2 k2 rest2 → DecV M w' P m s j owe (frOf n2 F0 :: frs) F → Fr (fun y => M y ∨ y = m) w w' →
      GetEnd M w P m s (some (.mk n2 av [] k2)) (.returned (.tuple #[.agg #[.string (xlate F true (bst (halvesL n2).1) (bst (halvesL n2).2)), .string (bst (halvesL n2).2), .slice a n c], .nilIface])) w'
  | no (w' : World) (p : Value) : Fr (fun y => M y ∨ y = m) w w' → GetEnd M w P m s none (.returned (.tuple #[.agg #[.string ⟨#[]⟩, .string ⟨#[]⟩, .slice none 0 0], .iface 211 p])) w'

set_option maxRecDepth 100000 in
set_option maxHeartbeats 8000000 in
theorem get_any {M : Nat → Prop} {P m : Nat} {s : ByteArray} {fr : List Fram} {F F0 : NsF} {rest nm : List UInt8} {i : Nat} {owe : Option (ByteArray × ByteArray)} {ks : List XEl} (w : World) (X lo name : ByteArray) (a : Option Addr) (n c : Nat) (htx : TextAll s) (h : DecV M w P m s i owe (frOf nm F0 :: fr) F) (hI : Inside s i owe nm ks rest) (hE : Env M m w)
    (hX : X = xlate F true (bst (halvesL nm).1) (bst (halvesL nm).2)) (hlo : lo = bst (halvesL nm).2) (hn : name.size ≤ 2147483647) (hna : ∀ k (hk : k < name.size), name[k].toNat < 128) :
    Calls Tryz.prog 38 #[.agg #[.pointer (some ⟨P, 0, none⟩), .string X, .string lo, .slice a n c], .string name] w (GetEnd M w P m s ((elemsOf ks).find? (isNamed name.data.toList))) := by
  have hss := DecW.size h
  obtain ⟨E, hEE⟩ : ∃ E, (elemsOf ks).find? (isNamed name.data.toList) = E := ⟨_, rfl⟩
  rw [hEE]
  obtain ⟨post, hpost⟩ : ∃ post, GetEnd M w P m s E = post := ⟨_, rfl⟩
  have hN := DecW.new h
  have hst0 := ((⟨h, hE, fun x hx => by simp at hx, Fr.refl _ _⟩ : GSt M w w P m s i owe (frOf nm F0 :: fr) F []).push 66 #[.pointer (some ⟨P, 0, none⟩), .string X, .string lo, .slice a n c] (by decide)).push 62 #[.string ⟨#[]⟩, .string ⟨#[]⟩, .slice none 0 0] (by decide)
  obtain ⟨W, hW⟩ : ∃ W, (w.alloc (.cells #[.pointer (some ⟨P, 0, none⟩), .string X, .string lo, .slice a n c] 66)).alloc (.cells #[.string ⟨#[]⟩, .string ⟨#[]⟩, .slice none 0 0] 62) = W := ⟨_, rfl⟩
  obtain ⟨nb, hnb⟩ : ∃ nb, w.heap.size = nb := ⟨_, rfl⟩
  obtain ⟨rb, hrb⟩ : ∃ rb, nb + 1 = rb := ⟨_, rfl⟩
  have hsz : (w.alloc (.cells #[.pointer (some ⟨P, 0, none⟩), .string X, .string lo, .slice a n c] 66)).heap.size = rb := by simp; omega
  rw [hW, hsz, hnb] at hst0
  have hrn : rb ≠ nb := by omega
  have hMr : M rb := hN rb (by omega)
  have HN := Lib.hid hN
  have HI := Lib.hid hI
  have HST0 := Lib.hid hst0
  have HW := Lib.hid hW
  have HTX := Lib.hid htx
  have HX := Lib.hid hX
  have HLO := Lib.hid hlo
  have HEE := Lib.hid hEE
  have HPOST := Lib.hid hpost
  have HNA := Lib.hid hna
  rw [hpost]
  clear h hI hE htx hX hlo hna hN hst0 hW hEE hpost hsz
  go_enter Tryz.func38, Tryz.ntmps38
  go_wp2_with fail
  rw [HW.out]
  try rw [hnb]
  try rw [hrb]
  go_loopg [5] (s.size - i) (fun g ev wr => ∃ (i' : Nat) (owe' : Option (ByteArray × ByteArray)) (ks' : List XEl), g = s.size - i' ∧ ev = .nilIface ∧ Inside s i' owe' nm ks' rest ∧ Hid ((elemsOf ks').find? (isNamed name.data.toList) = E) ∧
    GSt M w wr P m s i' owe' (frOf nm F0 :: fr) F [(rb, 62, #[.string ⟨#[]⟩, .string ⟨#[]⟩, .slice none 0 0]), (nb, 66, #[.pointer (some ⟨P, 0, none⟩), .string X, .string lo, .slice a n c])])
  case atStart => exact ⟨i, owe, ks, rfl, rfl, HI.out, Lib.hid HEE.out, HST0.out⟩
  case round =>
    obtain ⟨i', owe', ks', hg, rfl, hin, HNM, hst⟩ := hrel
    have HG := Lib.hid hg
    have HS := Lib.hid hst
    have hil := hin.1
    have hnms := inside_names hin
    have hnk := (hst.ok (nb, 66, #[.pointer (some ⟨P, 0, none⟩), .string X, .string lo, .slice a n c]) (by simp)).1
    have nc0 := hnk.cell 0
    have nc1 := hnk.cell 1
    have nc2 := hnk.cell 2
    have nc3 := hnk.cell 3
    have HTK := Lib.hid (node_tok (w := wr) X lo a n c HTX.out hst.decS hin hst.envS HX.out HLO.out)
    clear hg hst hin hnk HST0
    go_wp2_with fail
    refine HTK.out.mono ?_
    intro e w3 hk
    have hsub : ∀ k ∈ elemsOf ks', k.name.length ≤ s.size + 1 := fun k hk => hnms k (List.mem_filter.1 hk).1
    clear hnms
    generalize hEl : elemsOf ks' = E2 at hk
    rw [hEl] at hsub
    cases hk with
    | done _ h1 h2 =>
      clear hsub
      obtain ⟨j, h3, h4, h6, h7⟩ := h1
      have hst3 := (HS.out.after h7 h2).wid ((Below.refl w3.heap.size w3).alloc (Nat.le_refl _) (.cells #[.string ⟨#[]⟩, .string ⟨#[]⟩, .slice none 0 0] 62))
      have hE0 : E = none := by
        have := HNM.out
        rw [hEl] at this
        exact this.symm
      obtain ⟨V, hV⟩ : ∃ V, w3.alloc (.cells #[.string ⟨#[]⟩, .string ⟨#[]⟩, .slice none 0 0] 62) = V := ⟨_, rfl⟩
      rw [hV] at hst3
      have HST3 := Lib.hid hst3
      have HV := Lib.hid hV
      have HE0 := Lib.hid hE0
      clear h2 h3 h4 h6 h7 hst3 hEl hV hE0 nc0 nc1 nc2 nc3
      go_upto_region 5 with fail
      rw [HV.out]
      have hrk := (HST3.out.ok (rb, 62, #[.string ⟨#[]⟩, .string ⟨#[]⟩, .slice none 0 0]) (by simp)).1
      have r0 := hrk.cell 0
      have r1 := hrk.cell 1
      have r2 := hrk.cell 2
      have rf := hrk.frozen
      have HEN := Lib.hid (fun cc => errNew_any cc V.drew)
      have hsn : Blk V.drew rb 62 #[.string ⟨#[]⟩, .string ⟨#[]⟩, .slice none 0 0] := hrk
      clear hrk
      go_region_held3 (fun w' => Blk w' rb 62 #[.string ⟨#[]⟩, .string ⟨#[]⟩, .slice none 0 0] ∧ w'.cell? ⟨rb, 0, none⟩ = some (.string ⟨#[]⟩) ∧ w'.cell? ⟨rb, 1, none⟩ = some (.string ⟨#[]⟩) ∧ w'.cell? ⟨rb, 2, none⟩ = some (.slice none 0 0) ∧ w'.frozen? ⟨rb, 0, none⟩ = false ∧ w'.frozen? ⟨rb, 1, none⟩ = false ∧ w'.frozen? ⟨rb, 2, none⟩ = false) (first | exact rz_full (by assumption) | exact rz_full (rz_store (by assumption)) | exact rz_full (rz_store (And.left (by assumption))) | go_keep)
        (first | (go_at_call 73
                  refine (HEN.out _).mono ?_
                  rintro e W8 ⟨p8, rfl, hb8⟩
                  have qs : Blk W8 rb 62 #[.string ⟨#[]⟩, .string ⟨#[]⟩, .slice none 0 0] := (hb8.block rb hsn.lt).trans hsn
                  have HB8 := Lib.hid hb8
                  clear hb8))
      go_wp2_with fail
      have hs9 := rz_store qs
      have y0 := hs9.cell 0
      have y1 := hs9.cell 1
      have y2 := hs9.cell 2
      refine bodyPost_ret (v := .tuple #[.agg #[.string ⟨#[]⟩, .string ⟨#[]⟩, .slice none 0 0], .iface 211 p8]) (by simp [results, Tryz.results38, go_sem, y0, y1, y2]) rfl ?_
      rw [← HPOST.out, HE0.out]
      have hs8 := HST3.out.drew.wid HB8.out
      exact .no _ _ (hs8.fr.trans ((((Fr.refl (fun y => M y ∨ y = m) W8).setCell (p := ⟨rb, 0, none⟩) (.inl hMr) _).setCell (p := ⟨rb, 1, none⟩) (.inl hMr) _).setCell (p := ⟨rb, 2, none⟩) (.inl hMr) _))
    | start _ j n2 av2 k2 ks2 rest2 owe2 a2 m2 c2 h1 h2 h3 h4 h6 h7 =>
      have hst3 := HS.out.after h6 h7
      obtain ⟨X2, hX2⟩ : ∃ X2, xlate (nsAll F av2) true (bst (halvesL n2).1) (bst (halvesL n2).2) = X2 := ⟨_, rfl⟩
      obtain ⟨lo2, hlo2⟩ : ∃ lo2, bst (halvesL n2).2 = lo2 := ⟨_, rfl⟩
      have hE2 : (if isNamed name.data.toList (.mk n2 av2 [] k2) = true then some (.mk n2 av2 [] k2) else (elemsOf ks2).find? (isNamed name.data.toList)) = E := by
        have := HNM.out
        rw [hEl, List.find?_cons] at this
        rw [← this]
        cases isNamed name.data.toList (.mk n2 av2 [] k2) <;> rfl
      have hnl2 := halves_le n2
      have hfo := fun W => eqfold_any name lo2 W hn (by rw [← hlo2, bst_size]; have h9 : n2.length ≤ s.size + 1 := hsub (.mk n2 av2 [] k2) (by simp); omega) HNA.out (by rw [← hlo2]; exact bst_ascii (local_ascii h2))
      have hcmp : (lowL name.data.toList == lowL lo2.data.toList) = isNamed name.data.toList (.mk n2 av2 [] k2) := by
        unfold isNamed XEl.name
        rw [← hlo2, bst_toList]
        exact BEq.comm
      rw [hX2, hlo2]
      have hst4 := hst3.push 62 #[.string X2, .string lo2, .slice a2 m2 c2] (by decide)
      obtain ⟨tb, htb2⟩ : ∃ tb, w3.heap.size = tb := ⟨_, rfl⟩
      obtain ⟨V, hV⟩ : ∃ V, w3.alloc (.cells #[.string X2, .string lo2, .slice a2 m2 c2] 62) = V := ⟨_, rfl⟩
      rw [hV, htb2] at hst4
      have htb := (hst4.ok (tb, 62, #[.string X2, .string lo2, .slice a2 m2 c2]) (by simp)).1
      have t1 := htb.cell 1
      rw [hcmp] at hfo
      have HST4 := Lib.hid hst4
      have HV := Lib.hid hV
      have HE2 := Lib.hid hE2
      have HJ := Lib.hid h1
      have HGN := Lib.hid h2
      have H3 := Lib.hid h3
      have H4 := Lib.hid h4
      have HFO := Lib.hid hfo
      have HX2 := Lib.hid hX2
      have HLO2 := Lib.hid hlo2
      have hj2 := h3.1
      clear h1 h2 h3 h4 h6 h7 hst3 hEl hV htb hX2 hlo2 nc0 nc1 nc2 nc3 hst4 hfo hcmp hE2 hnl2 hsub
      go_upto_region 9 with fail
      rw [HV.out]
      try rw [htb2]
      go_wp2_with fail
      refine (HFO.out _).mono ?_
      rintro e w4 ⟨rfl, hb4⟩
      have hst5 := HST4.out.wid hb4
      have HST5 := Lib.hid hst5
      have htb := (hst5.ok (tb, 62, #[.string X2, .string lo2, .slice a2 m2 c2]) (by simp)).1
      have hrk := (hst5.ok (rb, 62, #[.string ⟨#[]⟩, .string ⟨#[]⟩, .slice none 0 0]) (by simp)).1
      have hnk := (hst5.ok (nb, 66, #[.pointer (some ⟨P, 0, none⟩), .string X, .string lo, .slice a n c]) (by simp)).1
      clear hb4 hst5 t1 HST4
      by_cases hnmd : isNamed name.data.toList (.mk n2 av2 [] k2) = true
      · have hE3 : E = some (.mk n2 av2 [] k2) := by rw [← HE2.out, if_pos hnmd]
        have HE3 := Lib.hid hE3
        have t0 := htb.cell 0
        have t1 := htb.cell 1
        have t2 := htb.cell 2
        have r0 := hrk.cell 0
        have r1 := hrk.cell 1
        have r2 := hrk.cell 2
        have rf := hrk.frozen
        have HRK := Lib.hid hrk
        clear htb hrk hnk hE3
        go_wp2_with fail
        have hr5 := ((HRK.out.set 0 (.string X2)).set 1 (.string lo2)).set 2 (.slice a2 m2 c2)
        have y0 := hr5.cell 0
        have y1 := hr5.cell 1
        have y2 := hr5.cell 2
        refine bodyPost_ret (v := .tuple #[.agg #[.string X2, .string lo2, .slice a2 m2 c2], .nilIface]) (by simp [results, Tryz.results38, go_sem, y0, y1, y2]) rfl ?_
        rw [← HPOST.out, HE3.out, ← HX2.out, ← HLO2.out]
        have hs6 := (((HST5.out.tail).set (by simp [hrn]) hMr 0 (.string X2)).set (by simp [hrn]) hMr 1 (.string lo2)).set (by simp [hrn]) hMr 2 (.slice a2 m2 c2)
        rw [← HX2.out, ← HLO2.out] at hs6
        exact .found _ j n2 av2 k2 rest2 owe2 _ _ _ _ _ _ HGN.out H3.out hs6.dec hs6.fr
      · have hnm0 : isNamed name.data.toList (.mk n2 av2 [] k2) = false := by simpa using hnmd
        have hE3 : (elemsOf ks2).find? (isNamed name.data.toList) = E := by rw [← HE2.out, if_neg hnmd]
        have HE3 := Lib.hid hE3
        have nc0 := hnk.cell 0
        have hst6 := HST5.out.tail
        have HSK := Lib.hid (skip_any w4 HTX.out hst6.decS H3.out hst6.envS)
        have HST6 := Lib.hid hst6
        clear htb hrk hnk hE3 hst6 hnmd HST5
        go_wp2_with fail
        refine HSK.out.mono ?_
        rintro e w5 ⟨rfl, ⟨j2, g1, g2, g3, g4⟩, g5⟩
        have HST7 := Lib.hid (HST6.out.after g4 g5)
        have HG2 := Lib.hid g2
        have HG3 := Lib.hid g3
        clear g3 g4 g5 HST6 HSK
        go_wp2_with fail
        go_roundg (s.size - j2)
        case rel => exact ⟨j2, none, ks2, rfl, rfl, ⟨HG2.out, .inr ⟨rfl, by rw [HG3.out]; exact H4.out⟩⟩, Lib.hid HE3.out, HST7.out⟩
        case measure => have := HG.out; have := HJ.out; omega
end Go.Proofs.YtlljphipglgjiaaGreatDoor

namespace Go.Proofs.YtlljphipglgjiaaGreatDoor
open Go.RowKit Go.Lib

theorem ta135_135 (v : Value) (w : World) : (Instr.typeAssert (.iface 135 v) 124 135 true).run Tryz.prog w = .ok (.tuple #[v, .bool true]) w := by kernel_rfl
theorem ta135_128 (v : Value) (w : World) : (Instr.typeAssert (.iface 128 v) 124 135 true).run Tryz.prog w = .ok (.tuple #[.slice none 0 0, .bool false]) w := by kernel_rfl
theorem ta135_62 (v : Value) (w : World) : (Instr.typeAssert (.iface 62 v) 124 135 true).run Tryz.prog w = .ok (.tuple #[.slice none 0 0, .bool false]) w := by kernel_rfl
theorem ta135_259 (v : Value) (w : World) : (Instr.typeAssert (.iface 259 v) 124 135 true).run Tryz.prog w = .ok (.tuple #[.slice none 0 0, .bool false]) w := by kernel_rfl

theorem append_types {P : Program} (w : World) {t u e e2 : TypeId} (ty : TypeId) (ht : P.underlying t = some (.slice e)) (hu : P.underlying u = some (.slice e2)) (v x : Value) :
    (Builtin.append_ #[t, u] ty #[v, x]).run P w = (Builtin.append_ #[t, t] ty #[v, x]).run P w := by
  unfold Builtin.append_
  cases v with
  | slice base l c => simp [Sem.run_bind, run_underlying ht, run_underlying hu]
  | _ => simp [run_underlying ht]
theorem wpList_append_two {P : Program} (w : World) {ops : Array Oper} {rest : List Oper} {o : Oper} {a : Act} {Q : Exit → Act → World → Prop} (hgd : o.guard = none) (s x : Operand) (t u : TypeId)
    (ho : o.op = .call { callee := .builtin .append, args := #[s, x], argTypes := #[t, u] })
    (base : Nat) (e e2 : TypeId) (i : TypeInfo) (z : Value) (size bytes : Nat) (ht : P.underlying t = some (.slice e)) (hu : P.underlying u = some (.slice e2)) (hi : P.info? e = some i) (hz : i.zero = some z)
    (hsize : i.size = size) (hby : i.bytes = bytes) (hzs : z.cells.size = size) (hsz : 0 < size)
    (v : Value) (n : Nat) (xs : List Value) (hs : a.eval s = v) (hown : w.ownsRow base e size v n xs)
    (ad : Addr) (m c : Nat) (news : List Value) (hx : a.eval x = .slice (some ad) m c) (hl : news.length = m * size) (hnews : ∀ j u, news[j]? = some u → w.cell? (ad.add j) = some u) (h1 : ∀ u ∈ news, u.oneCell' = true)
    (h63 : n + m ≤ maxLen) (hbytes : (n + m) * bytes ≤ 140737488355328) (hbase : base ≤ w.heap.size)
    (h : ∀ v' w', w'.ownsRow base e size v' (n + m) (xs ++ news) → w.grownBy w' v.ownBlock → RowAt w v v' → wpList P ops Q rest (a.put o.dst v') w') : wpList P ops Q (o :: rest) a w := by
  refine wpList_plain hgd fun K hK => ?_
  obtain ⟨v', w', hr, h2, h3, h4⟩ := run_append_where (P := P) w base t o.type e i z size bytes ht hi hz hsize hby hzs hsz v n xs hown ad m c news hl hnews h1 h63 hbytes hbase
  rw [← append_types w o.type ht hu] at hr
  unfold Oper.wp execOp
  simp only [ho, resolve, invoke, builtin, Sem.run_bind, Sem.run_pure, Result.andThen_ok, List.map_toArray, List.map_cons, List.map_nil, hs, hx, hr]
  exact hK _ _ (h v' w' h2 h3 h4)
theorem Tryz.info5b : (Tryz.prog.info? 5).map (fun i => (i.zero, i.size, i.bytes)) = some (some (.int .u8 0), 1, 1) := by kernel_rfl

set_option maxRecDepth 100000 in
/-- CharData.Copy. -/
theorem copy_any (w : World) (g cap : Nat) (bs : List UInt8) (h : BufH w (.slice (some ⟨g, 0, none⟩) bs.length cap) bs) (hbl : bs.length ≤ 5000000) :
    Calls Tryz.prog 75 #[.slice (some ⟨g, 0, none⟩) bs.length cap] w fun e w' => ∃ v, e = .returned v ∧ (BufH w' v bs ∧ (∀ g', v.ownBlock = some g' → w.heap.size ≤ g' ∧ g' < w'.heap.size) ∧ Below w.heap.size w w') := by
  obtain ⟨i5, hi5, hz5a, hz5b, hz5c⟩ := info_parts Tryz.info5b
  have hlen : (Lib.byteCells bs).length = bs.length * 1 := by simp [Lib.byteCells]
  have hnews : ∀ j u, (Lib.byteCells bs)[j]? = some u → (w.alloc (.cells #[] 5)).cell? ((⟨g, 0, none⟩ : Addr).add j) = some u := by
    intro j u hj
    have hj2 : j < bs.length := by
      have := (List.getElem?_eq_some_iff.1 hj).1
      rw [hlen] at this
      omega
    rcases h.cases with ⟨h1, _⟩ | ⟨g', cap', cur, h1, hg, _, _, _, ht⟩
    · cases h1
    · injection h1 with e1 _ _
      injection e1 with e1
      injection e1 with e1 _ _
      subst e1
      have hc := row_byte hg ht j hj2
      have hg2 : (w.alloc (.cells #[] 5)).heap[g]? = w.heap[g]? := Below.heap_alloc w _ g (World.block_lt_of_cell? w _ hc)
      rw [show (⟨g, 0, none⟩ : Addr).add j = ⟨g, j, none⟩ by cases j <;> simp [Addr.add], World.cell?, hg2]
      refine hc.trans ?_
      rw [← hj]
      simp [Lib.byteCells, hj2]
  have hone : ∀ u ∈ Lib.byteCells bs, u.oneCell' = true := by
    intro u hu
    unfold Lib.byteCells at hu
    obtain ⟨b, _, rfl⟩ := List.mem_map.1 hu
    rfl
  have hown : (w.alloc (.cells #[] 5)).ownsRow w.heap.size 5 1 (.slice (some ⟨w.heap.size, 0, none⟩) 0 0) 0 [] := ⟨rfl, .inr ⟨w.heap.size, 0, #[], rfl, Nat.le_refl _, heap_alloc_new w _, Nat.le_refl _, Nat.zero_le _, rfl, rfl⟩⟩
  have HNEWS := Lib.hid hnews
  have HONE := Lib.hid hone
  have HOWN := Lib.hid hown
  clear h hnews hone hown
  go_enter Tryz.func75, Tryz.ntmps75
  go_wp2_with ((at_builtin; refine wpList_append_two _ rfl _ _ 77 135 rfl w.heap.size 5 5 i5 (.int .u8 0) 1 1 Tryz.underlying77 Tryz.underlying135 hi5 hz5a hz5b hz5c rfl (by decide) _ _ _ rfl HOWN.out ⟨g, 0, none⟩ bs.length cap (Lib.byteCells bs) rfl hlen HNEWS.out HONE.out ?c3 ?c4 ?c5 ?_))
  case c3 => unfold maxLen; omega
  case c4 => omega
  case c5 => simp
  intro v2 w4 hown2 hgrow hat2
  have hbw : Below w.heap.size w w4 := by
    have hb := (Below.refl w.heap.size w).alloc (Nat.le_refl _) (.cells #[] 5)
    refine ⟨hgrow.os.trans hb.os, hgrow.tape.trans hb.tape, hgrow.output.trans hb.output, Nat.le_trans hb.size hgrow.size, fun k hk => (hgrow.block k (by simp; omega) fun e => ?_).trans (hb.block k hk)⟩
    have : w.heap.size = k := Option.some.inj e.symm
    omega
  have hv : ∀ g', v2.ownBlock = some g' → w.heap.size ≤ g' ∧ g' < w4.heap.size := fun g' hg' => hown2.lt g' hg'
  have hB : BufH w4 v2 bs := by
    obtain ⟨q1, q2 | ⟨g', cap', cur', q2, q3, q4, q5, q6, q7, q8⟩⟩ := hown2
    · exact ⟨q1, .inl q2⟩
    · exact ⟨q1, .inr ⟨g', cap', cur', q2, Nat.zero_le _, q4, q5, q6, q7, q8⟩⟩
  have HBW := Lib.hid hbw
  have HV := Lib.hid hv
  have HB := Lib.hid hB
  clear hown2 hgrow hat2 hbw hv hB
  go_wp2_with fail
  go_ret
  exact ⟨v2, rfl, HB.out, HV.out, HBW.out⟩

section
variable {M : Nat → Prop} {w w' : World} {P m : Nat} {s : ByteArray} {i : Nat} {owe : Option (ByteArray × ByteArray)} {fr : List Fram} {F : NsF}
/-- Blocks that were made since are none of the decoder's. -/
theorem DecW.fresh {bud : Nat} (h : DecW M w P m s i owe fr F bud) (hb : Below w.heap.size w w') (l : List Nat) (hl : ∀ x ∈ l, w.heap.size ≤ x ∧ x < w'.heap.size) : DecW (Sans M l) w' P m s i owe fr F bud := by
  obtain ⟨L, f, bs, st, fl, n, e1, e2, e3, e4, ⟨⟨h1, h2, h3, h4, h5, buf, ⟨lr, nb, ri, pr, line, ls, off, q1, q2, q3⟩, hB, hM⟩, c1, c2, c3, c4⟩, e6, e7, e8, e9, e10⟩ := h
  have hno : ∀ x, x < w.heap.size → x ∉ l := fun x hx hm => by have := (hl x hm).1; omega
  have hf : Fr (fun x => w.heap.size ≤ x) w w' := Fr.below hb (Nat.le_refl _) fun _ h => h
  have hlt : ∀ b ∈ st.map (·.1) ++ fl.map (·.1), b < w.heap.size := fun b hm => by
    rcases List.mem_append.1 hm with hm | hm
    · exact c1.lt b hm
    · exact c2.lt b hm
  refine ⟨L, f, bs, st, fl, n, e1, e2, e3, e4, ⟨⟨⟨h1, hno _ q1.lt⟩, ⟨h2, hno _ (Blk.lt (show Blk w L.rb 190 _ from q2))⟩, fun k hk => ⟨h3 k (Nat.le_trans hb.size hk), fun hm => by have := (hl k hm).2; omega⟩, h4, h5, buf, ⟨lr, nb, ri, pr, line, ls, off, (hb.block _ q1.lt).trans q1, (hb.block _ (Blk.lt (show Blk w L.rb 190 _ from q2))).trans q2, q3⟩, hB.keep fun g hg cur hc => (hb.block g ?_).trans hc, fun g hg => ⟨⟨(hM g hg).1, hno g ?_⟩, (hM g hg).2⟩⟩,
    c1.fr hf fun b hm => Nat.not_le.2 (c1.lt b hm), c2.fr hf fun b hm => Nat.not_le.2 (c2.lt b hm), c3, fun b hm => ⟨⟨(c4 b hm).1, hno b (hlt b hm)⟩, (c4 b hm).2⟩⟩, e6.fr hf (Nat.not_le.2 e6.lt), fun hx => e7 hx.1, e8, e9, e10⟩
  · exact Blk.lt (show Blk w g 5 cur from hc)
  · rcases hB.cases with ⟨rfl, _⟩ | ⟨g', cap, cur, rfl, hg', _⟩
    · cases hg
    · cases hg
      exact Blk.lt (show Blk w g' 5 cur from hg')
end

/-- The text of an element that has nothing but one text, or nothing. -/
def oneText : List XEl → Option (List UInt8)
  | [] => some []
  | [k] => if k.name = [] then some k.text else none
  | _ => none
/-- A text, if nothing stands behind it. -/
def textTail (v : List UInt8) : List XEl → Option (List UInt8)
  | [] => some v
  | _ => none
inductive ValEnd (M : Nat → Prop) (w : World) (m : Nat) : Option (List UInt8) → Ending → World → Prop
  | some (w' : World) (v : Value) (t : List UInt8) : BufH w' v t → Fr (fun y => M y ∨ y = m) w w' → ValEnd M w m (some t) (.returned (.tuple #[v, .nilIface])) w'
  | none (w' : World) (v p : Value) : Fr (fun y => M y ∨ y = m) w w' → ValEnd M w m none (.returned (.tuple #[v, .iface 211 p])) w'
theorem inside_text {s : ByteArray} {i : Nat} {owe : Option (ByteArray × ByteArray)} {nm v : List UInt8} {ks : List XEl} {rest : List UInt8} (h : Inside s i owe nm (.mk [] [] v [] :: ks) rest) : v.length ≤ 4 * s.size := by
  obtain ⟨hi, ⟨_, h2, _⟩ | ⟨_, hC⟩⟩ := h
  · cases h2
  · have hl : (s.data.toList.drop i).length ≤ s.size := by rw [List.length_drop, list_size]; omega
    generalize s.data.toList.drop i = l at hC hl
    cases hC with
    | text c l nm v t ks r hc htp hg hv hC =>
      have := txp_len htp
      omega
    | empty n2 t nm t2 av ks r hN hA hC =>
      obtain ⟨c, t, h, _⟩ := hN.first
      cases h
    | elem n2 t nm t2 t3 av k2 ks r hN hA hC2 hC =>
      obtain ⟨c, t, h, _⟩ := hN.first
      cases h

set_option maxRecDepth 100000 in
set_option maxHeartbeats 8000000 in
theorem value_any {M : Nat → Prop} {P m : Nat} {s : ByteArray} {fr : List Fram} {F F0 : NsF} {rest nm : List UInt8} {i : Nat} {owe : Option (ByteArray × ByteArray)} {ks : List XEl} (w : World) (X lo : ByteArray) (a : Option Addr) (n c : Nat) (htx : TextAll s) (h : DecV M w P m s i owe (frOf nm F0 :: fr) F) (hI : Inside s i owe nm ks rest) (hE : Env M m w)
    (hX : X = xlate F true (bst (halvesL nm).1) (bst (halvesL nm).2)) (hlo : lo = bst (halvesL nm).2) :
    Calls Tryz.prog 39 #[.agg #[.pointer (some ⟨P, 0, none⟩), .string X, .string lo, .slice a n c]] w (ValEnd M w m (oneText ks)) := by
  have hss := DecW.size h
  have hN := DecW.new h
  obtain ⟨E, hEE⟩ : ∃ E, oneText ks = E := ⟨_, rfl⟩
  rw [hEE]
  obtain ⟨post, hpost⟩ : ∃ post, ValEnd M w m E = post := ⟨_, rfl⟩
  have hst0 := (⟨h, hE, fun x hx => by simp at hx, Fr.refl _ _⟩ : GSt M w w P m s i owe (frOf nm F0 :: fr) F []).push 66 #[.pointer (some ⟨P, 0, none⟩), .string X, .string lo, .slice a n c] (by decide)
  obtain ⟨W, hW⟩ : ∃ W, w.alloc (.cells #[.pointer (some ⟨P, 0, none⟩), .string X, .string lo, .slice a n c] 66) = W := ⟨_, rfl⟩
  obtain ⟨nb, hnb⟩ : ∃ nb, w.heap.size = nb := ⟨_, rfl⟩
  rw [hW, hnb] at hst0
  have hnk := (hst0.ok (nb, 66, #[.pointer (some ⟨P, 0, none⟩), .string X, .string lo, .slice a n c]) (by simp)).1
  have nc0 := hnk.cell 0
  have HTK := Lib.hid (kid_tok htx hst0.decS hst0.envS hI)
  have HST0 := Lib.hid hst0
  have HW := Lib.hid hW
  have HTX := Lib.hid htx
  have HX := Lib.hid hX
  have HLO := Lib.hid hlo
  have HEE := Lib.hid hEE
  have HPOST := Lib.hid hpost
  have a1 := ta135_135
  have a2 := ta135_128
  have a3 := ta135_62
  have a4 := ta135_259
  have a5 := ta128_135
  have a6 := ta128_259
  have a7 := ta128_128
  have a8 := ta128_62
  rw [hpost]
  have hvl : ∀ v' ks2, ks = .mk [] [] v' [] :: ks2 → v'.length ≤ 4 * s.size := fun v' ks2 e => inside_text (by rw [← e]; exact hI)
  have HVL := Lib.hid hvl
  clear h hI hE htx hX hlo hN hst0 hW hEE hpost hnk hvl
  go_enter Tryz.func39, Tryz.ntmps39
  go_wp2_with fail
  rw [HW.out]
  try rw [hnb]
  refine HTK.out.mono ?_
  intro e w2 hk
  generalize hks : ks = kk at hk
  cases hk with
  | done _ j h1 h1' h2 h3 h4 h5 =>
    rw [← HX.out, ← HLO.out]
    have hst1 := HST0.out.after h4 h5
    have hnk := (hst1.ok (nb, 66, #[.pointer (some ⟨P, 0, none⟩), .string X, .string lo, .slice a n c]) (by simp)).1
    have nc1 := hnk.cell 1
    have nc2 := hnk.cell 2
    have nc3 := hnk.cell 3
    have hE0 : E = some [] := by rw [← HEE.out, hks]; rfl
    have HE0 := Lib.hid hE0
    have HST1 := Lib.hid hst1
    have HEO := Lib.hid (endOf_any w2 X lo a n c)
    clear h1 h1' h2 h3 h4 h5 hst1 hnk hE0 hks nc0
    go_wp2_with fail
    refine HEO.out.mono ?_
    rintro e w3 ⟨rfl, hb3⟩
    have hst3 := ((HST1.out.wid hb3).push 128 #[.string X, .string lo] (by decide)).push 128 #[.string X, .string lo] (by decide)
    obtain ⟨V, hV⟩ : ∃ V, (w3.alloc (.cells #[.string X, .string lo] 128)).alloc (.cells #[.string X, .string lo] 128) = V := ⟨_, rfl⟩
    obtain ⟨eb, heb⟩ : ∃ x, w3.heap.size = x := ⟨_, rfl⟩
    obtain ⟨tb, htb⟩ : ∃ x, eb + 1 = x := ⟨_, rfl⟩
    have hsz : (w3.alloc (.cells #[.string X, .string lo] 128)).heap.size = tb := by simp; omega
    rw [hV, hsz, heb] at hst3
    have HST3 := Lib.hid hst3
    have HV := Lib.hid hV
    clear hb3 hst3 hV hsz nc1 nc2 nc3
    go_upto_region 13 with fail
    rw [HV.out]
    try rw [heb]
    try rw [htb]
    have hek := (HST3.out.ok (eb, 128, #[.string X, .string lo]) (by simp)).1
    have htk := (HST3.out.ok (tb, 128, #[.string X, .string lo]) (by simp)).1
    have e0 := hek.cell 0
    have e1 := hek.cell 1
    have t0 := htk.cell 0
    have t1 := htk.cell 1
    clear hek htk
    go_wp2_with fail
    rw [← HPOST.out, HE0.out]
    exact .some _ _ [] ⟨rfl, .inr ⟨V.heap.size, 0, #[], rfl, Nat.zero_le _, heap_alloc_new V _, Nat.le_refl _, Nat.zero_le _, rfl, rfl⟩⟩ (HST3.out.wid ((Below.refl _ _).alloc (Nat.le_refl _) _)).fr
  | com _ j cc ks' v h1 h2 h3 h4 =>
    have hst1 := HST0.out.after h3 h4
    have hE0 : E = none := by rw [← HEE.out, hks]; cases ks' <;> rfl
    have hnk := (hst1.ok (nb, 66, #[.pointer (some ⟨P, 0, none⟩), .string X, .string lo, .slice a n c]) (by simp)).1
    have nc1 := hnk.cell 1
    have nc2 := hnk.cell 2
    have nc3 := hnk.cell 3
    have HE0 := Lib.hid hE0
    have HST1 := Lib.hid hst1
    have HEO := Lib.hid (endOf_any w2 X lo a n c)
    clear h1 h2 h3 h4 hst1 hnk hE0 hks nc0
    go_wp2_with fail
    refine HEO.out.mono ?_
    rintro e w3 ⟨rfl, hb3⟩
    have hst3 := (HST1.out.wid hb3).push 128 #[.string X, .string lo] (by decide)
    have HST3 := Lib.hid hst3
    clear hb3 hst3 nc1 nc2 nc3
    go_wp2_with fail
    refine (errNew_any _ _).mono ?_
    rintro e w4 ⟨p4, rfl, hb4⟩
    have HB4 := Lib.hid hb4
    clear hb4
    go_wp2_with fail
    rw [← HPOST.out, HE0.out]
    exact .none _ _ _ (HST3.out.wid HB4.out).fr
  | start _ j n2 av k2 ks' rest2 owe2 ga cap cur h1 hgn h2 h3 h4 h5 h6 h7 h8 =>
    have hst1 := HST0.out.after (DecW.wide h4 (fun k hk => hk.1) (DecW.notM HST0.out.decS)) h5
    have hE0 : E = none := by
      rw [← HEE.out, hks]
      obtain ⟨c1, t1, rfl, _⟩ := hgn.first
      cases ks' <;> rfl
    have hnk := (hst1.ok (nb, 66, #[.pointer (some ⟨P, 0, none⟩), .string X, .string lo, .slice a n c]) (by simp)).1
    have nc1 := hnk.cell 1
    have nc2 := hnk.cell 2
    have nc3 := hnk.cell 3
    have HE0 := Lib.hid hE0
    have HST1 := Lib.hid hst1
    have HEO := Lib.hid (endOf_any w2 X lo a n c)
    clear h1 h2 h3 h4 h5 h6 h7 h8 hgn hst1 hnk hE0 hks nc0
    go_wp2_with fail
    refine HEO.out.mono ?_
    rintro e w3 ⟨rfl, hb3⟩
    have hst3 := (HST1.out.wid hb3).push 128 #[.string X, .string lo] (by decide)
    have HST3 := Lib.hid hst3
    clear hb3 hst3 nc1 nc2 nc3
    go_wp2_with fail
    refine (errNew_any _ _).mono ?_
    rintro e w4 ⟨p4, rfl, hb4⟩
    have HB4 := Lib.hid hb4
    clear hb4
    go_wp2_with fail
    rw [← HPOST.out, HE0.out]
    exact .none _ _ _ (HST3.out.wid HB4.out).fr
  | text _ j v ks' g cap h1 h2 h3 h4 h5 h6 =>
    have hst1 := HST0.out.after h4 h5
    have hE0 : E = textTail v ks' := by rw [← HEE.out, hks]; cases ks' <;> rfl
    have hvl := HVL.out v ks' hks
    have hnk := (hst1.ok (nb, 66, #[.pointer (some ⟨P, 0, none⟩), .string X, .string lo, .slice a n c]) (by simp)).1
    have nc1 := hnk.cell 1
    have nc2 := hnk.cell 2
    have nc3 := hnk.cell 3
    have HE0 := Lib.hid hE0
    have HST1 := Lib.hid hst1
    have HEO := Lib.hid (endOf_any w2 X lo a n c)
    have H2 := Lib.hid h2
    have H6 := Lib.hid h6
    have hvne : v ≠ [] := h3
    clear h1 h2 h3 h4 h5 h6 hst1 hnk hE0 hks nc0
    go_wp2_with fail
    refine HEO.out.mono ?_
    rintro e w3 ⟨rfl, hb3⟩
    have hst3 := (HST1.out.wid hb3).push 128 #[.string X, .string lo] (by decide)
    have hbv : Below w2.heap.size w2 (w3.alloc (.cells #[.string X, .string lo] 128)) := hb3.alloc hb3.size _
    obtain ⟨V, hV⟩ : ∃ V, w3.alloc (.cells #[.string X, .string lo] 128) = V := ⟨_, rfl⟩
    obtain ⟨eb, heb⟩ : ∃ x, w3.heap.size = x := ⟨_, rfl⟩
    rw [hV, heb] at hst3
    rw [hV] at hbv
    have hBV : BufH V (.slice (some ⟨g, 0, none⟩) v.length cap) v := H6.out.keep fun g' _ cur hc => (hbv.block g' (Blk.lt (show Blk w2 g' 5 cur from hc))).trans hc
    have HCP := Lib.hid (copy_any V g cap v hBV (by omega))
    have HST3 := Lib.hid hst3
    have HV := Lib.hid hV
    clear hb3 hst3 hV hbv hBV nc1 nc2 nc3
    go_wp2_with fail
    rw [HV.out]
    try rw [heb]
    refine HCP.out.mono ?_
    rintro e w5 ⟨vv, rfl, hB5, hv5, hb5⟩
    rcases hB5.cases with ⟨_, h0⟩ | ⟨g2, cap2, cur2, rfl, hg2, _⟩
    · exact absurd h0 hvne
    have hst5 := HST3.out.wid hb5
    have hg2b := hv5 g2 rfl
    have hd5 := DecW.fresh HST3.out.decS hb5 [g2] (fun x hx => by
      rw [List.mem_singleton] at hx
      subst hx
      exact hg2b)
    have hmg : m ≠ g2 := by
      obtain ⟨L, f, bs, st, fl, nn, _, _, _, _, _, hns, _⟩ := hst5.dec
      exact hns.not_blk (show Blk w5 g2 5 cur2 from hg2)
    have hnk := (hst5.ok (nb, 66, #[.pointer (some ⟨P, 0, none⟩), .string X, .string lo, .slice a n c]) (by simp)).1
    have nc0 := hnk.cell 0
    have HTK2 := Lib.hid (kid_tok HTX.out hd5 (hst5.envS.sans [g2]) H2.out)
    have HST5 := Lib.hid hst5
    have HB5 := Lib.hid hB5
    have HG2 := Lib.hid hg2
    clear hb5 hst5 hg2b hd5 hnk hv5 hB5 hg2 H2 H6
    go_wp2_with fail
    refine HTK2.out.mono ?_
    intro e w6 hk6
    have hout : Fr (fun y => Sans (Sans M [eb, nb]) [g2] y ∨ y = m) w5 w6 → (BufH w6 (.slice (some ⟨g2, 0, none⟩) v.length cap2) v ∧ Blk w6 eb 128 #[.string X, .string lo] ∧ Fr (fun y => M y ∨ y = m) w w6 ∧ New M w6) := by
      intro hf
      have hf2 : Fr (fun y => M y ∨ y = m) w5 w6 := hf.mono fun y hy => by rcases hy with hy | hy; exact .inl hy.1.1; exact .inr hy
      refine ⟨HB5.out.keep fun g' hg' cur hc => (hf.block g' fun e => ?_).trans hc, (HST5.out.ok (eb, 128, #[.string X, .string lo]) (by simp)).1.fr hf fun e => ?_, HST5.out.fr.trans hf2, (DecW.new HST5.out.dec).fr hf⟩
      · have hg'' : g2 = g' := Option.some.inj hg'
        rcases e with e | e
        · exact e.2 (by simp [hg''])
        · exact hmg (e.symm.trans hg''.symm)
      · rcases e with e | e
        · exact e.1.2 (by simp)
        · exact HST5.out.mne eb (by simp) e.symm
    have HOUT := Lib.hid hout
    clear hout nc0 HTK2
    generalize hks2 : ks' = kk2 at hk6
    cases hk6 with
    | done _ j2 k1 k1' k2 k3 k4 k5 =>
      rw [← HX.out, ← HLO.out]
      obtain ⟨q1, q2, q3, q4⟩ := HOUT.out k5
      have hE1 : E = some v := by rw [HE0.out, hks2]; rfl
      have HE1 := Lib.hid hE1
      have Q1 := Lib.hid q1
      have Q3 := Lib.hid q3
      have Q4 := Lib.hid q4
      have HQ2 := Lib.hid q2
      clear k1 k1' k2 k3 k4 k5 q1 q2 q3 q4 hE1 hks2
      go_upto_region 21 with fail
      obtain ⟨U, hU⟩ : ∃ U, w6.alloc (.cells #[.string X, .string lo] 128) = U := ⟨_, rfl⟩
      have hbU : Below w6.heap.size w6 U := by rw [← hU]; exact (Below.refl _ _).alloc (Nat.le_refl _) _
      have htk : Blk U w6.heap.size 128 #[.string X, .string lo] := by rw [← hU]; exact Blk.new w6 128 _
      have hek : Blk U eb 128 #[.string X, .string lo] := (hbU.block _ HQ2.out.lt).trans HQ2.out
      rw [hU]
      obtain ⟨tb, htb⟩ : ∃ x, w6.heap.size = x := ⟨_, rfl⟩
      rw [htb] at htk
      try rw [htb]
      have e0 := hek.cell 0
      have e1 := hek.cell 1
      have t0 := htk.cell 0
      have t1 := htk.cell 1
      have HBU := Lib.hid hbU
      clear hek htk hbU hU
      go_wp2_with fail
      rw [← HPOST.out, HE1.out]
      exact .some _ _ v (Q1.out.keep fun g' _ cur hc => (HBU.out.block g' (Blk.lt (show Blk w6 g' 5 cur from hc))).trans hc) (Q3.out.trans (Fr.below HBU.out (Nat.le_refl _) fun k hk => .inl (Q4.out k hk)))
    | text _ j2 v2 ks2 g3 cap3 k1 k2 k3 k4 k5 k6 =>
      obtain ⟨q1, q2, q3, q4⟩ := HOUT.out k5
      have hE1 : E = none := by rw [HE0.out, hks2]; rfl
      have HE1 := Lib.hid hE1
      have Q3 := Lib.hid q3
      have Q4 := Lib.hid q4
      clear k1 k2 k3 k4 k5 k6 q1 q2 q3 q4 hE1 hks2
      go_wp2_with fail
      refine (errNew_any _ _).mono ?_
      rintro e w7 ⟨p7, rfl, hb7⟩
      have HB7 := Lib.hid hb7
      clear hb7
      go_wp2_with fail
      rw [← HPOST.out, HE1.out]
      exact .none _ _ _ (Q3.out.trans (Fr.below (((Below.refl _ _).alloc (Nat.le_refl _) _).trans (HB7.out.mono (by simp))) (Nat.le_refl _) fun k hk => .inl (Q4.out k hk)))
    | com _ j2 cc ks2 v2 k1 k2 k3 k4 =>
      obtain ⟨q1, q2, q3, q4⟩ := HOUT.out k4
      have hE1 : E = none := by rw [HE0.out, hks2]; rfl
      have HE1 := Lib.hid hE1
      have Q3 := Lib.hid q3
      have Q4 := Lib.hid q4
      clear k1 k2 k3 k4 q1 q2 q3 q4 hE1 hks2
      go_wp2_with fail
      refine (errNew_any _ _).mono ?_
      rintro e w7 ⟨p7, rfl, hb7⟩
      have HB7 := Lib.hid hb7
      clear hb7
      go_wp2_with fail
      rw [← HPOST.out, HE1.out]
      exact .none _ _ _ (Q3.out.trans (Fr.below (((Below.refl _ _).alloc (Nat.le_refl _) _).trans (HB7.out.mono (by simp))) (Nat.le_refl _) fun k hk => .inl (Q4.out k hk)))
    | start _ j2 n2 av k2 ks2 rest2 owe2 ga3 cap3 cur3 k1 hgn k3 k4 k5 k6 k7 k8 k9 =>
      obtain ⟨q1, q2, q3, q4⟩ := HOUT.out k6
      have hE1 : E = none := by rw [HE0.out, hks2]; rfl
      have HE1 := Lib.hid hE1
      have Q3 := Lib.hid q3
      have Q4 := Lib.hid q4
      clear k1 k3 k4 k5 k6 k7 k8 k9 hgn q1 q2 q3 q4 hE1 hks2
      go_wp2_with fail
      refine (errNew_any _ _).mono ?_
      rintro e w7 ⟨p7, rfl, hb7⟩
      have HB7 := Lib.hid hb7
      clear hb7
      go_wp2_with fail
      rw [← HPOST.out, HE1.out]
      exact .none _ _ _ (Q3.out.trans (Fr.below (((Below.refl _ _).alloc (Nat.le_refl _) _).trans (HB7.out.mono (by simp))) (Nat.le_refl _) fun k hk => .inl (Q4.out k hk)))
end Go.Proofs.YtlljphipglgjiaaGreatDoor
