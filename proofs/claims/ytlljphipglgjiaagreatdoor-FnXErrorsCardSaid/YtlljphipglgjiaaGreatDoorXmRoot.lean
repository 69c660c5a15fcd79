/-
  A document's root: what spec.XRead's prologue stands for, step by step (plain).
  spec.XRead: the state of its reading.
  spec.XRead: the walk.
  spec.XRead of any document.
-/
import Derived.Test.YtlljphipglgjiaaGreatDoorXmEl3
import Derived.BigRegion
import Derived.Deep.RegionHeld3
import Derived.Deep.AppendLies
import Derived.Deep.DeepCutAuto
import Derived.Deep.CutBlock
import Derived.StillTailTactics
import Derived.Test.YtlljphipglgjiaaGreatDoorXmElem
namespace Go.Proofs.YtlljphipglgjiaaGreatDoor
open Go.RowKit Go.Lib

/-- The root that follows the prologue. -/
def rootL (o : Option (List UInt8)) : Option XEl :=
  match o with
  | some (60 :: t) => match elemL 40 t with
    | some (e, r) => if r.dropWhile blankB = [] then some e else none
    | none => none
  | _ => none
theorem xreadL_eq (l : List UInt8) : xreadL l = rootL (prologF (l.length + 1) (if isPre declL l then l.drop declL.length else l)) := rfl

/-- Where the prologue's reading stands. -/
def ProR (s : ByteArray) (x0 : Option XEl) (k : Nat) (bd : Bool) : Prop :=
  (bd = false → ∃ f, (s.data.toList.drop k).length < f ∧ x0 = rootL (prologF f (s.data.toList.drop k))) ∧ (bd = true → x0 = none)
theorem ProR.start {s : ByteArray} {q : Bool} (h : hasB s 0 (bst declL) = q) : ProR s (xreadL s.data.toList) (if q then 0 + (bst declL).size else 0) false := by
  refine ⟨fun _ => ⟨s.data.toList.length + 1, by rw [List.length_drop]; omega, ?_⟩, fun h => nomatch h⟩
  rw [xreadL_eq]
  rw [hasB_pre, bst_toList, List.drop_zero] at h
  rw [h]
  cases q <;> rfl

section
variable {s : ByteArray} {x0 : Option XEl} {k j : Nat} {bd bd2 : Bool}
theorem ProR.blanks (h : ProR s x0 k bd) (hk : k < runEnd blankB s k) (hks : k ≤ s.size) : ProR s x0 (runEnd blankB s k) bd := by
  refine ⟨fun hb => ?_, h.2⟩
  obtain ⟨f, hf, hx⟩ := h.1 hb
  obtain ⟨g, rfl⟩ : ∃ g, f = g + 1 := ⟨f - 1, by omega⟩
  have hle := runEnd_le blankB s k hks
  have hlt : ((s.data.toList.drop k).dropWhile blankB).length < (s.data.toList.drop k).length := by
    rw [← drop_run, List.length_drop, List.length_drop, list_size]
    omega
  rw [prologF, if_pos hlt] at hx
  refine ⟨g, by rw [drop_run]; omega, by rw [drop_run]; exact hx⟩
theorem ProR.comment (h : ProR s x0 k bd) (hk : runEnd blankB s k ≤ k) (hc : hasB s k ⟨#[60, 33, 45, 45]⟩ = true) (hj : k + 4 ≤ j) (hks : k ≤ s.size)
    (hm : match (if bd then none else commentL (s.data.toList.drop (k + 4))) with | some p => bd2 = false ∧ s.data.toList.drop j = p.2 | none => bd2 = true) : ProR s x0 j bd2 := by
  cases bd with
  | true =>
    simp only [if_true] at hm
    exact ⟨(fun hb => by rw [hm] at hb; cases hb), fun _ => h.2 rfl⟩
  | false =>
    simp only [Bool.false_eq_true, if_false] at hm
    obtain ⟨f, hf, hx⟩ := h.1 rfl
    obtain ⟨g, rfl⟩ : ∃ g, f = g + 1 := ⟨f - 1, by omega⟩
    have hge := runEnd_ge blankB s k
    have hnl : ¬ ((s.data.toList.drop k).dropWhile blankB).length < (s.data.toList.drop k).length := by
      rw [← drop_run, show runEnd blankB s k = k by omega]
      exact Nat.lt_irrefl _
    have hle4 : k + 4 ≤ s.size := hasB_le hc hks
    rw [hasB_pre] at hc
    have hle : 4 ≤ (s.data.toList.drop k).length := by
      rw [List.length_drop, list_size]
      omega
    rw [prologF, if_neg hnl, if_pos hc, List.drop_drop] at hx
    cases hq : commentL (s.data.toList.drop (k + 4)) with
    | none =>
      rw [hq] at hm hx
      exact ⟨(fun hb => by rw [hm] at hb; cases hb), fun _ => hx⟩
    | some p =>
      rw [hq] at hm hx
      obtain ⟨rfl, h2⟩ := hm
      refine ⟨fun _ => ⟨g, ?_, by rw [h2]; exact hx⟩, fun h => nomatch h⟩
      rw [List.length_drop] at hf hle ⊢
      omega
theorem ProR.stop (h : ProR s x0 k false) (hk : runEnd blankB s k ≤ k) (hc : hasB s k ⟨#[60, 33, 45, 45]⟩ = false) : x0 = rootL (some (s.data.toList.drop k)) := by
  obtain ⟨f, hf, hx⟩ := h.1 rfl
  obtain ⟨g, rfl⟩ : ∃ g, f = g + 1 := ⟨f - 1, by omega⟩
  have hge := runEnd_ge blankB s k
  have hnl : ¬ ((s.data.toList.drop k).dropWhile blankB).length < (s.data.toList.drop k).length := by
    rw [← drop_run, show runEnd blankB s k = k by omega]
    exact Nat.lt_irrefl _
  rw [hasB_pre] at hc
  rw [prologF, if_neg hnl, if_neg (by rw [hc]; exact Bool.false_ne_true)] at hx
  exact hx
theorem ProR.no (h : ProR s x0 k bd) (hk : runEnd blankB s k ≤ k) (hc : hasB s k ⟨#[60, 33, 45, 45]⟩ = false) (hn : hasB s k ⟨#[60]⟩ = false) : x0 = none := by
  cases bd with
  | true => exact h.2 rfl
  | false =>
    rw [h.stop hk hc]
    rw [hasB_pre] at hn
    generalize s.data.toList.drop k = l at hn
    cases l with
    | nil => rfl
    | cons c t =>
      have : c ≠ 60 := fun e => by
        rw [e] at hn
        simp [isPre] at hn
      unfold rootL
      split
      · rename_i heq
        injection heq with heq
        injection heq with h1 _
        exact absurd h1 this
      · rfl
theorem ProR.yes (h : ProR s x0 k bd) (hk : runEnd blankB s k ≤ k) (hc : hasB s k ⟨#[60, 33, 45, 45]⟩ = false) (hn : hasB s k ⟨#[60]⟩ = true) (hks : k < s.size)
    {el : XEl} {bd3 : Bool} (hm : match (if bd then none else elemL 40 (s.data.toList.drop (k + 1))) with | some p => bd3 = false ∧ el = p.1 ∧ s.data.toList.drop j = p.2 | none => bd3 = true) (hj : j ≤ s.size) :
    x0 = if bd3 = false ∧ runEnd blankB s j = s.size then some el else none := by
  cases bd with
  | true =>
    simp only [if_true] at hm
    rw [h.2 rfl, if_neg]
    rintro ⟨h1, _⟩
    rw [hm] at h1
    cases h1
  | false =>
    simp only [Bool.false_eq_true, if_false] at hm
    have h60 : s[k] = 60 := by
      rw [hasB_pre, drop_cons s k hks] at hn
      simpa [isPre] using hn
    rw [h.stop hk hc, drop_cons s k hks, h60]
    unfold rootL
    simp only
    cases hq : elemL 40 (s.data.toList.drop (k + 1)) with
    | none =>
      rw [hq] at hm
      rw [if_neg]
      rintro ⟨h1, _⟩
      rw [hm] at h1
      cases h1
    | some p =>
      rw [hq] at hm
      obtain ⟨rfl, rfl, h3⟩ := hm
      obtain ⟨e, r⟩ := p
      have hle := runEnd_le blankB s j hj
      have : (r.dropWhile blankB = []) ↔ runEnd blankB s j = s.size := by
        change List.drop j s.data.toList = r at h3
        rw [← h3, ← drop_run, List.drop_eq_nil_iff, list_size]
        omega
      simp only [this, true_and]
end

end Go.Proofs.YtlljphipglgjiaaGreatDoor

namespace Go.Proofs.YtlljphipglgjiaaGreatDoor
open Go.RowKit Go.Lib

/-- The state of a document's reading: the answer's block, then the reader's. -/
structure RoS (s : ByteArray) (w W : World) (k : Nat) (bd : Bool) : Prop where
  rd : RdM (fun x => w.heap.size < x) W (w.heap.size + 1) s k bd
  errs : Errs (fun x => w.heap.size < x) W
  k0 : Blk W w.heap.size 25 elZero
  fr : Fr (fun x => w.heap.size ≤ x) w W
section
variable {s : ByteArray} {w W W' : World} {k k' : Nat} {bd bd' : Bool}
theorem RoS.stepM (h : RoS s w W k bd) (hr : RdM (fun x => w.heap.size < x) W' (w.heap.size + 1) s k' bd') (hf : Fr (fun x => w.heap.size < x) W W') : RoS s w W' k' bd' :=
  ⟨hr, h.errs.fr hf, h.k0.fr hf (Nat.lt_irrefl _), h.fr.trans (hf.mono fun _ hx => Nat.le_of_lt hx)⟩
theorem RoS.stepB (h : RoS s w W k bd) (hr : RdM (fun x => w.heap.size < x) W' (w.heap.size + 1) s k' bd') (hf : Fr (fun x => x = w.heap.size + 1) W W') : RoS s w W' k' bd' :=
  h.stepM hr (hf.mono fun x hx => by omega)
theorem RoS.drewN (h : RoS s w W k bd) (n : Nat) : RoS s w (W.drewN n) k bd := h.stepM (h.rd.drewN n) ((Fr.refl _ _).drewN n)
theorem RoS.start (hs : s.size ≤ 1000000) (hE : Errs (fun x => w.heap.size ≤ x) w) : RoS s w ((w.alloc (.cells elZero 25)).alloc (.cells #[.string s, .int .i64 ((0 : Nat) : Int), .bool false] 101)) 0 false := by
  have hN : New (fun x => w.heap.size ≤ x) w := fun k hk => hk
  have f : Fr (fun x => w.heap.size ≤ x) w ((w.alloc (.cells elZero 25)).alloc (.cells #[.string s, .int .i64 ((0 : Nat) : Int), .bool false] 101)) := ((Fr.refl _ w).alloc hN _).alloc hN _
  have hE2 := hE.fr f
  have hb : Blk ((w.alloc (.cells elZero 25)).alloc (.cells #[.string s, .int .i64 ((0 : Nat) : Int), .bool false] 101)) (w.heap.size + 1) 101 #[.string s, .int .i64 ((0 : Nat) : Int), .bool false] := by
    have := Blk.new (w.alloc (.cells elZero 25)) 101 #[.string s, .int .i64 ((0 : Nat) : Int), .bool false]
    simpa using this
  refine ⟨⟨Nat.lt_succ_self _, fun x hx => by simp at hx; omega, hs, Nat.zero_le _, hb⟩, ⟨hE2.1, hE2.2.1, fun h => hE2.2.2.1 (Nat.le_of_lt h), fun h => hE2.2.2.2 (Nat.le_of_lt h)⟩, (Blk.new w 25 elZero).alloc _, f⟩
end

theorem run_last (p : UInt8 → Bool) (s : ByteArray) (i : Nat) (hi : i < runEnd p s i) (_hs : i ≤ s.size) (h : runEnd p s i - 1 < s.size) : p (s[runEnd p s i - 1]'h) = true := by
  have hlen : ((s.data.toList.drop i).takeWhile p).length = runEnd p s i - i := by unfold runEnd; omega
  have hm : (s.data.toList.drop i)[runEnd p s i - 1 - i]? = some (s[runEnd p s i - 1]'h) := by
    rw [List.getElem?_drop, show i + (runEnd p s i - 1 - i) = runEnd p s i - 1 by omega, List.getElem?_eq_getElem (by rw [list_size]; exact h)]
    rfl
  have ht : ((s.data.toList.drop i).takeWhile p)[runEnd p s i - 1 - i]? = some (s[runEnd p s i - 1]'h) := by
    obtain ⟨t, ht⟩ := List.takeWhile_prefix p (l := s.data.toList.drop i)
    rw [← ht, List.getElem?_append_left (by omega)] at hm
    exact hm
  have hall : ∀ x ∈ (s.data.toList.drop i).takeWhile p, p x = true := fun x hx => (List.all_eq_true.1 (List.all_takeWhile (p := p))) x hx
  exact hall _ (List.mem_of_getElem? ht)

/-- What element hands back (as XmElem says it). -/
def ElPostR (M : Nat → Prop) (b : Nat) (s : ByteArray) (i : Nat) (w : World) (r : Option (XEl × List UInt8)) (e : Ending) (w' : World) : Prop :=
  ∃ (el : XEl) (av kv : Value) (j : Nat) (bd : Bool), e = .returned (.agg #[.string (bst el.name), av, .string (bst el.text), kv]) ∧ ElM 49 25 w' (fun x => w.heap.size ≤ x ∧ x < w'.heap.size) av kv el ∧ RdM M w' b s j bd ∧ Fr M w w' ∧ i ≤ j ∧
    (match r with | some p => bd = false ∧ el = p.1 ∧ s.data.toList.drop j = p.2 | none => bd = true)
def XSays (x : Option XEl) (el : XEl) (ok : Bool) : Prop :=
  match x with | some e0 => ok = true ∧ el = e0 | none => ok = false
/-- What XRead hands back. -/
def XPost (w : World) (x : Option XEl) (e : Ending) (w' : World) : Prop :=
  ∃ (el : XEl) (av kv : Value) (ok : Bool), e = .returned (.tuple #[.agg #[.string (bst el.name), av, .string (bst el.text), kv], .bool ok]) ∧ ElM 49 25 w' (fun g => w.heap.size ≤ g ∧ g < w'.heap.size) av kv el ∧ Fr (fun g => w.heap.size ≤ g) w w' ∧ XSays x el ok

theorem ElM.zero (w : World) (D : Nat → Prop) : ElM 49 25 w D (.slice none 0 0) (.slice none 0 0) (.mk [] [] [] []) :=
  .mk D [] [] [] [] _ _ (AttrsT.nil _ _) (fun g h => by simp [Value.ownBlock] at h) (KidsM.nil (TA := 49) D).1 (fun g h => by simp [Value.ownBlock] at h) (fun k h => by simp at h)
/-- Four bytes whose last one is blank open no comment. -/
theorem no_open (s : ByteArray) (m : Nat) (h5 : m + 4 - 1 < s.size) (h6 : blankB (s[m + 4 - 1]'h5) = true) : ((s.extract m (m + 4)).toList == [60, 33, 45, 45]) = false := by
  rw [Lib.extract_toList, beq_eq_false_iff_ne]
  intro e
  have h7 := congrArg (fun l => l[3]?) e
  have e3 : (m + 4 - m) = 4 := by omega
  have h8 : s.data.toList[m + 3]? = some (s[m + 4 - 1]'h5) := by
    rw [List.getElem?_eq_getElem (by rw [list_size]; omega)]
    rfl
  have h9 : ([60, 33, 45, 45] : List UInt8)[3]? = some 45 := rfl
  simp only [h9] at h7
  rw [e3, List.getElem?_take_of_lt (by omega), List.getElem?_drop, h8] at h7
  have := Option.some.inj h7
  rw [this] at h6
  revert h6
  decide

end Go.Proofs.YtlljphipglgjiaaGreatDoor

namespace Go.Proofs.YtlljphipglgjiaaGreatDoor
open Go.RowKit Go.Lib

theorem Tryz.info25r : (Tryz.prog.info? 25).map (fun i => (i.zero, i.size, i.bytes)) = some (some (.agg #[.string ⟨#[]⟩, .slice none 0 0, .string ⟨#[]⟩, .slice none 0 0]), 4, 80) := by kernel_rfl
theorem Tryz.info101 : (Tryz.prog.info? 101).map (fun i => (i.zero, i.size, i.bytes)) = some (some (.agg #[.string ⟨#[]⟩, .int .i64 0, .bool false]), 3, 32) := by kernel_rfl

theorem fr4 (a b c d : Value) (w : World) (g : Nat) : Fr (fun x => x = g) w ((((w.setCell ⟨g, 0, none⟩ a).setCell ⟨g, 1, none⟩ b).setCell ⟨g, 2, none⟩ c).setCell ⟨g, 3, none⟩ d).drew :=
  (((((Fr.refl (fun x => x = g) w).setCell (p := ⟨g, 0, none⟩) rfl a).setCell (p := ⟨g, 1, none⟩) rfl b).setCell (p := ⟨g, 2, none⟩) rfl c).setCell (p := ⟨g, 3, none⟩) rfl d).drewN 1
set_option maxRecDepth 100000 in
set_option maxHeartbeats 2000000 in
theorem xread_of (elem_any : ∀ (b : Nat) (s : ByteArray) (d : Nat), d ≤ 1000 → ∀ (M : Nat → Prop) (i : Nat) (bad : Bool) (w : World), RdM M w b s i bad → Errs M w → Calls Tryz.prog 55 #[.pointer (some ⟨b, 0, none⟩), .int .i64 (d : Int)] w (ElPostR M b s i w (if bad then none else elemL d (s.data.toList.drop i))))
    (s : ByteArray) (hs : s.size ≤ 1000000) (w : World) (hE : Errs (fun x => w.heap.size ≤ x) w) :
    Calls Tryz.prog 25 #[.string s] w (XPost w (xreadL s.data.toList)) := by
  have ELA := Lib.hid elem_any
  clear elem_any
  obtain ⟨q0, hq0⟩ : ∃ q, hasB s 0 (bst declL) = q := ⟨_, rfl⟩
  have hst := ProR.start hq0
  obtain ⟨x0, hx0⟩ : ∃ x, xreadL s.data.toList = x := ⟨_, rfl⟩
  rw [hx0] at hst ⊢
  obtain ⟨post, hpost⟩ : ∃ post, XPost w x0 = post := ⟨_, rfl⟩
  have hfin : ∀ (el : XEl) (av kv : Value) (ok : Bool) (w' : World), ElM 49 25 w' (fun g => w.heap.size ≤ g ∧ g < w'.heap.size) av kv el → Fr (fun g => w.heap.size ≤ g) w w' → XSays x0 el ok → post (.returned (.tuple #[.agg #[.string (bst el.name), av, .string (bst el.text), kv], .bool ok])) w' := by
    intro el av kv ok w' h1 h2 h3
    rw [← hpost]
    exact ⟨el, av, kv, ok, rfl, h1, h2, h3⟩
  rw [hpost]
  obtain ⟨i101, hi101, hz101a, hz101b, hz101c⟩ := info_parts Tryz.info101
  obtain ⟨i25, hi25, hz25a, hz25b, hz25c⟩ := info_parts Tryz.info25r
  have HST := Lib.hid hst
  have HFIN := Lib.hid hfin
  have hs0 := RoS.start hs hE
  have HS0 := Lib.hid hs0
  have HQ := Lib.hid (has_any _ _ s 0 false (bst declL) _ hs0.rd (by decide) q0 hq0)
  clear hst hfin hpost hE hs0 hq0 hx0
  go_enter Tryz.func25, Tryz.ntmps25
  go_wp2_with fail
  refine HQ.out.mono ?_
  rintro e w3 ⟨rfl, h7, hfr7⟩
  have HS3 := Lib.hid (HS0.out.stepB h7 hfr7)
  clear h7 hfr7 HQ HS0
  obtain ⟨k0, hk0⟩ : ∃ k, (if q0 then 0 + (bst declL).size else 0) = k := ⟨_, rfl⟩
  rw [hk0] at HST HS3
  clear hk0
  go_wp2_with fail
  go_loopg [] (s.size - k0) (fun g wr => ∃ (k : Nat) (bd : Bool), g = s.size - k ∧ RoS s w wr k bd ∧ Hid (ProR s x0 k bd))
  case atStart => exact ⟨k0, false, rfl, HS3.out, HST⟩
  case round =>
    obtain ⟨k, bd, hg, h1, HP⟩ := hrel
    have hk := h1.rd.2.2.2.1
    have HG := Lib.hid hg
    have HS := Lib.hid h1
    clear hg h1 HS3 HST
    cases hq : decide (k < runEnd blankB s k) with
    | true =>
      have hlt := of_decide_eq_true hq
      have hle := runEnd_le blankB s k hk
      have HB := Lib.hid (rd_blanks _ _ s k bd wr HS.out.rd)
      rw [hq] at HB
      have HP2 := Lib.hid (HP.out.blanks hlt hk)
      have HL := Lib.hid (run_last blankB s k hlt hk)
      obtain ⟨k2, hk2⟩ : ∃ x, runEnd blankB s k = x := ⟨_, rfl⟩
      rw [hk2] at HB HP2 HL hlt hle
      clear hq hk2
      go_wp2_with fail
      refine HB.out.mono ?_
      rintro e w4 ⟨rfl, h7, hfr7⟩
      have hs4 := HS.out.stepB h7 hfr7
      have c0 := hs4.rd.c0
      have c1 := hs4.rd.c1
      have HS4 := Lib.hid hs4
      clear h7 hfr7 hs4 HB
      by_cases h4 : 4 ≤ k2
      · obtain ⟨m, rfl⟩ : ∃ m, k2 = m + 4 := ⟨k2 - 4, by omega⟩
        have d1 : decide ((4 : Int) ≤ (m : Int) + 4) = true := by rw [decide_eq_true_eq]; omega
        have q1 : IntKind.i64.wrap (m : Int) = (m : Int) := by rw [IntKind.wrap_i64]; omega
        have q3 : ((m : Int) + 4).toNat = m + 4 := by omega
        have q4 : (m : Int) + 4 ≤ (s.size : Int) := by omega
        have q5 : (m : Int) ≤ (m : Int) + 4 := by omega
        have e1 : ((s.extract m (m + 4)).toList == [60, 33, 45, 45]) = false := by
          have h5 : m + 4 - 1 < s.size := by omega
          exact no_open s m h5 (HL.out h5)
        go_wp2_with fail
        go_quiet (fail)
        go_wp2_with fail
        go_roundg (s.size - (m + 4))
        case rel => exact ⟨m + 4, bd, rfl, HS4.out.drewN _, HP2⟩
        case measure => have := HG.out; omega
      · have d1 : decide ((4 : Int) ≤ (k2 : Int)) = false := by rw [decide_eq_false_iff_not]; omega
        go_wp2_with fail
        go_quiet (fail)
        go_wp2_with fail
        go_roundg (s.size - k2)
        case rel => exact ⟨k2, bd, rfl, HS4.out.drewN _, HP2⟩
        case measure => have := HG.out; omega
    | false =>
      have hno := of_decide_eq_false hq
      have HB := Lib.hid (rd_blanks _ _ s k bd wr HS.out.rd)
      have hge := runEnd_ge blankB s k
      have HNB : Hid (runEnd blankB s k ≤ k) := Lib.hid (by omega)
      rw [hq, show runEnd blankB s k = k by omega] at HB
      clear hq hno hge
      go_wp2_with fail
      refine HB.out.mono ?_
      rintro e w4 ⟨rfl, h7, hfr7⟩
      have HS4 := Lib.hid (HS.out.stepB h7 hfr7)
      clear h7 hfr7 HB
      go_wp2_with fail
      cases hq1 : hasB s k ⟨#[60, 33, 45, 45]⟩ with
      | true =>
        have hle : k + 4 ≤ s.size := hasB_le hq1 hk
        have HB := Lib.hid (rd_has_yes _ _ s k bd ⟨#[60, 33, 45, 45]⟩ _ HS4.out.rd (by decide) hq1)
        have HC := Lib.hid hq1
        have e1 : ((s.extract k (k + 4)).toList == [60, 33, 45, 45]) = true := by
          rw [Lib.extract_toList, beq_iff_eq]
          unfold hasB sub at hq1
          exact of_decide_eq_true hq1
        clear hq1
        refine HB.out.mono ?_
        rintro e w5 ⟨rfl, h7, hfr7⟩
        have h7' : RdM (fun x => w.heap.size < x) w5 (w.heap.size + 1) s (k + 4) bd := h7
        have hs5 := HS4.out.stepB h7' hfr7
        have c0 := hs5.rd.c0
        have c1 := hs5.rd.c1
        have HS5 := Lib.hid hs5
        clear h7 h7' hfr7 hs5 HB
        have d1 : decide ((4 : Int) ≤ (k : Int) + 4) = true := by rw [decide_eq_true_eq]; omega
        have q1 : IntKind.i64.wrap (k : Int) = (k : Int) := by rw [IntKind.wrap_i64]; omega
        have q3 : ((k : Int) + 4).toNat = k + 4 := by omega
        have q4 : (k : Int) + 4 ≤ (s.size : Int) := by omega
        have q5 : (k : Int) ≤ (k : Int) + 4 := by omega
        go_wp2_with fail
        go_quiet (fail)
        go_wp2_with fail
        refine (comment_any _ _ s (k + 4) bd _ (HS5.out.drewN nq).rd).mono ?_
        rintro e w6 ⟨v, j, bd2, rfl, h7, hf7, hpj, hvl, hm⟩
        have HS6 := Lib.hid (HS5.out.stepM h7 (((Fr.refl _ _).drewN nq).trans hf7))
        have HP6 : Hid (ProR s x0 j bd2) := Lib.hid (HP.out.comment HNB.out HC.out hpj hk (by
          cases hx : (if bd = true then none else commentL (s.data.toList.drop (k + 4))) with
          | none => rw [hx] at hm; exact hm
          | some p => rw [hx] at hm; exact ⟨hm.1, hm.2.2⟩))
        clear h7 hf7 hvl hm
        go_wp2_with fail
        go_roundg (s.size - j)
        case rel => exact ⟨j, bd2, rfl, HS6.out, HP6⟩
        case measure => have := HG.out; omega
      | false =>
        have HC := Lib.hid hq1
        have HB := Lib.hid (has_any _ _ s k bd ⟨#[60, 33, 45, 45]⟩ _ HS4.out.rd (by decide) false hq1)
        clear hq1
        refine HB.out.mono ?_
        rintro e w5 ⟨rfl, h7, hfr7⟩
        have h7' : RdM (fun x => w.heap.size < x) w5 (w.heap.size + 1) s k bd := h7
        have HS5 := Lib.hid (HS4.out.stepB h7' hfr7)
        clear h7 h7' hfr7 HB HS4
        go_wp2_with fail
        cases hq3 : hasB s k ⟨#[60]⟩ with
        | false =>
          have HNO := Lib.hid (HP.out.no HNB.out HC.out hq3)
          have HB := Lib.hid (has_any _ _ s k bd ⟨#[60]⟩ _ HS5.out.rd (by decide) false hq3)
          clear hq3
          refine HB.out.mono ?_
          rintro e w6 ⟨rfl, h7, hfr7⟩
          have h7' : RdM (fun x => w.heap.size < x) w6 (w.heap.size + 1) s k bd := h7
          have hs6 := HS5.out.stepB h7' hfr7
          have fz := hs6.k0.frozen
          have z0 := hs6.k0.cell 0
          have z1 := hs6.k0.cell 1
          have z2 := hs6.k0.cell 2
          have z3 := hs6.k0.cell 3
          unfold elZero at z0 z1 z2 z3
          have HS6 := Lib.hid hs6
          clear h7 h7' hfr7 HB HS5 hs6
          go_wp2_with fail
          exact bodyPost_ret (v := .tuple #[.agg #[.string ⟨#[]⟩, .slice none 0 0, .string ⟨#[]⟩, .slice none 0 0], .bool false]) (by simp [results, Tryz.results25, go_sem, z0, z1, z2, z3]) rfl (HFIN.out (.mk [] [] [] []) _ _ false _ (ElM.zero _ _) ((((HS6.out.fr.setCell (p := ⟨w.heap.size, 0, none⟩) (Nat.le_refl _) _).setCell (p := ⟨w.heap.size, 1, none⟩) (Nat.le_refl _) _).setCell (p := ⟨w.heap.size, 2, none⟩) (Nat.le_refl _) _).setCell (p := ⟨w.heap.size, 3, none⟩) (Nat.le_refl _) _) (by rw [HNO.out]; exact rfl))
        | true =>
          have hle : k + 1 ≤ s.size := hasB_le hq3 hk
          have HC3 := Lib.hid hq3
          have HB := Lib.hid (rd_has_yes _ _ s k bd ⟨#[60]⟩ _ HS5.out.rd (by decide) hq3)
          clear hq3
          refine HB.out.mono ?_
          rintro e w6 ⟨rfl, h7, hfr7⟩
          have h7' : RdM (fun x => w.heap.size < x) w6 (w.heap.size + 1) s (k + 1) bd := h7
          have HS6 := Lib.hid (HS5.out.stepB h7' hfr7)
          clear h7 h7' hfr7 HB HS5
          go_wp2_with fail
          refine (ELA.out (w.heap.size + 1) s 40 (by omega) _ (k + 1) bd _ HS6.out.rd HS6.out.errs).mono ?_
          rintro e w7 ⟨el, av, kv, j, bd3, rfl, hel, h7, hf7, hpj, hm⟩
          have HS7 := Lib.hid (HS6.out.stepM h7 hf7)
          have hjs := h7.2.2.2.1
          have HX : Hid (x0 = if bd3 = false ∧ runEnd blankB s j = s.size then some el else none) := Lib.hid (HP.out.yes HNB.out HC.out HC3.out (by omega) hm hjs)
          obtain ⟨⟨ap, an, ac, rfl⟩, ⟨kp, kn, kc, rfl⟩⟩ := hel.slices
          have HEL := Lib.hid hel
          have hl6 := HS6.out.rd.2.2.2.2.lt
          have hl60 := HS6.out.k0.lt
          clear h7 hf7 hel hm
          obtain ⟨W8, hW8⟩ : ∃ W, w7.alloc (.cells #[.string (bst el.name), .slice ap an ac, .string (bst el.text), .slice kp kn kc] 25) = W := ⟨_, rfl⟩
          have hb8 : Below w7.heap.size w7 W8 := by rw [← hW8]; exact (Below.refl _ _).alloc (Nat.le_refl _) _
          have hk8 := Blk.new w7 25 #[.string (bst el.name), .slice ap an ac, .string (bst el.text), .slice kp kn kc]
          rw [hW8] at hk8
          have hs8 := HS7.out.stepM (HS7.out.rd.below hb8) (Fr.below hb8 (Nat.le_refl _) HS7.out.rd.2.1)
          have HB := Lib.hid (rd_blanks _ _ s j bd3 W8 hs8.rd)
          have HEL8 := Lib.hid (HEL.out.fr (Fr.below (M := fun x => w7.heap.size ≤ x) hb8 (Nat.le_refl _) fun _ h => h) (fun x hx => by have := hx.2; omega))
          have HW8 := Lib.hid hW8
          have HS8 := Lib.hid hs8
          have HK8 := Lib.hid hk8
          have hle8 := hb8.size
          obtain ⟨k2, hk2⟩ : ∃ x, runEnd blankB s j = x := ⟨_, rfl⟩
          have hk2s : k2 ≤ s.size := by rw [← hk2]; exact runEnd_le blankB s j hjs
          rw [hk2] at HB HX
          clear hW8 hb8 hk8 hs8 hk2 HEL
          go_wp2_with fail
          rw [HW8.out]
          refine HB.out.mono ?_
          rintro e w9 ⟨rfl, h7, hfr7⟩
          have hs9 := HS8.out.stepB h7 hfr7
          have hne : w7.heap.size ≠ w.heap.size + 1 := by have := HS7.out.rd.2.2.2.2.lt; omega
          have hk9 : Blk w9 w7.heap.size 25 #[.string (bst el.name), .slice ap an ac, .string (bst el.text), .slice kp kn kc] := HK8.out.fr hfr7 hne
          have HEL9 := Lib.hid (HEL8.out.fr hfr7 (fun x hx => by have := hx.1; omega))
          have y0 := hk9.cell 0
          have y1 := hk9.cell 1
          have y2 := hk9.cell 2
          have y3 := hk9.cell 3
          have fy := hk9.frozen
          have c0 := hs9.rd.c0
          have c1 := hs9.rd.c1
          have c2 := hs9.rd.c2
          have fz := hs9.k0.frozen
          have z0 := hs9.k0.cell 0
          have z1 := hs9.k0.cell 1
          have z2 := hs9.k0.cell 2
          have z3 := hs9.k0.cell 3
          unfold elZero at z0 z1 z2 z3
          have HS9 := Lib.hid hs9
          have hl9 := hk9.lt
          have FINW : ∀ W : World, Fr (fun x => x = w.heap.size) w9 W → ElM 49 25 W (fun g => w.heap.size ≤ g ∧ g < W.heap.size) (.slice ap an ac) (.slice kp kn kc) el ∧ Fr (fun g => w.heap.size ≤ g) w W := fun W hf =>
            ⟨(HEL9.out.fr hf (fun x hx => by have := hx.1; omega)).mono fun x hx => ⟨by have := hx.1; omega, by have := hx.2; have := hf.size; omega⟩, hs9.fr.trans (hf.mono fun x hx => by omega)⟩
          have HFW := Lib.hid FINW
          clear h7 hfr7 hk9 hs9 HB FINW hl9 hl6 hl60
          cases bd3 with
          | true =>
            have HSAY : Hid (XSays x0 el false) := Lib.hid (by rw [HX.out, if_neg (fun h => by cases h.1)]; rfl)
            go_wp2_with fail
            go_big_region
            go_wp2_with fail
            exact bodyPost_ret (v := .tuple #[.agg #[.string (bst el.name), .slice ap an ac, .string (bst el.text), .slice kp kn kc], .bool false]) (by simp [results, Tryz.results25, go_sem, z0, z1, z2, z3]) rfl (HFIN.out el _ _ false _ (HFW.out _ (fr4 (.string (bst el.name)) (.slice ap an ac) (.string (bst el.text)) (.slice kp kn kc) w9 w.heap.size)).1 (HFW.out _ (fr4 (.string (bst el.name)) (.slice ap an ac) (.string (bst el.text)) (.slice kp kn kc) w9 w.heap.size)).2 HSAY.out)
          | false =>
            by_cases hq : k2 = s.size
            · have g1 : ((k2 : Int) == (s.size : Int)) = true := by rw [hq]; exact beq_self_eq_true _
              have HSAY : Hid (XSays x0 el true) := Lib.hid (by rw [HX.out, if_pos ⟨rfl, hq⟩]; exact ⟨rfl, rfl⟩)
              clear hq
              go_wp2_with fail
              go_big_region
              go_wp2_with fail
              exact bodyPost_ret (v := .tuple #[.agg #[.string (bst el.name), .slice ap an ac, .string (bst el.text), .slice kp kn kc], .bool true]) (by simp [results, Tryz.results25, go_sem, z0, z1, z2, z3]) rfl (HFIN.out el _ _ true _ (HFW.out _ (fr4 (.string (bst el.name)) (.slice ap an ac) (.string (bst el.text)) (.slice kp kn kc) w9 w.heap.size)).1 (HFW.out _ (fr4 (.string (bst el.name)) (.slice ap an ac) (.string (bst el.text)) (.slice kp kn kc) w9 w.heap.size)).2 HSAY.out)
            · have g1 : ((k2 : Int) == (s.size : Int)) = false := by rw [beq_eq_false_iff_ne]; omega
              have HSAY : Hid (XSays x0 el false) := Lib.hid (by rw [HX.out, if_neg (fun h => hq h.2)]; rfl)
              clear hq
              go_wp2_with fail
              go_big_region
              go_wp2_with fail
              exact bodyPost_ret (v := .tuple #[.agg #[.string (bst el.name), .slice ap an ac, .string (bst el.text), .slice kp kn kc], .bool false]) (by simp [results, Tryz.results25, go_sem, z0, z1, z2, z3]) rfl (HFIN.out el _ _ false _ (HFW.out _ (fr4 (.string (bst el.name)) (.slice ap an ac) (.string (bst el.text)) (.slice kp kn kc) w9 w.heap.size)).1 (HFW.out _ (fr4 (.string (bst el.name)) (.slice ap an ac) (.string (bst el.text)) (.slice kp kn kc) w9 w.heap.size)).2 HSAY.out)
end Go.Proofs.YtlljphipglgjiaaGreatDoor

namespace Go.Proofs.YtlljphipglgjiaaGreatDoor
open Go Go.RowKit Go.Lib

theorem elem_any (b : Nat) (s : ByteArray) : ∀ d : Nat, d ≤ 1000 → ∀ (M : Nat → Prop) (i : Nat) (bad : Bool) (w : World), RdM M w b s i bad → Errs M w → Calls Tryz.prog 55 #[.pointer (some ⟨b, 0, none⟩), .int .i64 (d : Int)] w (ElPost M b s i w (if bad then none else elemL d (s.data.toList.drop i))) := by
  intro d
  induction d with
  | zero => exact fun hd => elem_step 0 b s hd (fun d' h => by omega)
  | succ d ih =>
    intro hd
    refine elem_step (d + 1) b s hd fun d' h => ?_
    obtain rfl : d' = d := by omega
    exact ih (by omega)
theorem xread_any (s : ByteArray) (hs : s.size ≤ 1000000) (w : World) (hE : Errs (fun x => w.heap.size ≤ x) w) : Calls Tryz.prog 25 #[.string s] w (XPost w (xreadL s.data.toList)) :=
  xread_of (fun b s d hd M i bad w hR hE => (elem_any b s d hd M i bad w hR hE).mono fun _ _ h => h) s hs w hE
end Go.Proofs.YtlljphipglgjiaaGreatDoor
