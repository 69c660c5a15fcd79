/-
  A document's root: what spec.XRead's prologue stands for, step by step (plain).
  spec.XRead: the state of its reading.
-/
import Derived.Test.YtlljphipglgjiaaGreatDoorXmEl0
namespace Go.Proofs.YtlljphipglgjiaaGreatDoor
open Go.RowKit Go.Lib

/-- The root that follows the prologue. -/
def rootL (o : Option (List UInt8)) : Option XEl :=
  match o with
  | some (60 :: t) => match elemL 40 t with
    | some (e, r) => if r.dropWhile blankB = [] then some e else none
    | none => none
  | _ => none
theorem xreadL_eq (l : List UInt8) : xreadL l = rootL (prologF (l.length + 1) (if isPre declL l then l.drop declL.length else l)) := rfl

/-- Where the prologue's reading stands. -/
def ProR (s : ByteArray) (x0 : Option XEl) (k : Nat) (bd : Bool) : Prop :=
  (bd = false → ∃ f, (s.data.toList.drop k).length < f ∧ x0 = rootL (prologF f (s.data.toList.drop k))) ∧ (bd = true → x0 = none)
theorem ProR.start {s : ByteArray} {q : Bool} (h : hasB s 0 (bst declL) = q) : ProR s (xreadL s.data.toList) (if q then 0 + (bst declL).size else 0) false := by
  refine ⟨fun _ => ⟨s.data.toList.length + 1, by rw [List.length_drop]; omega, ?_⟩, fun h => nomatch h⟩
  rw [xreadL_eq]
  rw [hasB_pre, bst_toList, List.drop_zero] at h
  rw [h]
  cases q <;> rfl

section
variable {s : ByteArray} {x0 : Option XEl} {k j : Nat} {bd bd2 : Bool}
theorem ProR.blanks (h : ProR s x0 k bd) (hk : k < runEnd blankB s k) (hks : k ≤ s.size) : ProR s x0 (runEnd blankB s k) bd := by
  refine ⟨fun hb => ?_, h.2⟩
  obtain ⟨f, hf, hx⟩ := h.1 hb
  obtain ⟨g, rfl⟩ : ∃ g, f = g + 1 := ⟨f - 1, by omega⟩
  have hle := runEnd_le blankB s k hks
  have hlt : ((s.data.toList.drop k).dropWhile blankB).length < (s.data.toList.drop k).length := by
    rw [← drop_run, List.length_drop, List.length_drop, list_size]
    omega
  rw [prologF, if_pos hlt] at hx
  refine ⟨g, by rw [drop_run]; omega, by rw [drop_run]; exact hx⟩
theorem ProR.comment (h : ProR s x0 k bd) (hk : runEnd blankB s k ≤ k) (hc : hasB s k ⟨#[60, 33, 45, 45]⟩ = true) (hj : k + 4 ≤ j) (hks : k ≤ s.size)
    (hm : match (if bd then none else commentL (s.data.toList.drop (k + 4))) with | some p => bd2 = false ∧ s.data.toList.drop j = p.2 | none => bd2 = true) : ProR s x0 j bd2 := by
  cases bd with
  | true =>
    simp only [if_true] at hm
    exact ⟨(fun hb => by rw [hm] at hb; cases hb), fun _ => h.2 rfl⟩
  | false =>
    simp only [Bool.false_eq_true, if_false] at hm
    obtain ⟨f, hf, hx⟩ := h.1 rfl
    obtain ⟨g, rfl⟩ : ∃ g, f = g + 1 := ⟨f - 1, by omega⟩
    have hge := runEnd_ge blankB s k
    have hnl : ¬ ((s.data.toList.drop k).dropWhile blankB).length < (s.data.toList.drop k).length := by
      rw [← drop_run, show runEnd blankB s k = k by omega]
      exact Nat.lt_irrefl _
    have hle4 : k + 4 ≤ s.size := hasB_le hc hks
    rw [hasB_pre] at hc
    have hle : 4 ≤ (s.data.toList.drop k).length := by
      rw [List.length_drop, list_size]
      omega
    rw [prologF, if_neg hnl, if_pos hc, List.drop_drop] at hx
    cases hq : commentL (s.data.toList.drop (k + 4)) with
    | none =>
      rw [hq] at hm hx
      exact ⟨(fun hb => by rw [hm] at hb; cases hb), fun _ => hx⟩
    | some p =>
      rw [hq] at hm hx
      obtain ⟨rfl, h2⟩ := hm
      refine ⟨fun _ => ⟨g, ?_, by rw [h2]; exact hx⟩, fun h => nomatch h⟩
      rw [List.length_drop] at hf hle ⊢
      omega
theorem ProR.stop (h : ProR s x0 k false) (hk : runEnd blankB s k ≤ k) (hc : hasB s k ⟨#[60, 33, 45, 45]⟩ = false) : x0 = rootL (some (s.data.toList.drop k)) := by
  obtain ⟨f, hf, hx⟩ := h.1 rfl
  obtain ⟨g, rfl⟩ : ∃ g, f = g + 1 := ⟨f - 1, by omega⟩
  have hge := runEnd_ge blankB s k
  have hnl : ¬ ((s.data.toList.drop k).dropWhile blankB).length < (s.data.toList.drop k).length := by
    rw [← drop_run, show runEnd blankB s k = k by omega]
    exact Nat.lt_irrefl _
  rw [hasB_pre] at hc
  rw [prologF, if_neg hnl, if_neg (by rw [hc]; exact Bool.false_ne_true)] at hx
  exact hx
theorem ProR.no (h : ProR s x0 k bd) (hk : runEnd blankB s k ≤ k) (hc : hasB s k ⟨#[60, 33, 45, 45]⟩ = false) (hn : hasB s k ⟨#[60]⟩ = false) : x0 = none := by
  cases bd with
  | true => exact h.2 rfl
  | false =>
    rw [h.stop hk hc]
    rw [hasB_pre] at hn
    generalize s.data.toList.drop k = l at hn
    cases l with
    | nil => rfl
    | cons c t =>
      have : c ≠ 60 := fun e => by
        rw [e] at hn
        simp [isPre] at hn
      unfold rootL
      split
      · rename_i heq
        injection heq with heq
        injection heq with h1 _
        exact absurd h1 this
      · rfl
theorem ProR.yes (h : ProR s x0 k bd) (hk : runEnd blankB s k ≤ k) (hc : hasB s k ⟨#[60, 33, 45, 45]⟩ = false) (hn : hasB s k ⟨#[60]⟩ = true) (hks : k < s.size)
    {el : XEl} {bd3 : Bool} (hm : match (if bd then none else elemL 40 (s.data.toList.drop (k + 1))) with | some p => bd3 = false ∧ el = p.1 ∧ s.data.toList.drop j = p.2 | none => bd3 = true) (hj : j ≤ s.size) :
    x0 = if bd3 = false ∧ runEnd blankB s j = s.size then some el else none := by
  cases bd with
  | true =>
    simp only [if_true] at hm
    rw [h.2 rfl, if_neg]
    rintro ⟨h1, _⟩
    rw [hm] at h1
    cases h1
  | false =>
    simp only [Bool.false_eq_true, if_false] at hm
    have h60 : s[k] = 60 := by
      rw [hasB_pre, drop_cons s k hks] at hn
      simpa [isPre] using hn
    rw [h.stop hk hc, drop_cons s k hks, h60]
    unfold rootL
    simp only
    cases hq : elemL 40 (s.data.toList.drop (k + 1)) with
    | none =>
      rw [hq] at hm
      rw [if_neg]
      rintro ⟨h1, _⟩
      rw [hm] at h1
      cases h1
    | some p =>
      rw [hq] at hm
      obtain ⟨rfl, rfl, h3⟩ := hm
      obtain ⟨e, r⟩ := p
      have hle := runEnd_le blankB s j hj
      have : (r.dropWhile blankB = []) ↔ runEnd blankB s j = s.size := by
        change List.drop j s.data.toList = r at h3
        rw [← h3, ← drop_run, List.drop_eq_nil_iff, list_size]
        omega
      simp only [this, true_and]
end

end Go.Proofs.YtlljphipglgjiaaGreatDoor

namespace Go.Proofs.YtlljphipglgjiaaGreatDoor
open Go.RowKit Go.Lib

/-- The state of a document's reading: the answer's block, then the reader's. -/
structure RoS (s : ByteArray) (w W : World) (k : Nat) (bd : Bool) : Prop where
  rd : RdM (fun x => w.heap.size < x) W (w.heap.size + 1) s k bd
  errs : Errs (fun x => w.heap.size < x) W
  k0 : Blk W w.heap.size 25 elZero
  fr : Fr (fun x => w.heap.size ≤ x) w W
section
variable {s : ByteArray} {w W W' : World} {k k' : Nat} {bd bd' : Bool}
theorem RoS.stepM (h : RoS s w W k bd) (hr : RdM (fun x => w.heap.size < x) W' (w.heap.size + 1) s k' bd') (hf : Fr (fun x => w.heap.size < x) W W') : RoS s w W' k' bd' :=
  ⟨hr, h.errs.fr hf, h.k0.fr hf (Nat.lt_irrefl _), h.fr.trans (hf.mono fun _ hx => Nat.le_of_lt hx)⟩
theorem RoS.stepB (h : RoS s w W k bd) (hr : RdM (fun x => w.heap.size < x) W' (w.heap.size + 1) s k' bd') (hf : Fr (fun x => x = w.heap.size + 1) W W') : RoS s w W' k' bd' :=
  h.stepM hr (hf.mono fun x hx => by omega)
theorem RoS.drewN (h : RoS s w W k bd) (n : Nat) : RoS s w (W.drewN n) k bd := h.stepM (h.rd.drewN n) ((Fr.refl _ _).drewN n)
theorem RoS.start (hs : s.size ≤ 1000000) (hE : Errs (fun x => w.heap.size ≤ x) w) : RoS s w ((w.alloc (.cells elZero 25)).alloc (.cells #[.string s, .int .i64 ((0 : Nat) : Int), .bool false] 101)) 0 false := by
  have hN : New (fun x => w.heap.size ≤ x) w := fun k hk => hk
  have f : Fr (fun x => w.heap.size ≤ x) w ((w.alloc (.cells elZero 25)).alloc (.cells #[.string s, .int .i64 ((0 : Nat) : Int), .bool false] 101)) := ((Fr.refl _ w).alloc hN _).alloc hN _
  have hE2 := hE.fr f
  have hb : Blk ((w.alloc (.cells elZero 25)).alloc (.cells #[.string s, .int .i64 ((0 : Nat) : Int), .bool false] 101)) (w.heap.size + 1) 101 #[.string s, .int .i64 ((0 : Nat) : Int), .bool false] := by
    have := Blk.new (w.alloc (.cells elZero 25)) 101 #[.string s, .int .i64 ((0 : Nat) : Int), .bool false]
    simpa using this
  refine ⟨⟨Nat.lt_succ_self _, fun x hx => by simp at hx; omega, hs, Nat.zero_le _, hb⟩, ⟨hE2.1, hE2.2.1, fun h => hE2.2.2.1 (Nat.le_of_lt h), fun h => hE2.2.2.2 (Nat.le_of_lt h)⟩, (Blk.new w 25 elZero).alloc _, f⟩
end

theorem run_last (p : UInt8 → Bool) (s : ByteArray) (i : Nat) (hi : i < runEnd p s i) (_hs : i ≤ s.size) (h : runEnd p s i - 1 < s.size) : p (s[runEnd p s i - 1]'h) = true := by
  have hlen : ((s.data.toList.drop i).takeWhile p).length = runEnd p s i - i := by unfold runEnd; omega
  have hm : (s.data.toList.drop i)[runEnd p s i - 1 - i]? = some (s[runEnd p s i - 1]'h) := by
    rw [List.getElem?_drop, show i + (runEnd p s i - 1 - i) = runEnd p s i - 1 by omega, List.getElem?_eq_getElem (by rw [list_size]; exact h)]
    rfl
  have ht : ((s.data.toList.drop i).takeWhile p)[runEnd p s i - 1 - i]? = some (s[runEnd p s i - 1]'h) := by
    obtain ⟨t, ht⟩ := List.takeWhile_prefix p (l := s.data.toList.drop i)
    rw [← ht, List.getElem?_append_left (by omega)] at hm
    exact hm
  have hall : ∀ x ∈ (s.data.toList.drop i).takeWhile p, p x = true := fun x hx => (List.all_eq_true.1 (List.all_takeWhile (p := p))) x hx
  exact hall _ (List.mem_of_getElem? ht)

/-- What element hands back (as XmElem says it). -/
def ElPostR (M : Nat → Prop) (b : Nat) (s : ByteArray) (i : Nat) (w : World) (r : Option (XEl × List UInt8)) (e : Ending) (w' : World) : Prop :=
  ∃ (el : XEl) (av kv : Value) (j : Nat) (bd : Bool), e = .returned (.agg #[.string (bst el.name), av, .string (bst el.text), kv]) ∧ ElM 49 25 w' (fun x => w.heap.size ≤ x ∧ x < w'.heap.size) av kv el ∧ RdM M w' b s j bd ∧ Fr M w w' ∧ i ≤ j ∧
    (match r with | some p => bd = false ∧ el = p.1 ∧ s.data.toList.drop j = p.2 | none => bd = true)
def XSays (x : Option XEl) (el : XEl) (ok : Bool) : Prop :=
  match x with | some e0 => ok = true ∧ el = e0 | none => ok = false
/-- What XRead hands back. -/
def XPost (w : World) (x : Option XEl) (e : Ending) (w' : World) : Prop :=
  ∃ (el : XEl) (av kv : Value) (ok : Bool), e = .returned (.tuple #[.agg #[.string (bst el.name), av, .string (bst el.text), kv], .bool ok]) ∧ ElM 49 25 w' (fun g => w.heap.size ≤ g ∧ g < w'.heap.size) av kv el ∧ Fr (fun g => w.heap.size ≤ g) w w' ∧ XSays x el ok

theorem ElM.zero (w : World) (D : Nat → Prop) : ElM 49 25 w D (.slice none 0 0) (.slice none 0 0) (.mk [] [] [] []) :=
  .mk D [] [] [] [] _ _ (AttrsT.nil _ _) (fun g h => by simp [Value.ownBlock] at h) (KidsM.nil (TA := 49) D).1 (fun g h => by simp [Value.ownBlock] at h) (fun k h => by simp at h)
/-- Four bytes whose last one is blank open no comment. -/
theorem no_open (s : ByteArray) (m : Nat) (h5 : m + 4 - 1 < s.size) (h6 : blankB (s[m + 4 - 1]'h5) = true) : ((s.extract m (m + 4)).toList == [60, 33, 45, 45]) = false := by
  rw [Lib.extract_toList, beq_eq_false_iff_ne]
  intro e
  have h7 := congrArg (fun l => l[3]?) e
  have e3 : (m + 4 - m) = 4 := by omega
  have h8 : s.data.toList[m + 3]? = some (s[m + 4 - 1]'h5) := by
    rw [List.getElem?_eq_getElem (by rw [list_size]; omega)]
    rfl
  have h9 : ([60, 33, 45, 45] : List UInt8)[3]? = some 45 := rfl
  simp only [h9] at h7
  rw [e3, List.getElem?_take_of_lt (by omega), List.getElem?_drop, h8] at h7
  have := Option.some.inj h7
  rw [this] at h6
  revert h6
  decide

end Go.Proofs.YtlljphipglgjiaaGreatDoor
