/-
  An element's kids, step by step (plain).
-/
import Derived.Test.YtlljphipglgjiaaGreatDoorXmCom
namespace Go.Proofs.YtlljphipglgjiaaGreatDoor
open Go.RowKit Go.Lib

/-- Where the kids' reading stands: behind ks, at place k. -/
def KidR (s : ByteArray) (d : Nat) (nm : List UInt8) (al : List AttrS) (r0 : Option (XEl × List UInt8)) (ks : List (XEl × Value × Value)) (k : Nat) (bd : Bool) : Prop :=
  (bd = false → (d = 0 ∧ r0 = none) ∨ ∃ d', d = d' + 1 ∧ ∃ f, (s.data.toList.drop k).length < f ∧ r0 = (kidsF (elemL d') nm f (s.data.toList.drop k)).map fun p => (.mk nm al [] (ks.map (·.1) ++ p.1), p.2)) ∧ (bd = true → r0 = none)
theorem KidR.start {s : ByteArray} {d : Nat} {nm : List UInt8} {al : List AttrS} {r0 : Option (XEl × List UInt8)} {k : Nat} {bd : Bool}
    (h1 : bd = false → r0 = (kidsAt d nm (s.data.toList.drop k)).map fun p => (.mk nm al [] p.1, p.2)) (h2 : bd = true → r0 = none) : KidR s d nm al r0 [] k bd := by
  refine ⟨fun h => ?_, h2⟩
  have := h1 h
  cases d with
  | zero => exact .inl ⟨rfl, this⟩
  | succ d' => exact .inr ⟨d', rfl, _, Nat.lt_succ_self _, by simpa [kidsAt] using this⟩

section
variable {el : List UInt8 → Option (XEl × List UInt8)} {nm : List UInt8} {f : Nat} {l : List UInt8}
theorem kidsF_nil : kidsF el nm f [] = none := by cases f <;> simp [kidsF]
theorem kidsF_close (hl : l ≠ []) (h : isPre [60, 47] l = true) : kidsF el nm (f + 1) l =
    if (l.drop 2).takeWhile nameC = nm ∧ goodName ((l.drop 2).takeWhile nameC) = true ∧ isPre [62] (((l.drop 2).dropWhile nameC).dropWhile blankB) = true then some ([], (((l.drop 2).dropWhile nameC).dropWhile blankB).drop 1) else none := by
  rw [kidsF, if_neg hl, if_pos h]
def kidItem (el : List UInt8 → Option (XEl × List UInt8)) (l : List UInt8) : Option (XEl × List UInt8) :=
  if isPre [60, 33, 45, 45] l then (commentL (l.drop 4)).map fun p => (.mk [33] [] p.1 [], p.2)
  else if isPre [60] l then el (l.drop 1)
  else (txtF 60 60 (l.length + 1) l).map fun p => (.mk [] [] p.1 [], p.2)
theorem kidsF_item (hl : l ≠ []) (h : isPre [60, 47] l = false) : kidsF el nm (f + 1) l = match kidItem el l with
    | none => none
    | some p => (kidsF el nm f p.2).map fun q => (p.1 :: q.1, q.2) := by
  rw [kidsF, if_neg hl, if_neg (by rw [h]; exact Bool.false_ne_true)]
  unfold kidItem
  by_cases h1 : isPre [60, 33, 45, 45] l = true
  · rw [if_pos h1, if_pos h1]
    cases commentL (l.drop 4) <;> rfl
  · rw [if_neg h1, if_neg h1]
    by_cases h2 : isPre [60] l = true
    · rw [if_pos h2, if_pos h2]
      cases el (l.drop 1) <;> rfl
    · rw [if_neg h2, if_neg h2]
      cases txtF 60 60 (l.length + 1) l <;> rfl
end

/-- What an item that was read says. -/
def ItemSays (s : ByteArray) (x : Option (XEl × List UInt8)) (el : XEl) (j : Nat) (bd : Bool) : Prop :=
  match x with | some p => bd = false ∧ el = p.1 ∧ s.data.toList.drop j = p.2 | none => bd = true
theorem KidR.step {s : ByteArray} {d' : Nat} {nm : List UInt8} {al : List AttrS} {r0 : Option (XEl × List UInt8)} {ks : List (XEl × Value × Value)} {k j : Nat} {bd : Bool} {e : XEl} {av kv : Value}
    (h : KidR s (d' + 1) nm al r0 ks k false) (hk : k < s.size) (hc : isPre [60, 47] (s.data.toList.drop k) = false) (hi : ItemSays s (kidItem (elemL d') (s.data.toList.drop k)) e j bd) (hj : bd = false → k < j) : KidR s (d' + 1) nm al r0 (ks ++ [(e, av, kv)]) j bd := by
  rcases h.1 rfl with ⟨h0, _⟩ | ⟨d2, hd, f, hf, hr⟩
  · omega
  obtain rfl : d2 = d' := by omega
  obtain ⟨g, rfl⟩ : ∃ g, f = g + 1 := ⟨f - 1, by omega⟩
  have hlen : ∀ x, (s.data.toList.drop x).length = s.size - x := fun x => by rw [List.length_drop, list_size]
  have hne : s.data.toList.drop k ≠ [] := by
    intro e
    have := congrArg List.length e
    rw [hlen] at this
    simp at this
    omega
  rw [kidsF_item hne hc] at hr
  rw [hlen] at hf
  cases hx : kidItem (elemL d2) (s.data.toList.drop k) with
  | none =>
    rw [hx] at hi hr
    obtain rfl : bd = true := hi
    exact ⟨fun h => (nomatch h), fun _ => hr⟩
  | some p =>
    rw [hx] at hi hr
    obtain ⟨rfl, rfl, h3⟩ := hi
    have := hj rfl
    refine ⟨fun _ => .inr ⟨d2, rfl, g, by rw [hlen]; omega, ?_⟩, fun h => nomatch h⟩
    rw [hr, h3]
    simp only
    cases kidsF (elemL d2) nm g p.2 <;> simp

theorem cutL_lt {c : UInt8} {l a r : List UInt8} (h : cutL c l = some (a, r)) : r.length < l.length := by
  unfold cutL at h
  split at h
  · rename_i hm
    simp only [Option.some.injEq, Prod.mk.injEq] at h
    obtain ⟨-, rfl⟩ := h
    rw [List.length_drop]
    have : 0 < l.length := List.length_pos_of_mem hm
    omega
  · cases h
theorem txtF_le (a b : UInt8) : ∀ (f : Nat) (l v r : List UInt8), txtF a b f l = some (v, r) → r.length ≤ l.length
  | 0, _, _, _, h => by simp [txtF] at h
  | f + 1, [], v, r, h => by
    simp only [txtF, Option.some.injEq, Prod.mk.injEq] at h
    rw [← h.2]; exact Nat.le_refl _
  | f + 1, c :: t, v, r, h => by
    simp only [txtF] at h
    split at h
    · simp only [Option.some.injEq, Prod.mk.injEq] at h
      rw [← h.2]; exact Nat.le_refl _
    · split at h
      · split at h
        · cases h
        · rename_i p hp
          cases hx : txtF a b f p.2 with
          | none => rw [hx] at h; cases h
          | some y =>
            rw [hx] at h
            simp only [Option.map_some, Option.some.injEq, Prod.mk.injEq] at h
            obtain ⟨-, rfl⟩ := h
            have h1 := txtF_le a b f _ y.1 y.2 hx
            have h2 : p.2.length < t.length := by
              unfold refL at hp
              split at hp
              · cases hp
              · rename_i q hq
                cases he : entL q.1 with
                | none => rw [he] at hp; cases hp
                | some o =>
                  rw [he] at hp
                  simp only [Option.map_some, Option.some.injEq] at hp
                  rw [← hp]
                  exact cutL_lt (a := q.1) hq
            simp only [List.length_cons]
            omega
      · split at h
        · cases h
        · cases hx : txtF a b f ((c :: t).drop (decodeL (c :: t)).2) with
          | none => rw [hx] at h; cases h
          | some y =>
            rw [hx] at h
            simp only [Option.map_some, Option.some.injEq, Prod.mk.injEq] at h
            obtain ⟨-, rfl⟩ := h
            have h1 := txtF_le a b f _ y.1 y.2 hx
            rw [List.length_drop] at h1
            omega
theorem txtF_lt {a b : UInt8} {f : Nat} {c : UInt8} {t v r : List UInt8} (h : txtF a b f (c :: t) = some (v, r)) (hc : c ≠ a ∧ c ≠ b) : r.length < (c :: t).length := by
  cases f with
  | zero => simp [txtF] at h
  | succ f =>
    simp only [txtF] at h
    rw [if_neg (by rintro (e | e); exact hc.1 e; exact hc.2 e)] at h
    split at h
    · split at h
      · cases h
      · rename_i p hp
        cases hx : txtF a b f p.2 with
        | none => rw [hx] at h; cases h
        | some y =>
          rw [hx] at h
          simp only [Option.map_some, Option.some.injEq, Prod.mk.injEq] at h
          obtain ⟨-, rfl⟩ := h
          have h1 := txtF_le a b f _ y.1 y.2 hx
          have h2 : p.2.length < t.length := by
            unfold refL at hp
            split at hp
            · cases hp
            · rename_i q hq
              cases he : entL q.1 with
              | none => rw [he] at hp; cases hp
              | some o =>
                rw [he] at hp
                simp only [Option.map_some, Option.some.injEq] at hp
                rw [← hp]
                exact cutL_lt (a := q.1) hq
          simp only [List.length_cons]
          omega
    · split at h
      · cases h
      · cases hx : txtF a b f ((c :: t).drop (decodeL (c :: t)).2) with
        | none => rw [hx] at h; cases h
        | some y =>
          rw [hx] at h
          simp only [Option.map_some, Option.some.injEq, Prod.mk.injEq] at h
          obtain ⟨-, rfl⟩ := h
          have h1 := txtF_le a b f _ y.1 y.2 hx
          have hw := decodeL_width (c :: t)
          rw [List.length_drop] at h1
          simp only [List.length_cons] at h1 ⊢
          omega

theorem slice_own {w : World} {T : TypeId} {v : Value} {n : Nat} {cs : List Value} (h : w.ownsRow 0 T 4 v n cs) : ∃ p a b, v = .slice p a b := by
  obtain ⟨_, ⟨rfl, _⟩ | ⟨g, cap, cur, rfl, _⟩⟩ := h
  · exact ⟨_, _, _, rfl⟩
  · exact ⟨_, _, _, rfl⟩
theorem slice_own' {w : World} {T : TypeId} {v : Value} {l : List AttrS} (h : AttrsT T w v l) : ∃ p a b, v = .slice p a b := by
  obtain ⟨_, ⟨rfl, _⟩ | ⟨g, cap, cur, rfl, _⟩⟩ := h
  · exact ⟨_, _, _, rfl⟩
  · exact ⟨_, _, _, rfl⟩
theorem ElM.slices {TA TE : TypeId} {w : World} {D : Nat → Prop} {av kv : Value} {e : XEl} (h : ElM TA TE w D av kv e) : (∃ ap an ac, av = .slice ap an ac) ∧ ∃ kp kn kc, kv = .slice kp kn kc := by
  induction h with
  | mk D n t l ks av kv h1 h2 h3 h4 _ ih =>
    exact ⟨slice_own' h1, slice_own h3⟩

end Go.Proofs.YtlljphipglgjiaaGreatDoor
