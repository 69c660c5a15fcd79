/-
  Elements in memory: what holds of a tree of spec.XElement, and where it lies.
-/
import Derived.Test.YtlljphipglgjiaaGreatDoorXmApp
import Derived.Test.YtlljphipglgjiaaGreatDoorXmGram
namespace Go.Proofs.YtlljphipglgjiaaGreatDoor
open Go.RowKit

def AttrS.cells (a : AttrS) : List Value := [.string a.sp, .string a.loc, .string a.val]
/-- The slice v holds these attributes (type T). -/
def AttrsT (T : TypeId) (w : World) (v : Value) (l : List AttrS) : Prop := w.ownsRow 0 T 3 v l.length (l.flatMap AttrS.cells)

theorem AttrsT.cases {T : TypeId} {w : World} {v : Value} {l : List AttrS} (h : AttrsT T w v l) :
    (v = .slice none 0 0 ∧ l = []) ∨
    ∃ g cap cur, v = .slice (some ⟨g, 0, none⟩) l.length cap ∧ w.heap[g]? = some (.cells cur T (0, 0)) ∧ l.length ≤ cap ∧ cap ≤ maxLen ∧ cur.size = cap * 3 ∧ cur.toList.take (l.length * 3) = l.flatMap AttrS.cells := by
  obtain ⟨h1, ⟨rfl, h2⟩ | ⟨g, cap, cur, rfl, _, hg, hl, hm, hs, ht⟩⟩ := h
  · exact .inl ⟨rfl, List.eq_nil_of_length_eq_zero h2⟩
  · exact .inr ⟨g, cap, cur, rfl, hg, hl, hm, by omega, by simpa using ht⟩

theorem flatN_get {α : Type} (n : Nat) (f : α → List Value) (hf : ∀ a, (f a).length = n) : ∀ (l : List α) (k j : Nat) (hk : k < l.length) (_ : j < n), (l.flatMap f)[k * n + j]? = (f l[k])[j]?
  | [], k, j, hk, _ => by simp at hk
  | a :: t, 0, j, hk, hj => by
    rw [List.flatMap_cons, List.getElem?_append_left (by rw [hf]; omega)]
    simp
  | a :: t, k + 1, j, hk, hj => by
    rw [List.flatMap_cons, List.getElem?_append_right (by rw [hf, Nat.succ_mul]; omega), hf]
    have := flatN_get n f hf t k j (by simpa using hk) hj
    rw [show (k + 1) * n + j - n = k * n + j by rw [Nat.succ_mul]; omega]
    simpa using this
theorem flatN_length {α : Type} (n : Nat) (f : α → List Value) (hf : ∀ a, (f a).length = n) : ∀ (l : List α), (l.flatMap f).length = l.length * n
  | [] => by simp
  | a :: t => by rw [List.flatMap_cons, List.length_append, flatN_length n f hf t, hf, List.length_cons, Nat.succ_mul]; omega

theorem AttrsT.cell {T : TypeId} {w : World} {g : Nat} {cur : Array Value} {l : List AttrS} (hg : w.heap[g]? = some (.cells cur T (0, 0))) (ht : cur.toList.take (l.length * 3) = l.flatMap AttrS.cells) (k j : Nat) (hk : k < l.length) (hj : j < 3) :
    w.cell? ⟨g, k * 3 + j, none⟩ = (l[k].cells)[j]? := by
  rw [cell_of_row w g _ cur T (0, 0) hg, ← flatN_get 3 AttrS.cells (fun _ => rfl) l k j hk hj, ← ht, List.getElem?_take_of_lt (by omega), Array.getElem?_toList]

theorem owns_fr {M : Nat → Prop} {w w' : World} {base E size n : Nat} {v : Value} {xs : List Value} (h : w.ownsRow base E size v n xs) (f : Fr M w w') (hd : ∀ g, v.ownBlock = some g → ¬ M g) : w'.ownsRow base E size v n xs := by
  refine ⟨h.1, ?_⟩
  rcases h.2 with hn | ⟨g, cap, cur, rfl, hb, hg, rest⟩
  · exact .inl hn
  · exact .inr ⟨g, cap, cur, rfl, hb, f.heap hg (hd g rfl), rest⟩
theorem AttrsT.fr {T : TypeId} {M : Nat → Prop} {w w' : World} {v : Value} {l : List AttrS} (h : AttrsT T w v l) (f : Fr M w w') (hd : ∀ g, v.ownBlock = some g → ¬ M g) : AttrsT T w' v l := owns_fr h f hd
theorem AttrsT.nil (T : TypeId) (w : World) : AttrsT T w (.slice none 0 0) [] := ⟨rfl, .inl ⟨rfl, rfl⟩⟩

/-- The four cells of an element whose attributes and kids lie at these slices. -/
def kidCells (p : XEl × Value × Value) : List Value := [.string (bst p.1.name), p.2.1, .string (bst p.1.text), p.2.2]

/-- An element whose attributes are the slice av, whose kids the slice kv; all its rows lie in blocks of which D holds. -/
inductive ElM (TA TE : TypeId) (w : World) : (Nat → Prop) → Value → Value → XEl → Prop
  | mk (D : Nat → Prop) (n t : List UInt8) (l : List AttrS) (ks : List (XEl × Value × Value)) (av kv : Value) :
      AttrsT TA w av l → (∀ g, av.ownBlock = some g → D g) → w.ownsRow 0 TE 4 kv ks.length (ks.flatMap kidCells) → (∀ g, kv.ownBlock = some g → D g) →
      (∀ k (h : k < ks.length), ElM TA TE w (fun x => D x ∧ kv.ownBlock ≠ some x) (ks[k].2.1) (ks[k].2.2) (ks[k].1)) → ElM TA TE w D av kv (.mk n l t (ks.map (·.1)))

section
variable {TA TE : TypeId} {w w' : World} {D : Nat → Prop} {av kv : Value} {e : XEl}
theorem ElM.fr {M : Nat → Prop} (h : ElM TA TE w D av kv e) (f : Fr M w w') (hd : ∀ x, D x → ¬ M x) : ElM TA TE w' D av kv e := by
  induction h with
  | mk D n t l ks av kv h1 h2 h3 h4 _ ih =>
    exact .mk D n t l ks av kv (h1.fr f fun g hg => hd g (h2 g hg)) h2 (owns_fr h3 f fun g hg => hd g (h4 g hg)) h4 fun k hk => ih k hk fun x hx => hd x hx.1
theorem ElM.mono {D' : Nat → Prop} (h : ElM TA TE w D av kv e) (hd : ∀ x, D x → D' x) : ElM TA TE w D' av kv e := by
  induction h generalizing D' with
  | mk D n t l ks av kv h1 h2 h3 h4 _ ih =>
    exact .mk D' n t l ks av kv h1 (fun g hg => hd g (h2 g hg)) h3 (fun g hg => hd g (h4 g hg)) fun k hk => ih k hk fun x hx => ⟨hd x hx.1, hx.2⟩
/-- The kids ks lie at kv; their own rows in D, none of them in kv's. -/
def KidsM (TA TE : TypeId) (w : World) (D : Nat → Prop) (kv : Value) (ks : List (XEl × Value × Value)) : Prop :=
  w.ownsRow 0 TE 4 kv ks.length (ks.flatMap kidCells) ∧ (∀ g, kv.ownBlock = some g → D g) ∧ ∀ k (h : k < ks.length), ElM TA TE w (fun x => D x ∧ kv.ownBlock ≠ some x) (ks[k].2.1) (ks[k].2.2) (ks[k].1)
theorem KidsM.nil (D : Nat → Prop) : KidsM TA TE w D (.slice none 0 0) [] := ⟨⟨rfl, .inl ⟨rfl, rfl⟩⟩, fun _ h => by simp [Value.ownBlock] at h, fun k h => by simp at h⟩
theorem KidsM.fr {M : Nat → Prop} {ks : List (XEl × Value × Value)} (h : KidsM TA TE w D kv ks) (f : Fr M w w') (hd : ∀ x, D x → ¬ M x) : KidsM TA TE w' D kv ks :=
  ⟨owns_fr h.1 f fun g hg => hd g (h.2.1 g hg), h.2.1, fun k hk => (h.2.2 k hk).fr f fun x hx => hd x hx.1⟩
theorem KidsM.mono {D' : Nat → Prop} {ks : List (XEl × Value × Value)} (h : KidsM TA TE w D kv ks) (hd : ∀ x, D x → D' x) : KidsM TA TE w D' kv ks :=
  ⟨h.1, fun g hg => hd g (h.2.1 g hg), fun k hk => (h.2.2 k hk).mono fun x hx => ⟨hd x hx.1, hx.2⟩⟩
/-- One kid more: its tree lies in D beside the kids; the kids' row was grown from w to w'. -/
theorem KidsM.snoc {ks : List (XEl × Value × Value)} {p : XEl × Value × Value} {kv' : Value} {D' : Nat → Prop} (h : KidsM TA TE w D kv ks) (hp : ElM TA TE w (fun x => D x ∧ kv.ownBlock ≠ some x) p.2.1 p.2.2 p.1)
    (hlt : ∀ x, D x → x < w.heap.size) (hown : w'.ownsRow 0 TE 4 kv' (ks.length + 1) (ks.flatMap kidCells ++ kidCells p)) (hg : w.grownBy w' kv.ownBlock) (hat : RowAt w kv kv')
    (hD : ∀ x, D x → D' x) (hD' : ∀ x, w.heap.size ≤ x → x < w'.heap.size → D' x) : KidsM TA TE w' D' kv' (ks ++ [p]) := by
  have f : Fr (fun x => w.heap.size ≤ x ∨ kv.ownBlock = some x) w w' :=
    ⟨hg.os, hg.tape, hg.output, hg.size, fun k hk => by
      rcases Nat.lt_or_ge k w.heap.size with h1 | h1
      · exact hg.block k h1 fun e => hk (.inr e.symm)
      · exact absurd (.inl h1) hk⟩
  have hrow : ∀ g, kv'.ownBlock = some g → D' g := by
    intro g hgo
    rcases hat with h1 | ⟨g2, h1, h2⟩
    · exact hD g (h.2.1 g (h1 ▸ hgo))
    · rw [hgo] at h1
      injection h1 with h1
      subst h1
      exact hD' g h2 (hown.lt g hgo).2
  have hel : ∀ {a b : Value} {e : XEl}, ElM TA TE w (fun x => D x ∧ kv.ownBlock ≠ some x) a b e → ElM TA TE w' (fun x => D' x ∧ kv'.ownBlock ≠ some x) a b e := fun he =>
    (he.fr f fun x hx hM => by
      rcases hM with h1 | h1
      · have := hlt x hx.1; omega
      · exact hx.2 h1).mono fun x hx => ⟨hD x hx.1, fun e => by
        rcases hat with h1 | ⟨g2, h1, h2⟩
        · exact hx.2 (h1 ▸ e)
        · rw [h1] at e
          injection e with e
          subst e
          have := hlt _ hx.1
          omega⟩
  refine ⟨by simpa using hown, hrow, fun k hk => ?_⟩
  by_cases hk2 : k < ks.length
  · rw [List.getElem_append_left hk2]
    exact hel (h.2.2 k hk2)
  · have : k = ks.length := by simp at hk; omega
    subst this
    rw [List.getElem_append_right (Nat.le_refl _)]
    simpa using hel hp
end

end Go.Proofs.YtlljphipglgjiaaGreatDoor
