/-
  The tree that FnXTexts reads: its attribute, its text (plain).
-/
import Derived.Test.YtlljphipglgjiaaGreatDoorXmRoot
import Derived.Test.YtlljphipglgjiaaGreatDoorXmTof
import Derived.Test.YtlljphipglgjiaaGreatDoorXmLaw1
import Derived.Test.YtlljphipglgjiaaGreatDoorXmMk7
import Derived.Test.YtlljphipglgjiaaGreatDoorXmCl
namespace Go.Proofs.YtlljphipglgjiaaGreatDoor
open Go.RowKit Go.Lib

theorem ElM.inv {TA TE : TypeId} {w : World} {D : Nat → Prop} {av kv : Value} {e : XEl} (h : ElM TA TE w D av kv e) :
    AttrsT TA w av e.attrs ∧ (∀ g, av.ownBlock = some g → D g) ∧ ∃ ks : List (XEl × Value × Value), e.kids = ks.map (·.1) ∧ KidsM TA TE w D kv ks := by
  induction h with
  | mk D n t l ks av kv h1 h2 h3 h4 h5 _ => exact ⟨h1, h2, ks, rfl, h3, h4, h5⟩

/-- The one attribute's value. -/
theorem one_attr {w : World} {av : Value} {a : AttrS} (h : AttrsT 49 w av [a]) : ∃ g c, av = .slice (some ⟨g, 0, none⟩) 1 c ∧ w.cell? ⟨g, 2, none⟩ = some (.string a.val) ∧ g < w.heap.size := by
  rcases h.cases with ⟨_, h⟩ | ⟨g, cap, cur, rfl, hg, hl, hm, hsz, ht⟩
  · cases h
  · have h2 := AttrsT.cell hg ht 0 2 (by simp) (by omega)
    refine ⟨g, cap, rfl, ?_, ?_⟩
    · simpa [AttrS.cells] using h2
    · exact World.block_lt_of_cell? w _ h2
/-- The one kid's cells. -/
theorem one_kid {w : World} {D : Nat → Prop} {kv : Value} {p : XEl × Value × Value} (h : KidsM 49 25 w D kv [p]) : ∃ g c, kv = .slice (some ⟨g, 0, none⟩) 1 c ∧ w.cell? ⟨g, 0, none⟩ = some (.string (bst p.1.name)) ∧ w.cell? ⟨g, 2, none⟩ = some (.string (bst p.1.text)) ∧ g < w.heap.size := by
  obtain ⟨⟨h1, ⟨_, h2⟩ | ⟨g, cap, cur, rfl, _, hg, hl, hm, hsz, ht⟩⟩, _, _⟩ := h
  · cases h2
  · have hc : ∀ j, j < 4 → w.cell? ⟨g, j, none⟩ = (kidCells p)[j]? := fun j hj => by
      rw [cell_of_row w g _ cur 25 (0, 0) hg, ← Array.getElem?_toList]
      have : (cur.toList.take (1 * 4))[j]? = ([p].flatMap kidCells)[j]? := by rw [← ht]; rfl
      rw [List.getElem?_take_of_lt (by omega)] at this
      rw [this]
      simp
    refine ⟨g, cap, rfl, hc 0 (by omega), hc 2 (by omega), ?_⟩
    exact World.block_lt_of_cell? w _ (hc 0 (by omega))
theorem no_kid {w : World} {D : Nat → Prop} {kv : Value} (h : KidsM 49 25 w D kv []) : ∃ kp c, kv = .slice kp 0 c := by
  obtain ⟨⟨h1, ⟨rfl, h2⟩ | ⟨g, cap, cur, rfl, _⟩⟩, _, _⟩ := h
  · exact ⟨_, _, rfl⟩
  · exact ⟨_, _, rfl⟩

/-- XTextOf of the tree. -/
theorem textOf_tree (l : List UInt8) (w : World) (D : Nat → Prop) (av kv : Value) (h : ElM 49 25 w D av kv (textEl l)) :
    Calls Tryz.prog 19 #[.agg #[.string (bst (textEl l).name), av, .string (bst (textEl l).text), kv]] w fun e w' => e = .returned (.tuple #[.string (bst (clean l)), .bool true]) ∧ Below w.heap.size w w' := by
  obtain ⟨⟨ap, an, ac, rfl⟩, _⟩ := h.slices
  obtain ⟨_, _, ks, hks, hk⟩ := h.inv
  by_cases hl : l = []
  · subst hl
    have : ks = [] := by simpa [textEl, XEl.kids] using hks.symm
    subst this
    obtain ⟨kp, c, rfl⟩ := no_kid hk
    exact textOf_none _ _ ap an ac kp c w
  · have hks' : ks.map (·.1) = [XEl.mk [] [] (clean l) []] := by rw [← hks]; simp [textEl, XEl.kids, hl]
    cases ks with
    | nil => cases hks'
    | cons p t =>
      simp only [List.map_cons, List.cons.injEq, List.map_eq_nil_iff] at hks'
      obtain ⟨hp, rfl⟩ := hks'
      obtain ⟨g, c, rfl, c0, c2, hg⟩ := one_kid hk
      rw [hp] at c0 c2
      exact textOf_one _ _ _ ap an ac g c w c0 c2 hg

theorem doc_text (s : ByteArray) : startTag ⟨#[]⟩ ⟨#[97]⟩ [⟨⟨#[]⟩, ⟨#[98]⟩, s⟩] ++ (esc s.data.toList ++ endTag ⟨#[]⟩ ⟨#[97]⟩) = textDoc s.data.toList := by
  have e1 : escName ⟨#[]⟩ ⟨#[97]⟩ = [97] := by kernel_rfl
  have e2 : escName ⟨#[]⟩ ⟨#[98]⟩ = [98] := by kernel_rfl
  simp [startTag, endTag, AttrS.tag, attrTag, textDoc, e1, e2]
theorem doc_size (s : ByteArray) : (bst (textDoc s.data.toList)).size ≤ 18 * s.size + 20 := by
  have h := esc_le s
  rw [← list_size, bst_toList]
  simp only [textDoc, List.length_append, List.length_cons, List.length_nil]
  omega

end Go.Proofs.YtlljphipglgjiaaGreatDoor
