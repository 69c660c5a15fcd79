/-
  The plain law of FnXTexts: what an encoder writes of a text is read as that text, cleaned (no program).
-/
import Derived.Test.YtlljphipglgjiaaGreatDoorXmGram
import Derived.Test.YtlljphipglgjiaaGreatDoorXmPieces
namespace Go.Proofs.YtlljphipglgjiaaGreatDoor
open Go.Lib

/-- What becomes of a character that is written and read. -/
def cleanP (p : Nat × List UInt8) : List UInt8 := if !isXChar p.1 || (p.1 == 65533 && p.2.length == 1) then [239, 191, 189] else p.2
def clean (l : List UInt8) : List UInt8 := (pieces l).flatMap cleanP
theorem clean_cons (l : List UInt8) (hl : l ≠ []) : clean l = cleanP ((decodeL l).1, l.take (decodeL l).2) ++ clean (l.drop (decodeL l).2) := by
  unfold clean
  rw [pieces_cons l hl, List.flatMap_cons]

theorem decode_ascii (b : UInt8) (t : List UInt8) (h : b.toNat < 128) : decodeL (b :: t) = (b.toNat, 1) := by
  rw [decodeL_N]
  unfold decodeN
  rw [if_pos (by simpa using h)]
  rfl

theorem decode_pre (l R : List UInt8) (hl : l ≠ []) (hv : ¬ ((decodeL l).1 = 65533 ∧ (decodeL l).2 = 1)) : decodeL (l.take (decodeL l).2 ++ R) = decodeL l := by
  have h0 : 0 < l.length := List.length_pos_iff.2 hl
  rw [decodeL_N l] at hv ⊢
  rcases decodeN_shape l.length (l.getD 0 0).toNat (l.getD 1 0).toNat (l.getD 2 0).toNat (l.getD 3 0).toNat with ⟨c, e⟩ | ⟨c1, c2, c3, cv, e⟩ | ⟨c1, c2, c3, c4, cv, cs, e⟩ | ⟨c1, c2, c3, c4, c5, cv, cw, e⟩ | e
  · rw [e]
    dsimp only
    rw [takeA l h0, decodeL_N]
    unfold decodeN
    rw [if_pos (by simpa using c)]
    rfl
  · rw [e]
    dsimp only
    rw [takeB l c2, decodeL_N]
    simp only [List.cons_append, List.nil_append, List.getD_cons_zero, List.getD_cons_succ, List.length_cons]
    unfold decodeN
    rw [if_neg (by omega), if_pos ⟨c1, by omega, c3⟩, if_pos cv]
  · rw [e]
    dsimp only
    rw [takeC l c2, decodeL_N]
    simp only [List.cons_append, List.nil_append, List.getD_cons_zero, List.getD_cons_succ, List.length_cons]
    unfold decodeN
    rw [if_neg (by omega), if_neg (by omega), if_pos ⟨c1, ⟨by omega, c3⟩, by omega, c4⟩, if_pos ⟨cv, by rcases cs with h | h; exact .inl h; exact .inr ⟨h, by omega⟩⟩]
  · rw [e]
    dsimp only
    rw [takeD l c2, decodeL_N]
    simp only [List.cons_append, List.nil_append, List.getD_cons_zero, List.getD_cons_succ, List.length_cons]
    unfold decodeN
    rw [if_neg (by omega), if_neg (by omega), if_neg (by omega), if_pos ⟨c1, ⟨by omega, c3⟩, ⟨by omega, c4⟩, by omega, c5⟩, if_pos ⟨cv, .inr ⟨by omega, cw⟩⟩]
  · rw [e] at hv
    exact absurd ⟨rfl, rfl⟩ hv

theorem escSpec_ne {c : Nat} (h : escSpec c = none) : c ≠ 34 ∧ c ≠ 39 ∧ c ≠ 38 ∧ c ≠ 60 ∧ c ≠ 62 ∧ c ≠ 9 ∧ c ≠ 10 ∧ c ≠ 13 := by
  unfold escSpec at h
  repeat' (split at h)
  all_goals first | (cases h; done) | (refine ⟨?_, ?_, ?_, ?_, ?_, ?_, ?_, ?_⟩ <;> assumption)

theorem take_head (b : UInt8) (t : List UInt8) (n : Nat) (hn : 1 ≤ n) : (b :: t).take n = b :: t.take (n - 1) := by
  obtain ⟨m, rfl⟩ : ∃ m, n = m + 1 := ⟨n - 1, by omega⟩
  simp

theorem escP_head (l : List UInt8) (hl : l ≠ []) : ∃ c t, escP ((decodeL l).1, l.take (decodeL l).2) = c :: t ∧ c ≠ 62 ∧ c ≠ 60 ∧ c ≠ 34 ∧ (c = 93 → t = []) := by
  unfold escP
  cases hs : escSpec (decodeL l).1 with
  | some x =>
    simp only []
    unfold escSpec at hs
    repeat' (split at hs)
    all_goals first | (cases hs; done) | (cases hs; exact ⟨_, _, rfl, by decide, by decide, by decide, by decide⟩)
  | none =>
    simp only []
    have hn := escSpec_ne hs
    split
    · exact ⟨_, _, rfl, by decide, by decide, by decide, by decide⟩
    · match l, hl with
      | b :: t, _ =>
        rw [take_head b t _ (decodeL_width _)]
        refine ⟨b, _, rfl, ?_⟩
        by_cases hb : b.toNat < 128
        · have hd := decode_ascii b t hb
          rw [hd] at hn
          dsimp only at hn
          refine ⟨?_, ?_, ?_, fun _ => by rw [hd]; rfl⟩
          · rintro rfl; exact hn.2.2.2.2.1 rfl
          · rintro rfl; exact hn.2.2.2.1 rfl
          · rintro rfl; exact hn.1 rfl
        · refine ⟨?_, ?_, ?_, ?_⟩
          · rintro rfl; exact hb (by decide)
          · rintro rfl; exact hb (by decide)
          · rintro rfl; exact hb (by decide)
          · rintro rfl; exact absurd (by decide) hb

theorem head_esc (l : List UInt8) (stop : UInt8) (Z : List UInt8) (hs : stop ≠ 62) : (esc l ++ stop :: Z).head? ≠ some 62 := by
  by_cases hl : l = []
  · subst hl
    simpa [esc, pieces_nil] using hs
  · obtain ⟨c, t, hc, h1, -⟩ := escP_head l hl
    rw [esc_cons l hl, hc]
    simpa using h1
theorem two_esc (l : List UInt8) (stop : UInt8) (Z : List UInt8) (hs : stop ≠ 62) (hs2 : stop ≠ 93) : (esc l ++ stop :: Z).take 2 ≠ [93, 62] := by
  by_cases hl : l = []
  · subst hl
    simp [esc, pieces_nil, hs2]
  · obtain ⟨c, t, hc, h1, h2, h3, h4⟩ := escP_head l hl
    rw [esc_cons l hl, hc]
    by_cases h93 : c = 93
    · rw [h4 h93]
      have := head_esc (l.drop (decodeL l).2) stop Z hs
      intro h
      apply this
      simp only [List.cons_append, List.nil_append, List.take_succ_cons] at h
      injection h with _ h
      cases hx : esc (l.drop (decodeL l).2) ++ stop :: Z with
      | nil => simp at hx
      | cons x y =>
        rw [hx] at h
        simp at h
        simp [h]
    · intro h
      simp only [List.cons_append, List.take_succ_cons] at h
      injection h with h _
      exact h93 h

theorem ref_lit (nm o R : List UInt8) (h59 : 59 ∉ nm) (ho : entL nm = some o) : refL (nm ++ 59 :: R) = some (o, R) := by
  have htw : (nm ++ 59 :: R).takeWhile (· != 59) = nm := by
    rw [List.takeWhile_append_of_pos (fun x hx => by rw [bne_iff_ne]; rintro rfl; exact h59 hx)]
    simp
  unfold refL cutL
  rw [if_pos (by simp), htw]
  simp [ho]

theorem txt_ref (a b : UInt8) (g : Nat) (nm o R : List UInt8) (ha : a ≠ 38) (hb : b ≠ 38) (h59 : 59 ∉ nm) (ho : entL nm = some o) :
    txtF a b (g + 1) (38 :: (nm ++ 59 :: R)) = (txtF a b g R).map fun q => (o ++ q.1, q.2) := by
  simp only [txtF]
  rw [if_neg (by rintro (h | h); exact ha h.symm; exact hb h.symm), if_pos trivial, ref_lit nm o R h59 ho]

theorem txt_raw (a b : UInt8) (g r : Nat) (c : UInt8) (t R : List UInt8) (hca : c ≠ a) (hcb : c ≠ b) (hc38 : c ≠ 38) (hd : decodeL (c :: t ++ R) = (r, t.length + 1)) (hx : isXChar r = true) (h13 : r ≠ 13) (h60 : r ≠ 60)
    (hv : ¬ (r = 65533 ∧ t.length + 1 = 1)) (h3 : (c :: t ++ R).take 3 ≠ [93, 93, 62]) :
    txtF a b (g + 1) (c :: t ++ R) = (txtF a b g R).map fun q => (c :: t ++ q.1, q.2) := by
  have hbad : badCh (c :: t ++ R) = false := by
    unfold badCh
    rw [hd]
    simp only [hx, Bool.not_true, Bool.false_or, Bool.or_eq_false_iff, beq_eq_false_iff_ne, ne_eq, Bool.and_eq_false_iff]
    refine ⟨⟨⟨h13, h60⟩, ?_⟩, h3⟩
    by_cases h : r = 65533
    · exact .inr fun h2 => hv ⟨h, h2⟩
    · exact .inl h
  show txtF a b (g + 1) (c :: (t ++ R)) = _
  simp only [txtF]
  rw [if_neg (by rintro (h | h); exact hca h; exact hcb h), if_neg hc38]
  rw [show c :: (t ++ R) = c :: t ++ R from rfl, hbad, hd]
  simp

theorem ent_esc {c : Nat} {x : List UInt8} (h : escSpec c = some x) : ∃ nm, x = 38 :: (nm ++ [59]) ∧ 59 ∉ nm ∧ entL nm = some (encodeRune (c : Int)) ∧ isXChar c = true ∧ c ≠ 65533 := by
  unfold escSpec at h
  split at h
  · subst_vars; cases h; exact ⟨[35, 51, 52], rfl, by decide, by decide +kernel, by decide, by decide⟩
  split at h
  · subst_vars; cases h; exact ⟨[35, 51, 57], rfl, by decide, by decide +kernel, by decide, by decide⟩
  split at h
  · subst_vars; cases h; exact ⟨[97, 109, 112], rfl, by decide, by decide +kernel, by decide, by decide⟩
  split at h
  · subst_vars; cases h; exact ⟨[108, 116], rfl, by decide, by decide +kernel, by decide, by decide⟩
  split at h
  · subst_vars; cases h; exact ⟨[103, 116], rfl, by decide, by decide +kernel, by decide, by decide⟩
  split at h
  · subst_vars; cases h; exact ⟨[35, 120, 57], rfl, by decide, by decide +kernel, by decide, by decide⟩
  split at h
  · subst_vars; cases h; exact ⟨[35, 120, 65], rfl, by decide, by decide +kernel, by decide, by decide⟩
  split at h
  · subst_vars; cases h; exact ⟨[35, 120, 68], rfl, by decide, by decide +kernel, by decide, by decide⟩
  split at h
  · subst_vars; cases h; exact ⟨[35, 120, 56, 53], rfl, by decide, by decide +kernel, by decide, by decide⟩
  split at h
  · subst_vars; cases h; exact ⟨[35, 120, 50, 48, 50, 56], rfl, by decide, by decide +kernel, by decide, by decide⟩
  · cases h

/-- A text that was written is read up to what stands behind it, cleaned. -/
theorem txt_esc (a b : UInt8) (hab : (a = 34 ∧ b = 34) ∨ (a = 60 ∧ b = 60)) (Z : List UInt8) : ∀ (n : Nat) (l : List UInt8), l.length ≤ n → ∀ f, (pieces l).length < f → txtF a b f (esc l ++ a :: Z) = some (clean l, a :: Z)
  | n, l, hn, f, hf => by
    obtain ⟨g, rfl⟩ : ∃ g, f = g + 1 := ⟨f - 1, by omega⟩
    have ha38 : a ≠ 38 := by rcases hab with ⟨rfl, _⟩ | ⟨rfl, _⟩ <;> decide
    have hb38 : b ≠ 38 := by rcases hab with ⟨_, rfl⟩ | ⟨_, rfl⟩ <;> decide
    by_cases hl : l = []
    · subst hl
      simp [esc, clean, pieces_nil, txtF]
    · match n with
      | 0 => exact absurd (List.eq_nil_of_length_eq_zero (by omega)) hl
      | n + 1 =>
        have hw := decodeL_width l
        have hle := decodeL_le l hl
        have ih := txt_esc a b hab Z n (l.drop (decodeL l).2) (by rw [List.length_drop]; omega) g (by rw [pieces_cons l hl, List.length_cons] at hf; omega)
        have h62 : a ≠ 62 := by rcases hab with ⟨rfl, _⟩ | ⟨rfl, _⟩ <;> decide
        have h93 : a ≠ 93 := by rcases hab with ⟨rfl, _⟩ | ⟨rfl, _⟩ <;> decide
        have hR := two_esc (l.drop (decodeL l).2) a Z h62 h93
        obtain ⟨R, hRe⟩ : ∃ R, esc (l.drop (decodeL l).2) ++ a :: Z = R := ⟨_, rfl⟩
        rw [esc_cons l hl, clean_cons l hl, List.append_assoc]
        rw [hRe] at ih hR ⊢
        suffices hs : txtF a b (g + 1) (escP ((decodeL l).1, l.take (decodeL l).2) ++ R) = (txtF a b g R).map fun q => (cleanP ((decodeL l).1, l.take (decodeL l).2) ++ q.1, q.2) by
          rw [hs, ih]; rfl
        cases hs : escSpec (decodeL l).1 with
        | some x =>
          obtain ⟨nm, rfl, h59, ho, hx, hne⟩ := ent_esc hs
          have he : encodeRune ((decodeL l).1 : Int) = l.take (decodeL l).2 := encode_decode l hl (fun h => hne h.1)
          have hc : cleanP ((decodeL l).1, l.take (decodeL l).2) = l.take (decodeL l).2 := by
            unfold cleanP
            rw [if_neg]
            simp [hx, hne]
          rw [hc, ← he]
          unfold escP
          simp only [hs]
          have := txt_ref a b g nm _ R ha38 hb38 h59 ho
          simpa using this
        | none =>
          have hnn := escSpec_ne hs
          by_cases hbad : (!isXChar (decodeL l).1 || ((decodeL l).1 == 65533 && (l.take (decodeL l).2).length == 1)) = true
          · have e1 : escP ((decodeL l).1, l.take (decodeL l).2) = [239, 191, 189] := by unfold escP; simp only [hs]; rw [if_pos hbad]
            have e2 : cleanP ((decodeL l).1, l.take (decodeL l).2) = [239, 191, 189] := by unfold cleanP; rw [if_pos hbad]
            rw [e1, e2]
            refine txt_raw a b g 65533 239 [191, 189] R ?_ ?_ (by decide) ?_ (by decide) (by decide) (by decide) (by simp) (by simp)
            · rcases hab with ⟨rfl, _⟩ | ⟨rfl, _⟩ <;> decide
            · rcases hab with ⟨_, rfl⟩ | ⟨_, rfl⟩ <;> decide
            · rw [decodeL_N]
              simp only [List.cons_append, List.nil_append, List.getD_cons_zero, List.getD_cons_succ, List.length_cons]
              unfold decodeN
              rw [if_neg (by decide), if_neg (by intro h; exact absurd h.1 (by decide)), if_pos ⟨by decide, ⟨by omega, by decide⟩, by omega, by decide⟩, if_pos (by decide)]
              rfl
          · have e1 : escP ((decodeL l).1, l.take (decodeL l).2) = l.take (decodeL l).2 := by unfold escP; simp only [hs]; rw [if_neg hbad]
            have e2 : cleanP ((decodeL l).1, l.take (decodeL l).2) = l.take (decodeL l).2 := by unfold cleanP; rw [if_neg hbad]
            have hlen : (l.take (decodeL l).2).length = (decodeL l).2 := by rw [List.length_take]; omega
            rw [hlen] at hbad
            simp only [Bool.not_eq_true, Bool.or_eq_false_iff, Bool.not_eq_false', Bool.and_eq_false_iff, beq_eq_false_iff_ne] at hbad
            have hv : ¬ ((decodeL l).1 = 65533 ∧ (decodeL l).2 = 1) := fun h => by rcases hbad.2 with h2 | h2; exact h2 h.1; exact h2 h.2
            obtain ⟨c, t, hct, hc62, hc60, hc34, hc93⟩ := escP_head l hl
            rw [e1] at hct
            have hdp := decode_pre l R hl hv
            rw [e1, e2]
            rw [hct] at hdp hlen ⊢
            have hc38 : c ≠ 38 := by
              rintro rfl
              match l, hl, hct with
              | b0 :: t0, _, hct =>
                rw [take_head b0 t0 _ hw] at hct
                injection hct with h1 _
                subst h1
                have := decode_ascii 38 t0 (by decide)
                exact hnn.2.2.1 (by rw [this]; rfl)
            have hlt : t.length + 1 = (decodeL l).2 := by simpa using hlen
            refine txt_raw a b g (decodeL l).1 c t R ?_ ?_ hc38 ?_ hbad.1 hnn.2.2.2.2.2.2.2 hnn.2.2.2.1 ?_ ?_
            · rcases hab with ⟨rfl, _⟩ | ⟨rfl, _⟩ <;> assumption
            · rcases hab with ⟨_, rfl⟩ | ⟨_, rfl⟩ <;> assumption
            · rw [hdp, hlt]
            · rw [hlt]; exact hv
            · by_cases h9 : c = 93
              · rw [hc93 h9]
                intro h
                simp only [List.cons_append, List.nil_append, List.take_succ_cons] at h
                injection h with _ h
                exact hR h
              · intro h
                simp only [List.cons_append, List.take_succ_cons] at h
                injection h with h _
                exact h9 h

/-- The document that an encoder writes of the element a, with the attribute b, of one text. -/
def textDoc (l : List UInt8) : List UInt8 := [60, 97, 32, 98, 61, 34] ++ esc l ++ [34, 62] ++ esc l ++ [60, 47, 97, 62]
def textEl (l : List UInt8) : XEl := .mk [97] [⟨bst [], bst [98], bst (clean l)⟩] [] (if l = [] then [] else [.mk [] [] (clean l) []])

theorem pieces_le : ∀ (n : Nat) (l : List UInt8), l.length ≤ n → (pieces l).length ≤ (esc l).length
  | n, l, hn => by
    by_cases hl : l = []
    · subst hl; simp [pieces_nil]
    · match n with
      | 0 => exact absurd (List.eq_nil_of_length_eq_zero (by omega)) hl
      | n + 1 =>
        have hw := decodeL_width l
        have hp : 0 < l.length := List.length_pos_iff.2 hl
        have := pieces_le n (l.drop (decodeL l).2) (by rw [List.length_drop]; omega)
        obtain ⟨c, t, hc, -⟩ := escP_head l hl
        rw [esc_cons l hl, pieces_cons l hl, hc]
        simp
        omega
/-- With fuel to spare. -/
theorem txt_esc_any (a b : UInt8) (hab : (a = 34 ∧ b = 34) ∨ (a = 60 ∧ b = 60)) (Z l : List UInt8) (f : Nat) (hf : (esc l ++ a :: Z).length ≤ f) : txtF a b f (esc l ++ a :: Z) = some (clean l, a :: Z) := by
  refine txt_esc a b hab Z _ l (Nat.le_refl _) f ?_
  have := pieces_le _ l (Nat.le_refl _)
  simp at hf
  omega

theorem isPre_cons (c : UInt8) (wd t : List UInt8) : isPre (c :: wd) (c :: t) = isPre wd t := by simp [isPre]
theorem isPre_ne (c d : UInt8) (wd t : List UInt8) (h : d ≠ c) : isPre (c :: wd) (d :: t) = false := by simp [isPre, h]

theorem esc_ne (l : List UInt8) (hl : l ≠ []) : ∃ c t, esc l = c :: t ∧ c ≠ 60 := by
  obtain ⟨c, t, hc, h1, h2, -⟩ := escP_head l hl
  exact ⟨c, _, by rw [esc_cons l hl, hc]; rfl, h2⟩

theorem text_attr (l Z : List UInt8) (f : Nat) (hf : 2 ≤ f) : attrF f ([32, 98, 61, 34] ++ esc l ++ 34 :: 62 :: Z) = some ([⟨bst [], bst [98], bst (clean l)⟩], false, Z) := by
  obtain ⟨g, rfl⟩ : ∃ g, f = g + 2 := ⟨f - 2, by omega⟩
  have ht := txt_esc_any 34 34 (.inl ⟨rfl, rfl⟩) (62 :: Z) l ((esc l ++ 34 :: 62 :: Z).length + 1) (by omega)
  obtain ⟨R, hR⟩ : ∃ R, esc l ++ 34 :: 62 :: Z = R := ⟨_, rfl⟩
  have e1 : [32, 98, 61, 34] ++ esc l ++ 34 :: 62 :: Z = 32 :: 98 :: 61 :: 34 :: R := by rw [← hR]; simp
  have hd : (32 :: 98 :: 61 :: 34 :: R).dropWhile blankB = 98 :: 61 :: 34 :: R := by
    rw [List.dropWhile_cons, if_pos (by decide), List.dropWhile_cons, if_neg (by decide)]
  have hn : (98 :: 61 :: 34 :: R).takeWhile nameC = [98] := by
    rw [List.takeWhile_cons, if_pos (by decide), List.takeWhile_cons, if_neg (by decide)]
  have hm : (98 :: 61 :: 34 :: R).dropWhile nameC = 61 :: 34 :: R := by
    rw [List.dropWhile_cons, if_pos (by decide), List.dropWhile_cons, if_neg (by decide)]
  rw [e1, attrF, hd, hn, hm, isPre_ne _ _ _ _ (by decide), isPre_ne _ _ _ _ (by decide)]
  rw [hR] at ht
  have hz : (62 :: Z).dropWhile blankB = 62 :: Z := by rw [List.dropWhile_cons, if_neg (by decide)]
  have h2 : attrF (g + 1) (62 :: Z) = some ([], false, Z) := by
    rw [attrF, hz, isPre_ne _ _ _ _ (by decide), isPre_cons]
    simp [isPre]
  have hgn : goodName [98] = true := by decide
  simp only [hgn, Bool.not_true, Bool.false_or, List.length_cons, Bool.false_eq_true, if_false]
  rw [if_neg (by simp)]
  simp only [true_or, if_true]
  rw [ht]
  simp only []
  rw [h2]
  rfl

theorem text_kids (el : List UInt8 → Option (XEl × List UInt8)) (l : List UInt8) (f : Nat) (hf : 2 ≤ f) : kidsF el [97] f (esc l ++ [60, 47, 97, 62]) = some (if l = [] then [] else [.mk [] [] (clean l) []], []) := by
  obtain ⟨g, rfl⟩ : ∃ g, f = g + 2 := ⟨f - 2, by omega⟩
  have hend : ∀ k, kidsF el [97] (k + 1) [60, 47, 97, 62] = some ([], []) := fun k => by
    rw [kidsF, if_neg (by decide), if_pos (by decide), if_pos (by decide)]
    rfl
  by_cases hl : l = []
  · subst hl
    rw [show esc [] ++ [60, 47, 97, 62] = [60, 47, 97, 62] from rfl, hend]
    rfl
  · obtain ⟨c, t, hc, hc60⟩ := esc_ne l hl
    have ht := txt_esc_any 60 60 (.inr ⟨rfl, rfl⟩) [47, 97, 62] l ((esc l ++ [60, 47, 97, 62]).length + 1) (by omega)
    rw [kidsF]
    rw [hc] at ht ⊢
    rw [if_neg (by simp), show c :: t ++ [60, 47, 97, 62] = c :: (t ++ [60, 47, 97, 62]) from rfl, isPre_ne _ _ _ _ hc60, isPre_ne _ _ _ _ hc60, isPre_ne _ _ _ _ hc60]
    simp only [Bool.false_eq_true, if_false]
    rw [show c :: (t ++ [60, 47, 97, 62]) = c :: t ++ [60, 47, 97, 62] from rfl, ht]
    simp only []
    rw [hend]
    simp [hl]

theorem xread_text (l : List UInt8) : xreadL (textDoc l) = some (textEl l) := by
  obtain ⟨R, hR⟩ : ∃ R, esc l ++ [34, 62] ++ esc l ++ [60, 47, 97, 62] = R := ⟨_, rfl⟩
  have e1 : textDoc l = 60 :: 97 :: 32 :: 98 :: 61 :: 34 :: R := by rw [← hR]; simp [textDoc]
  have e2 : 32 :: 98 :: 61 :: 34 :: R = [32, 98, 61, 34] ++ esc l ++ 34 :: 62 :: (esc l ++ [60, 47, 97, 62]) := by rw [← hR]; simp
  have hd : isPre declL (60 :: 97 :: 32 :: 98 :: 61 :: 34 :: R) = false := by
    unfold declL
    rw [isPre_cons, isPre_ne _ _ _ _ (by decide)]
  have hb : (60 :: 97 :: 32 :: 98 :: 61 :: 34 :: R).dropWhile blankB = 60 :: 97 :: 32 :: 98 :: 61 :: 34 :: R := by rw [List.dropWhile_cons, if_neg (by decide)]
  have hp : ∀ k, prologF (k + 1) (60 :: 97 :: 32 :: 98 :: 61 :: 34 :: R) = some (60 :: 97 :: 32 :: 98 :: 61 :: 34 :: R) := fun k => by
    rw [prologF, hb, if_neg (by omega), isPre_cons, isPre_ne _ _ _ _ (by decide)]
    simp
  have hel : elemL 40 (97 :: 32 :: 98 :: 61 :: 34 :: R) = some (textEl l, []) := by
    have hn : (97 :: 32 :: 98 :: 61 :: 34 :: R).takeWhile nameC = [97] := by
      rw [List.takeWhile_cons, if_pos (by decide), List.takeWhile_cons, if_neg (by decide)]
    have hm : (97 :: 32 :: 98 :: 61 :: 34 :: R).dropWhile nameC = 32 :: 98 :: 61 :: 34 :: R := by
      rw [List.dropWhile_cons, if_pos (by decide), List.dropWhile_cons, if_neg (by decide)]
    rw [elemL, elemC, hn, hm, if_neg (by decide), e2, text_attr l _ _ (by simp)]
    simp only []
    rw [text_kids _ l _ (by simp)]
    rfl
  rw [xreadL, e1, hd]
  simp only [Bool.false_eq_true, if_false]
  rw [hp]
  simp only []
  rw [hel]
  simp

end Go.Proofs.YtlljphipglgjiaaGreatDoor
