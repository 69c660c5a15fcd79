/-
  FnXNames: its row and its card, over the law's walk.
-/
import Derived.Test.YtlljphipglgjiaaGreatDoorXmTxA
import Derived.Test.YtlljphipglgjiaaGreatDoorTie
import Derived.Test.YtlljphipglgjiaaGreatDoorCards
import Derived.ProofKit
import Derived.OpenShut
import Derived.LaidMore
import Derived.Lay
import Derived.SevenTiedAt
import Derived.Stop.Joined
import Derived.Lib.LaidU8T
import Derived.ChangeMaps5
import Derived.ShutString
namespace Go.Proofs.YtlljphipglgjiaaGreatDoor
open Go.ChangeShapes Go.WideShapes Go.ChangeAt Go.RowKit
open Go.ChangeMaps (open_string shut_string)

theorem seat_own : ownKnob Tryz.prog.godebug = none := by kernel_rfl
def u8ren : Go.Shelf.Ren := ⟨fun n => n, fun | 119 => 315 | 138 => 317 | 139 => 318 | n => n, fun | 3 => 4 | 4 => 5 | n => n⟩
theorem u8types : U8Types Tryz.prog u8ren := ⟨Tryz.underlying5, Tryz.underlying315, Tryz.underlying317, Tryz.underlying318⟩
theorem u8extra : U8Extra Tryz.prog u8ren := ⟨by kernel_rfl, by kernel_rfl, by kernel_rfl, by kernel_rfl, by kernel_rfl, by kernel_rfl, by kernel_rfl⟩
theorem u8first_eq : Rows.laid_unicode_utf8_first = Lib.firstData := by kernel_rfl
theorem u8accept_eq : Rows.laid_unicode_utf8_acceptRanges = Lib.acceptData := by kernel_rfl

/-- A listed error: its variable holds an interface value. -/
theorem err_cell {w : World} {n : String} {g : Nat} {nm : String} {d : DataW Unit} (h : Lib.VarReads Tryz.prog w n (.iface nm d)) (hn : Tryz.prog.globalNamed n = some g) (ht : (Tryz.prog.globals[g]?).map (·.type) = some 69) :
    ∃ te pe, w.cell? ⟨g, 0, none⟩ = some (.iface te pe) := by
  obtain ⟨g', t, cs, fuel, p, h1, h2, h3, h4⟩ := h
  obtain rfl := Option.some.inj (hn.symm.trans h1)
  obtain rfl := Option.some.inj (ht.symm.trans h2)
  have hv := World.var?_cell hn h3 0
  cases fuel with
  | zero => simp [DataW.trod] at h4
  | succ fuel =>
    simp only [DataW.trod, Tryz.underlying69] at h4
    split at h4
    case h_12 =>
      rename_i hcs
      exact ⟨_, _, by rw [hv, ← Array.getElem?_toList, hcs]; rfl⟩
    case h_11 => simp at h4
    all_goals first
      | (simp at h4; done)
      | (exfalso; rename_i e1 e2; exact absurd (Option.some.inj e1) (by intro e; cases e))
      | (exfalso; rename_i e1; exact absurd (Option.some.inj e1) (by intro e; cases e))

theorem laid_tabs {W : World} (h : laidMetH Tryz.prog Rows.fnXNamesRow.laid W) : Lib.Utf8Tabs 4 5 W ∧ Errs (fun x => W.heap.size ≤ x) W := by
  rw [MakeChecks.laidMetH_plain _ _ _ (by kernel_rfl)] at h
  have h4 : Lib.VarReads Tryz.prog W "unicode/utf8.acceptRanges" Rows.laid_unicode_utf8_acceptRanges := Lib.laidMet.reads h (by unfold Rows.fnXNamesRow; simp)
  have h5 : Lib.VarReads Tryz.prog W "strconv.ErrRange" Rows.laid_strconv_ErrRange := Lib.laidMet.reads h (by unfold Rows.fnXNamesRow; simp)
  have h6 : Lib.VarReads Tryz.prog W "strconv.ErrSyntax" Rows.laid_strconv_ErrSyntax := Lib.laidMet.reads h (by unfold Rows.fnXNamesRow; simp)
  have h3 : Lib.VarReads Tryz.prog W "unicode/utf8.first" Rows.laid_unicode_utf8_first := Lib.laidMet.reads h (by unfold Rows.fnXNamesRow; simp)
  rw [u8first_eq] at h3
  rw [u8accept_eq] at h4
  obtain ⟨t7, p7, c7⟩ := err_cell (g := 7) h6 (by kernel_rfl) (by kernel_rfl)
  obtain ⟨t8, p8, c8⟩ := err_cell (g := 8) h5 (by kernel_rfl) (by kernel_rfl)
  exact ⟨utf8Tabs_of_readsT u8types u8extra h3 h4, ⟨t7, p7, c7⟩, ⟨t8, p8, c8⟩, Nat.not_le.2 (World.block_lt_of_cell? W _ c7), Nat.not_le.2 (World.block_lt_of_cell? W _ c8)⟩

set_option maxRecDepth 100000 in
theorem fnXNames_lifted (hfn : ∀ (s : ByteArray) (w : World), Lib.Utf8Tabs 4 5 w → Errs (fun x => w.heap.size ≤ x) w → Calls Tryz.prog 3 #[.string s] w fun e w' => e = .returned (.bool true) ∧ Below w.heap.size w w')
    (os : Os) (started : os.Started) (H : Type) (enc : TypeId × Value → H) :
    ReturnsInHanded {} Tryz.checked os 3 .any (fun w args => (Rows.fnXNamesSpec.pre enc Tryz.prog Tryz.f3 [] false w args ∧ laidMetH Tryz.prog Rows.fnXNamesRow.laid w) ∧ sizedMet enc Tryz.prog Tryz.f3 (OpenSpec.ofChange Rows.fnXNamesSpec) false w args)
      (Rows.fnXNamesSpec.post enc Tryz.prog Tryz.f3 false true false false) := by
  refine returnsInHanded_of_change_and (C := Tryz.checked) (X := fun w _ => laidMetH Tryz.prog Rows.fnXNamesRow.laid w) (fun _ _ _ hh h => h.of_heap hh) seat_own started (by kernel_rfl) Tryz.func3
    (ChangeSpec.witness_shaped (enc := enc) (C := Tryz.checked) (os := os) (X := fun w _ => laidMetH Tryz.prog Rows.fnXNamesRow.laid w) false (World.laidAll Tryz.prog os Rows.fnXNamesRow.laid) #[.string ⟨#[]⟩] 8 (World.laidAll_os _ _ _)
      (World.shaped_of_ZipB (by kernel_rfl) (by kernel_rfl)) (by kernel_rfl) (by kernel_rfl) (by kernel_rfl)
      (by rw [MakeChecks.laidMetH_plain _ _ _ (by kernel_rfl)]; exact laidMet_laidAll _ (by kernel_rfl) (by kernel_rfl))) ?_
  intro W base args ds gs before hval0 hW hc _ hL _
  have hval : ∀ (j : Nat) t v, Tryz.f3.params[j]? = some t → args[j]? = some v → Value.okWide Tryz.prog W .any base t v := hval0
  have hW' := hW
  obtain ⟨p, q, hA0, hV, rfl, _, _⟩ := hW
  have hA : DataW.TrodAll enc Tryz.prog W 0 (fun _ => true) true Tryz.f3.params.toList args.toList ds p := hA0
  rw [Tryz.params3] at hA hval
  obtain ⟨v0, d0, rfl, rfl, h0⟩ := trodAll_one hA
  obtain ⟨rfl, rfl⟩ := trodVars_none hV
  obtain ⟨s, rfl, rfl, rfl, ws⟩ := open_string Tryz.underlying9 (hval 0 9 v0 rfl rfl) h0
  obtain ⟨hT, hE⟩ := laid_tabs hL
  refine (hfn s W hT hE).mono ?_
  rintro e W' ⟨rfl, bel⟩
  have e1 : Rows.fnXNamesSpec.fn H ([.lit (.string s.data.toList)] ++ []) = { results := [.lit (.bool true)], args := [.lit (.string s.data.toList)] } := rfl
  refine ⟨_, rfl, _, _, _, [], [], [], hW', ?_, ?_, ?_, bel.frame _, fun h => by cases h⟩
  · rw [e1]; exact trodAll_mk1 (shut_bool Tryz.underlying4 _)
  · rw [e1]; exact trodAll_mk1 (shut_string Tryz.underlying9 ws)
  · rw [e1]; rfl

end Go.Proofs.YtlljphipglgjiaaGreatDoor
