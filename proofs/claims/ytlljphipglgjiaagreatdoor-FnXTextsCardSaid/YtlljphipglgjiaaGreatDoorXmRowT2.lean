/-
  FnXTexts: its row's statement and its card, over the law's walk.
-/
import Derived.Test.YtlljphipglgjiaaGreatDoorXmRowT
import Derived.Test.YtlljphipglgjiaaGreatDoorXmFactT2
namespace Go.Proofs.YtlljphipglgjiaaGreatDoor
open Go Go.RowKit

theorem fnXTexts_named : Tryz.pinned.checked.prog.funcNamed Rows.fnXTextsRow.func = some 8 := by kernel_rfl
theorem fnXTexts_inst : Tryz.f8.isInstance Tryz.pinned.checked.prog Rows.fnXTextsRow.origin Rows.fnXTextsRow.targs := of_decide_eq_true (by kernel_rfl)
theorem fnXTexts_wrap : Tryz.f8.isWrapper Tryz.pinned.checked.prog Rows.fnXTextsRow.wrapper Rows.fnXTextsRow.mainSum := by
  unfold Func.isWrapper
  first | (rw [if_pos (by decide +kernel)]; kernel_rfl) | (rw [if_neg (by decide +kernel)]; exact ⟨rfl, rfl⟩)
set_option maxRecDepth 100000 in
theorem fnXTexts_holds (hfn : ∀ (s : ByteArray) (w : World), Lib.Utf8Tabs 4 5 w → Errs (fun x => w.heap.size ≤ x) w → Calls Tryz.prog 8 #[.string s] w fun e w' => e = .returned (.bool true) ∧ Below w.heap.size w w') : Rows.FnXTextsSaid :=
  OpenClaim.holds_of_wide 8 Tryz.f8 rfl rfl rfl rfl rfl rfl rfl ⟨rfl, rfl, rfl, rfl, rfl⟩ rfl rfl rfl rfl rfl fnXTexts_named Tryz.func8 fnXTexts_facts
    fnXTexts_inst fnXTexts_wrap
    (fun os started H enc _ => fnXTexts_lifted hfn os started H enc)
end Go.Proofs.YtlljphipglgjiaaGreatDoor
