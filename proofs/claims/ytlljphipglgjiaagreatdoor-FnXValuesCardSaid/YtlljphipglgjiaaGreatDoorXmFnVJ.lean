/-
  The row's closed facts, joined.
  FnXValues: its row's statement and its card, over the law's walk.
  FnXValues holds: for every text the call answers true (its card).
-/
import Derived.Test.YtlljphipglgjiaaGreatDoorXmFactV
import Derived.Test.YtlljphipglgjiaaGreatDoorXmSml
import Derived.Test.YtlljphipglgjiaaGreatDoorXmRoot
import Derived.Test.YtlljphipglgjiaaGreatDoorXmMk7
namespace Go.Proofs.YtlljphipglgjiaaGreatDoor
open Go
set_option maxRecDepth 100000 in
theorem fnXValues_facts : joinedFacts Tryz.prog 4 Tryz.f4 Rows.fnXValuesSpec Rows.fnXValuesRow = true :=
  and2 (and2 (and2 (and2 (and2 (and2 (and2 (and2 (and2 (and2 (and2 (and2 (and2 (and2 (and2 (and2 (and2 (and2 (and2 (and2 (and2 (and2 (and2 (and2 (and2 (and2 (and2 (and2 (and2 (and2 (and2 (fnXValues_fact0) fnXValues_fact1) fnXValues_fact2) fnXValues_fact3) fnXValues_fact4) fnXValues_fact5) fnXValues_fact6) fnXValues_fact7) fnXValues_fact8) fnXValues_fact9) fnXValues_fact10) fnXValues_fact11) fnXValues_fact12) fnXValues_fact13) fnXValues_fact14) fnXValues_fact15) fnXValues_fact16) fnXValues_fact17) fnXValues_fact18) fnXValues_fact19) fnXValues_fact20) fnXValues_fact21) fnXValues_fact22) fnXValues_fact23) fnXValues_fact24) fnXValues_fact25) fnXValues_fact26) fnXValues_fact27) fnXValues_fact28) fnXValues_fact29) fnXValues_fact30) fnXValues_fact31
end Go.Proofs.YtlljphipglgjiaaGreatDoor

namespace Go.Proofs.YtlljphipglgjiaaGreatDoor
open Go Go.RowKit

theorem fnXValues_named : Tryz.pinned.checked.prog.funcNamed Rows.fnXValuesRow.func = some 4 := by kernel_rfl
theorem fnXValues_inst : Tryz.f4.isInstance Tryz.pinned.checked.prog Rows.fnXValuesRow.origin Rows.fnXValuesRow.targs := of_decide_eq_true (by kernel_rfl)
theorem fnXValues_wrap : Tryz.f4.isWrapper Tryz.pinned.checked.prog Rows.fnXValuesRow.wrapper Rows.fnXValuesRow.mainSum := by
  unfold Func.isWrapper
  first | (rw [if_pos (by decide +kernel)]; kernel_rfl) | (rw [if_neg (by decide +kernel)]; exact ⟨rfl, rfl⟩)
set_option maxRecDepth 100000 in
theorem fnXValues_holds (hfn : ValuesHold) : Rows.FnXValuesSaid :=
  OpenClaim.holds_of_wide 4 Tryz.f4 rfl rfl rfl rfl rfl rfl rfl ⟨rfl, rfl, rfl, rfl, rfl⟩ rfl rfl rfl rfl rfl fnXValues_named Tryz.func4 fnXValues_facts
    fnXValues_inst fnXValues_wrap
    (fun os started H enc _ => fnXValues_lifted hfn os started H enc)
end Go.Proofs.YtlljphipglgjiaaGreatDoor

namespace Go.Proofs.YtlljphipglgjiaaGreatDoor
open Go Go.RowKit Go.Lib

theorem fnXValues_says : ValuesHold := fun s p names cap w hnm hT hE =>
  fnXValues_any (fun s hs w hE => xread_any s hs w hE) awake_any s p names cap w hnm hT hE

theorem fnXValues_wf : Rows.fnXValuesRow.wfByText (OpenSpec.ofChange Rows.fnXValuesSpec) = true := by kernel_rfl
theorem fnXValues_main : Tryz.pinned.checked.prog.mainIs = some (true, "61314e9e18f21cb973648301a151d495b3858ad5753e630538c918ac6b76c652".toList) := by kernel_rfl
theorem fnXValues_looks : true = Tryz.pinned.checked.prog.looks [] := by kernel_rfl
theorem fnXValues_goes : false = Rows.fnXValuesRow.goesBy Tryz.pinned.checked.prog := by kernel_rfl
theorem fnXValues_f : Tryz.prog.funcNamed "given.example/pub-tinwright/laws.FnXValues" = some 4 := by kernel_rfl
theorem fnXValues_in : ([9, 29].all fun u => !Tryz.prog.wantsStandIn u) = true := by kernel_rfl
set_option maxRecDepth 100000 in
theorem fnXValues_card_holds : Rows.FnXValuesCardSaid :=
  Claim7.holds_tied_plain_at .later [] [.data, .data, .data, .data, .data, .sentinel, .sentinel, .sentinel, .sentinel, .pinned, .pinned, .pinned] true (true, "61314e9e18f21cb973648301a151d495b3858ad5753e630538c918ac6b76c652") true (fnXValues_holds fnXValues_says) (fun _ h => by cases h) fnXValues_wf (fun _ h => by cases h) fnXValues_row_tie rfl ⟨rfl, rfl⟩ fnXValues_main rfl
    (fun f fn hf hfn => by
      obtain rfl : f = 4 := Option.some.inj (fnXValues_f.symm.trans hf) |>.symm
      obtain rfl : fn = Tryz.f4 := (Option.some.inj (Tryz.func4.symm.trans hfn)).symm
      exact ⟨fnXValues_looks, fun j t ht => by
        rw [Tryz.params4] at ht
        have hm : t ∈ [9, 29] := by simpa using Array.mem_of_getElem? ht
        exact (show Tryz.prog.wantsStandIn t = false by simpa using List.all_eq_true.1 fnXValues_in t hm)⟩)
    fnXValues_goes
end Go.Proofs.YtlljphipglgjiaaGreatDoor
