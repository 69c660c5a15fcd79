/-
  The row's closed facts, joined.
  FnXErrors: its row's statement and its card, over the law's walk.
  FnXErrors holds: for every text the call answers true (its card).
-/
import Derived.Test.YtlljphipglgjiaaGreatDoorXmFactE
import Derived.Test.YtlljphipglgjiaaGreatDoorXmFnE0
import Derived.Test.YtlljphipglgjiaaGreatDoorXmRoot
import Derived.Test.YtlljphipglgjiaaGreatDoorXmMk7
namespace Go.Proofs.YtlljphipglgjiaaGreatDoor
open Go
set_option maxRecDepth 100000 in
theorem fnXErrors_facts : joinedFacts Tryz.prog 10 Tryz.f10 Rows.fnXErrorsSpec Rows.fnXErrorsRow = true :=
  and2 (and2 (and2 (and2 (and2 (and2 (and2 (and2 (and2 (and2 (and2 (and2 (and2 (and2 (and2 (and2 (and2 (and2 (and2 (and2 (and2 (and2 (and2 (and2 (and2 (and2 (and2 (and2 (and2 (and2 (and2 (fnXErrors_fact0) fnXErrors_fact1) fnXErrors_fact2) fnXErrors_fact3) fnXErrors_fact4) fnXErrors_fact5) fnXErrors_fact6) fnXErrors_fact7) fnXErrors_fact8) fnXErrors_fact9) fnXErrors_fact10) fnXErrors_fact11) fnXErrors_fact12) fnXErrors_fact13) fnXErrors_fact14) fnXErrors_fact15) fnXErrors_fact16) fnXErrors_fact17) fnXErrors_fact18) fnXErrors_fact19) fnXErrors_fact20) fnXErrors_fact21) fnXErrors_fact22) fnXErrors_fact23) fnXErrors_fact24) fnXErrors_fact25) fnXErrors_fact26) fnXErrors_fact27) fnXErrors_fact28) fnXErrors_fact29) fnXErrors_fact30) fnXErrors_fact31
end Go.Proofs.YtlljphipglgjiaaGreatDoor

namespace Go.Proofs.YtlljphipglgjiaaGreatDoor
open Go Go.RowKit

theorem fnXErrors_named : Tryz.pinned.checked.prog.funcNamed Rows.fnXErrorsRow.func = some 10 := by kernel_rfl
theorem fnXErrors_inst : Tryz.f10.isInstance Tryz.pinned.checked.prog Rows.fnXErrorsRow.origin Rows.fnXErrorsRow.targs := of_decide_eq_true (by kernel_rfl)
theorem fnXErrors_wrap : Tryz.f10.isWrapper Tryz.pinned.checked.prog Rows.fnXErrorsRow.wrapper Rows.fnXErrorsRow.mainSum := by
  unfold Func.isWrapper
  first | (rw [if_pos (by decide +kernel)]; kernel_rfl) | (rw [if_neg (by decide +kernel)]; exact ⟨rfl, rfl⟩)
set_option maxRecDepth 100000 in
theorem fnXErrors_holds (hfn : ErrorsHold) : Rows.FnXErrorsSaid :=
  OpenClaim.holds_of_wide 10 Tryz.f10 rfl rfl rfl rfl rfl rfl rfl ⟨rfl, rfl, rfl, rfl, rfl⟩ rfl rfl rfl rfl rfl fnXErrors_named Tryz.func10 fnXErrors_facts
    fnXErrors_inst fnXErrors_wrap
    (fun os started H enc _ => fnXErrors_lifted hfn os started H enc)
end Go.Proofs.YtlljphipglgjiaaGreatDoor

namespace Go.Proofs.YtlljphipglgjiaaGreatDoor
open Go Go.RowKit Go.Lib

theorem fnXErrors_says : ErrorsHold := fun s bare w hT hE hEO =>
  fnXErrors_any (fun s hs w hE => xread_any s hs w hE) awake_any s bare w hT hE hEO

theorem fnXErrors_wf : Rows.fnXErrorsRow.wfByText (OpenSpec.ofChange Rows.fnXErrorsSpec) = true := by kernel_rfl
theorem fnXErrors_main : Tryz.pinned.checked.prog.mainIs = some (true, "61314e9e18f21cb973648301a151d495b3858ad5753e630538c918ac6b76c652".toList) := by kernel_rfl
theorem fnXErrors_looks : true = Tryz.pinned.checked.prog.looks [] := by kernel_rfl
theorem fnXErrors_goes : false = Rows.fnXErrorsRow.goesBy Tryz.pinned.checked.prog := by kernel_rfl
theorem fnXErrors_f : Tryz.prog.funcNamed "given.example/pub-tinwright/laws.FnXErrors" = some 10 := by kernel_rfl
theorem fnXErrors_in : ([9, 4].all fun u => !Tryz.prog.wantsStandIn u) = true := by kernel_rfl
set_option maxRecDepth 100000 in
theorem fnXErrors_card_holds : Rows.FnXErrorsCardSaid :=
  Claim7.holds_tied_plain_at .later [] [.data, .data, .data, .data, .data, .sentinel, .sentinel, .sentinel, .sentinel, .pinned, .pinned, .pinned] true (true, "61314e9e18f21cb973648301a151d495b3858ad5753e630538c918ac6b76c652") true (fnXErrors_holds fnXErrors_says) (fun _ h => by cases h) fnXErrors_wf (fun _ h => by cases h) fnXErrors_row_tie rfl ⟨rfl, rfl⟩ fnXErrors_main rfl
    (fun f fn hf hfn => by
      obtain rfl : f = 10 := Option.some.inj (fnXErrors_f.symm.trans hf) |>.symm
      obtain rfl : fn = Tryz.f10 := (Option.some.inj (Tryz.func10.symm.trans hfn)).symm
      exact ⟨fnXErrors_looks, fun j t ht => by
        rw [Tryz.params10] at ht
        have hm : t ∈ [9, 4] := by simpa using Array.mem_of_getElem? ht
        exact (show Tryz.prog.wantsStandIn t = false by simpa using List.all_eq_true.1 fnXErrors_in t hm)⟩)
    fnXErrors_goes
end Go.Proofs.YtlljphipglgjiaaGreatDoor
