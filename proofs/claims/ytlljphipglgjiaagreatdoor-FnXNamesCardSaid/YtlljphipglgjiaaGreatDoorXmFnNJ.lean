/-
  The row's closed facts, joined.
  FnXNames: its row's statement and its card, over the law's walk.
  FnXNames holds: for every text the call answers true (its card).
-/
import Derived.Test.YtlljphipglgjiaaGreatDoorXmFactN
import Derived.Test.YtlljphipglgjiaaGreatDoorXmRowN
import Derived.Test.YtlljphipglgjiaaGreatDoorXmRoot
import Derived.Test.YtlljphipglgjiaaGreatDoorXmFnN
import Derived.Test.YtlljphipglgjiaaGreatDoorXmMk7
namespace Go.Proofs.YtlljphipglgjiaaGreatDoor
open Go
set_option maxRecDepth 100000 in
theorem fnXNames_facts : joinedFacts Tryz.prog 3 Tryz.f3 Rows.fnXNamesSpec Rows.fnXNamesRow = true :=
  and2 (and2 (and2 (and2 (and2 (and2 (and2 (and2 (and2 (and2 (and2 (and2 (and2 (and2 (and2 (and2 (and2 (and2 (and2 (and2 (and2 (and2 (and2 (and2 (and2 (and2 (and2 (and2 (and2 (and2 (and2 (fnXNames_fact0) fnXNames_fact1) fnXNames_fact2) fnXNames_fact3) fnXNames_fact4) fnXNames_fact5) fnXNames_fact6) fnXNames_fact7) fnXNames_fact8) fnXNames_fact9) fnXNames_fact10) fnXNames_fact11) fnXNames_fact12) fnXNames_fact13) fnXNames_fact14) fnXNames_fact15) fnXNames_fact16) fnXNames_fact17) fnXNames_fact18) fnXNames_fact19) fnXNames_fact20) fnXNames_fact21) fnXNames_fact22) fnXNames_fact23) fnXNames_fact24) fnXNames_fact25) fnXNames_fact26) fnXNames_fact27) fnXNames_fact28) fnXNames_fact29) fnXNames_fact30) fnXNames_fact31
end Go.Proofs.YtlljphipglgjiaaGreatDoor

namespace Go.Proofs.YtlljphipglgjiaaGreatDoor
open Go Go.RowKit

theorem fnXNames_named : Tryz.pinned.checked.prog.funcNamed Rows.fnXNamesRow.func = some 3 := by kernel_rfl
theorem fnXNames_inst : Tryz.f3.isInstance Tryz.pinned.checked.prog Rows.fnXNamesRow.origin Rows.fnXNamesRow.targs := of_decide_eq_true (by kernel_rfl)
theorem fnXNames_wrap : Tryz.f3.isWrapper Tryz.pinned.checked.prog Rows.fnXNamesRow.wrapper Rows.fnXNamesRow.mainSum := by
  unfold Func.isWrapper
  first | (rw [if_pos (by decide +kernel)]; kernel_rfl) | (rw [if_neg (by decide +kernel)]; exact ⟨rfl, rfl⟩)
set_option maxRecDepth 100000 in
theorem fnXNames_holds (hfn : ∀ (s : ByteArray) (w : World), Lib.Utf8Tabs 4 5 w → Errs (fun x => w.heap.size ≤ x) w → Calls Tryz.prog 3 #[.string s] w fun e w' => e = .returned (.bool true) ∧ Below w.heap.size w w') : Rows.FnXNamesSaid :=
  OpenClaim.holds_of_wide 3 Tryz.f3 rfl rfl rfl rfl rfl rfl rfl ⟨rfl, rfl, rfl, rfl, rfl⟩ rfl rfl rfl rfl rfl fnXNames_named Tryz.func3 fnXNames_facts
    fnXNames_inst fnXNames_wrap
    (fun os started H enc _ => fnXNames_lifted hfn os started H enc)
end Go.Proofs.YtlljphipglgjiaaGreatDoor

namespace Go.Proofs.YtlljphipglgjiaaGreatDoor
open Go Go.RowKit Go.Lib

theorem fnXNames_says (s : ByteArray) (w : World) (hT : Lib.Utf8Tabs 4 5 w) (hE : Errs (fun x => w.heap.size ≤ x) w) : Calls Tryz.prog 3 #[.string s] w fun e w' => e = .returned (.bool true) ∧ Below w.heap.size w w' :=
  fnXNames_any (fun s hs w hE => xread_any s hs w hE) awake_any s w hT hE

theorem fnXNames_wf : Rows.fnXNamesRow.wfByText (OpenSpec.ofChange Rows.fnXNamesSpec) = true := by kernel_rfl
theorem fnXNames_main : Tryz.pinned.checked.prog.mainIs = some (true, "61314e9e18f21cb973648301a151d495b3858ad5753e630538c918ac6b76c652".toList) := by kernel_rfl
theorem fnXNames_looks : true = Tryz.pinned.checked.prog.looks [] := by kernel_rfl
theorem fnXNames_goes : false = Rows.fnXNamesRow.goesBy Tryz.pinned.checked.prog := by kernel_rfl
theorem fnXNames_f : Tryz.prog.funcNamed "given.example/pub-tinwright/laws.FnXNames" = some 3 := by kernel_rfl
theorem fnXNames_in : ([9].all fun u => !Tryz.prog.wantsStandIn u) = true := by kernel_rfl
set_option maxRecDepth 100000 in
theorem fnXNames_card_holds : Rows.FnXNamesCardSaid :=
  Claim7.holds_tied_plain_at .later [] [.data, .data, .data, .data, .data, .sentinel, .sentinel, .sentinel, .sentinel, .pinned, .pinned, .pinned] true (true, "61314e9e18f21cb973648301a151d495b3858ad5753e630538c918ac6b76c652") true (fnXNames_holds fnXNames_says) (fun _ h => by cases h) fnXNames_wf (fun _ h => by cases h) fnXNames_row_tie rfl ⟨rfl, rfl⟩ fnXNames_main rfl
    (fun f fn hf hfn => by
      obtain rfl : f = 3 := Option.some.inj (fnXNames_f.symm.trans hf) |>.symm
      obtain rfl : fn = Tryz.f3 := (Option.some.inj (Tryz.func3.symm.trans hfn)).symm
      exact ⟨fnXNames_looks, fun j t ht => by
        rw [Tryz.params3] at ht
        have hm : t ∈ [9] := by simpa using Array.mem_of_getElem? ht
        exact (show Tryz.prog.wantsStandIn t = false by simpa using List.all_eq_true.1 fnXNames_in t hm)⟩)
    fnXNames_goes
end Go.Proofs.YtlljphipglgjiaaGreatDoor
