/-
  FnXTexts holds: for every text the call answers true (its card).
-/
import Derived.Test.YtlljphipglgjiaaGreatDoorXmElem
import Derived.Test.YtlljphipglgjiaaGreatDoorXmRead
import Derived.Test.YtlljphipglgjiaaGreatDoorXmFnT
import Derived.Test.YtlljphipglgjiaaGreatDoorXmRowT2
namespace Go.Proofs.YtlljphipglgjiaaGreatDoor
open Go Go.RowKit Go.Lib

theorem elem_any (b : Nat) (s : ByteArray) : ∀ d : Nat, d ≤ 1000 → ∀ (M : Nat → Prop) (i : Nat) (bad : Bool) (w : World), RdM M w b s i bad → Errs M w → Calls Tryz.prog 55 #[.pointer (some ⟨b, 0, none⟩), .int .i64 (d : Int)] w (ElPost M b s i w (if bad then none else elemL d (s.data.toList.drop i))) := by
  intro d
  induction d with
  | zero => exact fun hd => elem_step 0 b s hd (fun d' h => by omega)
  | succ d ih =>
    intro hd
    refine elem_step (d + 1) b s hd fun d' h => ?_
    obtain rfl : d' = d := by omega
    exact ih (by omega)
theorem xread_any (s : ByteArray) (hs : s.size ≤ 1000000) (w : World) (hE : Errs (fun x => w.heap.size ≤ x) w) : Calls Tryz.prog 25 #[.string s] w (XPost w (xreadL s.data.toList)) :=
  xread_of (fun b s d hd M i bad w hR hE => (elem_any b s d hd M i bad w hR hE).mono fun _ _ h => h) s hs w hE
theorem fnXTexts_says (s : ByteArray) (w : World) (hT : Lib.Utf8Tabs 4 5 w) (hE : Errs (fun x => w.heap.size ≤ x) w) : Calls Tryz.prog 8 #[.string s] w fun e w' => e = .returned (.bool true) ∧ Below w.heap.size w w' :=
  fnXTexts_any (fun s hs w hE => xread_any s hs w hE) s w hT hE

theorem fnXTexts_wf : Rows.fnXTextsRow.wfByText (OpenSpec.ofChange Rows.fnXTextsSpec) = true := by kernel_rfl
theorem fnXTexts_main : Tryz.pinned.checked.prog.mainIs = some (true, "61314e9e18f21cb973648301a151d495b3858ad5753e630538c918ac6b76c652".toList) := by kernel_rfl
theorem fnXTexts_looks : true = Tryz.pinned.checked.prog.looks [] := by kernel_rfl
theorem fnXTexts_goes : false = Rows.fnXTextsRow.goesBy Tryz.pinned.checked.prog := by kernel_rfl
theorem fnXTexts_f : Tryz.prog.funcNamed "given.example/pub-tinwright/laws.FnXTexts" = some 8 := by kernel_rfl
theorem fnXTexts_in : ([9].all fun u => !Tryz.prog.wantsStandIn u) = true := by kernel_rfl
set_option maxRecDepth 100000 in
theorem fnXTexts_card_holds : Rows.FnXTextsCardSaid :=
  Claim7.holds_tied_plain_at .later [] [.data, .data, .data, .data, .data, .sentinel, .sentinel, .pinned, .pinned, .pinned] true (true, "61314e9e18f21cb973648301a151d495b3858ad5753e630538c918ac6b76c652") true (fnXTexts_holds fnXTexts_says) (fun _ h => by cases h) fnXTexts_wf (fun _ h => by cases h) fnXTexts_row_tie rfl ⟨rfl, rfl⟩ fnXTexts_main rfl
    (fun f fn hf hfn => by
      obtain rfl : f = 8 := Option.some.inj (fnXTexts_f.symm.trans hf) |>.symm
      obtain rfl : fn = Tryz.f8 := (Option.some.inj (Tryz.func8.symm.trans hfn)).symm
      exact ⟨fnXTexts_looks, fun j t ht => by
        rw [Tryz.params8] at ht
        have hm : t ∈ [9] := by simpa using Array.mem_of_getElem? ht
        exact (show Tryz.prog.wantsStandIn t = false by simpa using List.all_eq_true.1 fnXTexts_in t hm)⟩)
    fnXTexts_goes
end Go.Proofs.YtlljphipglgjiaaGreatDoor
