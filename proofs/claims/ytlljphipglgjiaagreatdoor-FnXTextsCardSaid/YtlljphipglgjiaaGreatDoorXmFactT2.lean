/-
  The row's closed facts, joined.
-/
import Derived.Test.YtlljphipglgjiaaGreatDoorXmFactT
namespace Go.Proofs.YtlljphipglgjiaaGreatDoor
open Go
set_option maxRecDepth 100000 in
theorem fnXTexts_facts : joinedFacts Tryz.prog 8 Tryz.f8 Rows.fnXTextsSpec Rows.fnXTextsRow = true :=
  and2 (and2 (and2 (and2 (and2 (and2 (and2 (and2 (and2 (and2 (and2 (and2 (and2 (and2 (and2 (and2 (and2 (and2 (and2 (and2 (and2 (and2 (and2 (and2 (and2 (and2 (and2 (and2 (and2 (and2 (and2 (fnXTexts_fact0) fnXTexts_fact1) fnXTexts_fact2) fnXTexts_fact3) fnXTexts_fact4) fnXTexts_fact5) fnXTexts_fact6) fnXTexts_fact7) fnXTexts_fact8) fnXTexts_fact9) fnXTexts_fact10) fnXTexts_fact11) fnXTexts_fact12) fnXTexts_fact13) fnXTexts_fact14) fnXTexts_fact15) fnXTexts_fact16) fnXTexts_fact17) fnXTexts_fact18) fnXTexts_fact19) fnXTexts_fact20) fnXTexts_fact21) fnXTexts_fact22) fnXTexts_fact23) fnXTexts_fact24) fnXTexts_fact25) fnXTexts_fact26) fnXTexts_fact27) fnXTexts_fact28) fnXTexts_fact29) fnXTexts_fact30) fnXTexts_fact31
end Go.Proofs.YtlljphipglgjiaaGreatDoor
