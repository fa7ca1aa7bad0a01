/-
  FnIncludeDir: the closed facts of its row, one by one.
-/
import Derived.Test.YthaelfafmnbjgaaGreatDoorZRw
import Derived.JoinedOf
set_option linter.all false
set_option linter.unusedVariables false
set_option linter.unusedSimpArgs false
set_option linter.unusedSectionVars false

namespace Go.Proofs.YthaelfafmnbjgaaGreatDoor
open Go

set_option maxRecDepth 100000 in
set_option maxHeartbeats 100000000 in
theorem fnIncludeDir_closed : joinedFacts Tryz.pinned.checked.prog 6 Tryz.f6 (OpenSpec.ofChange Rows.fnIncludeDirSpec).bare Rows.fnIncludeDirRow = true := by
  unfold joinedFacts
  repeat' (with_reducible apply and_mk)
  all_goals as_aux_lemma => kernel_rfl
end Go.Proofs.YthaelfafmnbjgaaGreatDoor
