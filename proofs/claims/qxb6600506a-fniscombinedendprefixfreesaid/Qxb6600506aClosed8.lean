import Derived.Test.Qxb6600506aCalls
namespace Go.Proofs.Qxb6600506a.Calls
set_option maxRecDepth 100000
theorem recB8 : (Rows.fnIsCombinedEndPrefixFreeRow.recurses == Try.pinned.checked.prog.recurses 8) = true := by
  have h : Try.pinned.checked.prog.recurses 8 = false := rec8
  rw [h]
  rfl
set_option maxHeartbeats 4000000 in
/-- The row's closed facts, each by itself. -/
theorem closed8 : joinedFacts Try.pinned.checked.prog 8 Try.f8 Rows.fnIsCombinedEndPrefixFreeSpec Rows.fnIsCombinedEndPrefixFreeRow = true := by
  simp only [joinedFacts, Bool.and_eq_true]
  repeat' apply And.intro
  rotate_left 11
  · exact recB8
  all_goals (as_aux_lemma => kernel_rfl)
end Go.Proofs.Qxb6600506a.Calls
