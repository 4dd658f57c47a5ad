import Derived.Test.Qxb6600506aCalls
namespace Go.Proofs.Qxb6600506a.Calls
set_option maxRecDepth 100000
theorem recB5 : (Rows.fnQuotedExtendsBySuffixRow.recurses == Try.pinned.checked.prog.recurses 5) = true := by
  have h : Try.pinned.checked.prog.recurses 5 = false := rec5
  rw [h]
  rfl
set_option maxHeartbeats 4000000 in
/-- The row's closed facts, each by itself. -/
theorem closed5 : joinedFacts Try.pinned.checked.prog 5 Try.f5 Rows.fnQuotedExtendsBySuffixSpec Rows.fnQuotedExtendsBySuffixRow = true := by
  simp only [joinedFacts, Bool.and_eq_true]
  repeat' apply And.intro
  rotate_left 11
  · exact recB5
  all_goals (as_aux_lemma => kernel_rfl)
end Go.Proofs.Qxb6600506a.Calls
