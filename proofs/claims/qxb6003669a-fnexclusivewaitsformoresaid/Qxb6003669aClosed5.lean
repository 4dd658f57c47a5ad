import Derived.Test.Qxb6003669aRows
import Derived.ProofKit
/- The row's closed facts, each by itself; that she comes to a function that calls itself: the library's pdqsortOrdered, number 32. -/
namespace Go.Proofs.Qxb6003669a.Calls5
set_option maxRecDepth 100000
theorem c5 : (Try.prog.closure 5).contains 32 = true := by kernel_rfl
theorem l32 : ((Try.prog.funcs[32]?).elim [] Try.prog.leadsTo).contains 32 = true := by kernel_rfl
theorem c32 : (Try.prog.closure 32).contains 32 = true := by kernel_rfl
theorem rec5 : Try.prog.recurses 5 = true := by
  unfold Program.recurses
  rw [Bool.or_eq_true]
  exact .inr (List.any_eq_true.2 ⟨32, List.contains_iff_mem.1 c5, List.any_eq_true.2 ⟨32, List.contains_iff_mem.1 l32, c32⟩⟩)
theorem recB : (Rows.fnExclusiveWaitsForMoreRow.recurses == Try.pinned.checked.prog.recurses 5) = true := by
  have h : Try.pinned.checked.prog.recurses 5 = true := rec5
  rw [h]
  rfl
set_option maxHeartbeats 8000000 in
theorem closed : joinedFacts Try.pinned.checked.prog 5 Try.f5 Rows.fnExclusiveWaitsForMoreSpec Rows.fnExclusiveWaitsForMoreRow = true := by
  simp only [joinedFacts, Bool.and_eq_true]
  repeat' apply And.intro
  rotate_left 11
  · exact recB
  all_goals (as_aux_lemma => kernel_rfl)
end Go.Proofs.Qxb6003669a.Calls5
