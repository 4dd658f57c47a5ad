import Derived.Test.Qxb6600222aRows
import Derived.ProofKit
/- Which functions law 6 comes to, and that none of them calls itself: each list by the kernel, once; the row's closed facts out of them. -/
namespace Go.Proofs.Qxb6600222a.Calls6
set_option maxRecDepth 100000
theorem l6 : (Try.prog.funcs[6]?).elim [] Try.prog.leadsTo = [14, 15, 16, 17, 17, 16, 17, 17, 18, 19, 20, 20, 21, 23, 22, 24, 25, 26, 27, 28, 29, 18, 30, 31, 26, 24, 32] := by kernel_rfl
theorem l14 : (Try.prog.funcs[14]?).elim [] Try.prog.leadsTo = [] := by kernel_rfl
theorem l15 : (Try.prog.funcs[15]?).elim [] Try.prog.leadsTo = [36, 36, 37, 37, 37, 37] := by kernel_rfl
theorem l36 : (Try.prog.funcs[36]?).elim [] Try.prog.leadsTo = [] := by kernel_rfl
theorem l37 : (Try.prog.funcs[37]?).elim [] Try.prog.leadsTo = [] := by kernel_rfl
theorem l16 : (Try.prog.funcs[16]?).elim [] Try.prog.leadsTo = [] := by kernel_rfl
theorem l17 : (Try.prog.funcs[17]?).elim [] Try.prog.leadsTo = [] := by kernel_rfl
theorem l18 : (Try.prog.funcs[18]?).elim [] Try.prog.leadsTo = [] := by kernel_rfl
theorem l19 : (Try.prog.funcs[19]?).elim [] Try.prog.leadsTo = [38, 18, 18, 38, 39, 40, 41, 38, 39, 42, 42] := by kernel_rfl
theorem l38 : (Try.prog.funcs[38]?).elim [] Try.prog.leadsTo = [] := by kernel_rfl
theorem l39 : (Try.prog.funcs[39]?).elim [] Try.prog.leadsTo = [] := by kernel_rfl
theorem l40 : (Try.prog.funcs[40]?).elim [] Try.prog.leadsTo = [] := by kernel_rfl
theorem l41 : (Try.prog.funcs[41]?).elim [] Try.prog.leadsTo = [] := by kernel_rfl
theorem l42 : (Try.prog.funcs[42]?).elim [] Try.prog.leadsTo = [] := by kernel_rfl
theorem l20 : (Try.prog.funcs[20]?).elim [] Try.prog.leadsTo = [18, 18] := by kernel_rfl
theorem l21 : (Try.prog.funcs[21]?).elim [] Try.prog.leadsTo = [] := by kernel_rfl
theorem l23 : (Try.prog.funcs[23]?).elim [] Try.prog.leadsTo = [18] := by kernel_rfl
theorem l22 : (Try.prog.funcs[22]?).elim [] Try.prog.leadsTo = [43] := by kernel_rfl
theorem l43 : (Try.prog.funcs[43]?).elim [] Try.prog.leadsTo = [46] := by kernel_rfl
theorem l46 : (Try.prog.funcs[46]?).elim [] Try.prog.leadsTo = [] := by kernel_rfl
theorem l24 : (Try.prog.funcs[24]?).elim [] Try.prog.leadsTo = [] := by kernel_rfl
theorem l25 : (Try.prog.funcs[25]?).elim [] Try.prog.leadsTo = [] := by kernel_rfl
theorem l26 : (Try.prog.funcs[26]?).elim [] Try.prog.leadsTo = [] := by kernel_rfl
theorem l27 : (Try.prog.funcs[27]?).elim [] Try.prog.leadsTo = [] := by kernel_rfl
theorem l28 : (Try.prog.funcs[28]?).elim [] Try.prog.leadsTo = [] := by kernel_rfl
theorem l29 : (Try.prog.funcs[29]?).elim [] Try.prog.leadsTo = [] := by kernel_rfl
theorem l30 : (Try.prog.funcs[30]?).elim [] Try.prog.leadsTo = [] := by kernel_rfl
theorem l31 : (Try.prog.funcs[31]?).elim [] Try.prog.leadsTo = [] := by kernel_rfl
theorem l32 : (Try.prog.funcs[32]?).elim [] Try.prog.leadsTo = [] := by kernel_rfl
theorem c6 : Try.prog.closure 6 = [6, 14, 15, 36, 37, 16, 17, 18, 19, 38, 39, 40, 41, 42, 20, 21, 23, 22, 43, 46, 24, 25, 26, 27, 28, 29, 30, 31, 32] := by kernel_rfl
theorem c14 : Try.prog.closure 14 = [14] := by kernel_rfl
theorem c15 : Try.prog.closure 15 = [15, 36, 37] := by kernel_rfl
theorem c36 : Try.prog.closure 36 = [36] := by kernel_rfl
theorem c37 : Try.prog.closure 37 = [37] := by kernel_rfl
theorem c16 : Try.prog.closure 16 = [16] := by kernel_rfl
theorem c17 : Try.prog.closure 17 = [17] := by kernel_rfl
theorem c18 : Try.prog.closure 18 = [18] := by kernel_rfl
theorem c19 : Try.prog.closure 19 = [19, 38, 18, 39, 40, 41, 42] := by kernel_rfl
theorem c38 : Try.prog.closure 38 = [38] := by kernel_rfl
theorem c39 : Try.prog.closure 39 = [39] := by kernel_rfl
theorem c40 : Try.prog.closure 40 = [40] := by kernel_rfl
theorem c41 : Try.prog.closure 41 = [41] := by kernel_rfl
theorem c42 : Try.prog.closure 42 = [42] := by kernel_rfl
theorem c20 : Try.prog.closure 20 = [20, 18] := by kernel_rfl
theorem c21 : Try.prog.closure 21 = [21] := by kernel_rfl
theorem c23 : Try.prog.closure 23 = [23, 18] := by kernel_rfl
theorem c22 : Try.prog.closure 22 = [22, 43, 46] := by kernel_rfl
theorem c43 : Try.prog.closure 43 = [43, 46] := by kernel_rfl
theorem c46 : Try.prog.closure 46 = [46] := by kernel_rfl
theorem c24 : Try.prog.closure 24 = [24] := by kernel_rfl
theorem c25 : Try.prog.closure 25 = [25] := by kernel_rfl
theorem c26 : Try.prog.closure 26 = [26] := by kernel_rfl
theorem c27 : Try.prog.closure 27 = [27] := by kernel_rfl
theorem c28 : Try.prog.closure 28 = [28] := by kernel_rfl
theorem c29 : Try.prog.closure 29 = [29] := by kernel_rfl
theorem c30 : Try.prog.closure 30 = [30] := by kernel_rfl
theorem c31 : Try.prog.closure 31 = [31] := by kernel_rfl
theorem c32 : Try.prog.closure 32 = [32] := by kernel_rfl
theorem u : Try.prog.unfollowed 6 = false := by kernel_rfl
set_option maxHeartbeats 4000000 in
theorem rec0 : Try.prog.recurses 6 = false := by
  unfold Program.recurses
  rw [u, c6]
  simp only [List.any_cons, List.any_nil, l6, l14, l15, l36, l37, l16, l17, l18, l19, l38, l39, l40, l41, l42, l20, l21, l23, l22, l43, l46, l24, l25, l26, l27, l28, l29, l30, l31, l32, c14, c15, c36, c37, c16, c17, c18, c19, c38, c39, c40, c41, c42, c20, c21, c23, c22, c43, c46, c24, c25, c26, c27, c28, c29, c30, c31, c32, Bool.or_false, Bool.false_or]
  decide
theorem recB : (Rows.fnPutDummiesSplicesChainAtFirstNamesakeRow.recurses == Try.pinned.checked.prog.recurses 6) = true := by
  have h : Try.pinned.checked.prog.recurses 6 = false := rec0
  rw [h]
  rfl
set_option maxHeartbeats 8000000 in
/-- The row's closed facts, each by itself. -/
theorem closed : joinedFacts Try.pinned.checked.prog 6 Try.f6 Rows.fnPutDummiesSplicesChainAtFirstNamesakeSpec Rows.fnPutDummiesSplicesChainAtFirstNamesakeRow = true := by
  simp only [joinedFacts, Bool.and_eq_true]
  repeat' apply And.intro
  rotate_left 11
  · exact recB
  all_goals (as_aux_lemma => kernel_rfl)
end Go.Proofs.Qxb6600222a.Calls6
