import Derived.Test.Qxb6600506aRows
import Derived.ProofKit
/- Which functions the two laws come to, and that none of them calls itself: each list by the kernel, once; the row's closed fact on recursion out of them. -/
namespace Go.Proofs.Qxb6600506a.Calls
set_option maxRecDepth 100000
theorem l8 : (Try.prog.funcs[8]?).elim [] Try.prog.leadsTo = [23, 12, 20, 20] := by kernel_rfl
theorem l23 : (Try.prog.funcs[23]?).elim [] Try.prog.leadsTo = [] := by kernel_rfl
theorem l12 : (Try.prog.funcs[12]?).elim [] Try.prog.leadsTo = [] := by kernel_rfl
theorem l20 : (Try.prog.funcs[20]?).elim [] Try.prog.leadsTo = [30] := by kernel_rfl
theorem l30 : (Try.prog.funcs[30]?).elim [] Try.prog.leadsTo = [29] := by kernel_rfl
theorem l29 : (Try.prog.funcs[29]?).elim [] Try.prog.leadsTo = [] := by kernel_rfl
theorem l5 : (Try.prog.funcs[5]?).elim [] Try.prog.leadsTo = [18, 12, 13, 15, 13, 15] := by kernel_rfl
theorem l18 : (Try.prog.funcs[18]?).elim [] Try.prog.leadsTo = [] := by kernel_rfl
theorem l13 : (Try.prog.funcs[13]?).elim [] Try.prog.leadsTo = [29] := by kernel_rfl
theorem l15 : (Try.prog.funcs[15]?).elim [] Try.prog.leadsTo = [] := by kernel_rfl
theorem c8 : Try.prog.closure 8 = [8, 23, 12, 20, 30, 29] := by kernel_rfl
theorem c23 : Try.prog.closure 23 = [23] := by kernel_rfl
theorem c12 : Try.prog.closure 12 = [12] := by kernel_rfl
theorem c20 : Try.prog.closure 20 = [20, 30, 29] := by kernel_rfl
theorem c30 : Try.prog.closure 30 = [30, 29] := by kernel_rfl
theorem c29 : Try.prog.closure 29 = [29] := by kernel_rfl
theorem c5 : Try.prog.closure 5 = [5, 18, 12, 13, 29, 15] := by kernel_rfl
theorem c18 : Try.prog.closure 18 = [18] := by kernel_rfl
theorem c13 : Try.prog.closure 13 = [13, 29] := by kernel_rfl
theorem c15 : Try.prog.closure 15 = [15] := by kernel_rfl
theorem u8 : Try.prog.unfollowed 8 = false := by kernel_rfl
theorem rec8 : Try.prog.recurses 8 = false := by
  unfold Program.recurses
  rw [u8, c8]
  simp only [List.any_cons, List.any_nil, l8, l23, l12, l20, l30, l29, c23, c12, c20, c30, c29, Bool.or_false, Bool.false_or]
  decide
theorem u5 : Try.prog.unfollowed 5 = false := by kernel_rfl
theorem rec5 : Try.prog.recurses 5 = false := by
  unfold Program.recurses
  rw [u5, c5]
  simp only [List.any_cons, List.any_nil, l5, l18, l12, l13, l29, l15, c18, c12, c13, c29, c15, Bool.or_false, Bool.false_or]
  decide
end Go.Proofs.Qxb6600506a.Calls
