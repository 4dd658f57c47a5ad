/-
  The plain half of the two lock-table statements: no Go in sight.
  'uniq ss': what slices.Sort and slices.Compact make of the ids ss: it hangs on the SET of them alone ('mem_uniq', 'uniq_ext').
-/
import Derived.Lib.SlicesCompact
namespace Go.Proofs.Qxb6003669a.Plain
open Go.Lib

abbrev Tx := List UInt8

def uniq (ss : List Tx) : List Tx := Lib.compact (ss.mergeSort fun x y => decide (x ≤ y))

theorem mem_upTo (d : Array Tx) (hs : ∀ i j, i ≤ j → j < d.size → d[i]! ≤ d[j]!) : ∀ m, m ≤ d.size → (∀ x, x ∈ compactUpTo d m ↔ ∃ j, j < m ∧ d[j]! = x) ∧ (compactUpTo d m).Pairwise (fun a b => a ≤ b ∧ a ≠ b)
  | 0, _ => by simp [compactUpTo]
  | m + 1, hm => by
    obtain ⟨h1, h2⟩ := mem_upTo d hs m (by omega)
    rw [compactUpTo_succ]
    cases hk : keeps d m with
    | true =>
      rw [if_pos rfl]
      refine ⟨fun x => ?_, ?_⟩
      · rw [List.mem_append, h1, List.mem_singleton]
        constructor
        · rintro (⟨j, hj, rfl⟩ | rfl)
          · exact ⟨j, by omega, rfl⟩
          · exact ⟨m, by omega, rfl⟩
        · rintro ⟨j, hj, rfl⟩
          by_cases e : j = m
          · subst e; exact .inr rfl
          · exact .inl ⟨j, by omega, rfl⟩
      · rw [List.pairwise_append]
        refine ⟨h2, List.pairwise_singleton _ _, fun a ha b hb => ?_⟩
        rw [List.mem_singleton] at hb
        subst hb
        obtain ⟨j, hj, rfl⟩ := (h1 a).1 ha
        refine ⟨hs j m (by omega) (by omega), fun e => ?_⟩
        simp only [keeps, decide_eq_true_eq] at hk
        rcases hk with rfl | hk
        · omega
        · apply hk
          have l1 := hs j (m - 1) (by omega) (by omega)
          have l2 := hs (m - 1) m (by omega) (by omega)
          rw [e] at l1
          exact List.le_antisymm l1 l2
    | false =>
      rw [if_neg (by simp), List.append_nil]
      refine ⟨fun x => ?_, h2⟩
      rw [h1]
      simp only [keeps, decide_eq_false_iff_not, not_or, Classical.not_not] at hk
      obtain ⟨hm0, he⟩ := hk
      constructor
      · rintro ⟨j, hj, rfl⟩; exact ⟨j, by omega, rfl⟩
      · rintro ⟨j, hj, rfl⟩
        by_cases e : j = m
        · subst e; exact ⟨j - 1, by omega, he.symm⟩
        · exact ⟨j, by omega, rfl⟩

theorem at_get (l : List Tx) (i : Nat) (h : i < l.length) : l.toArray[i]! = l[i] := by
  rw [getElem!_pos _ _ (by simpa using h)]
  simp

theorem sorted_at {l : List Tx} (h : l.Pairwise (fun a b => a ≤ b)) : ∀ i j, i ≤ j → j < l.toArray.size → l.toArray[i]! ≤ l.toArray[j]! := by
  intro i j hij hj
  have hj' : j < l.length := by simpa using hj
  rw [at_get l i (by omega), at_get l j hj']
  by_cases e : i = j
  · subst e; exact List.le_refl _
  · exact List.pairwise_iff_getElem.1 h i j (by omega) hj' (by omega)

theorem sort_sorted (ss : List Tx) : (ss.mergeSort fun x y => decide (x ≤ y)).Pairwise (fun a b => a ≤ b) := by
  have tr : ∀ a b c : Tx, decide (a ≤ b) = true → decide (b ≤ c) = true → decide (a ≤ c) = true := fun a b c h1 h2 => by simp only [decide_eq_true_eq] at *; exact List.le_trans h1 h2
  have to : ∀ a b : Tx, (decide (a ≤ b) || decide (b ≤ a)) = true := fun a b => by simp only [Bool.or_eq_true, decide_eq_true_eq]; exact List.le_total a b
  have := List.pairwise_mergeSort (le := fun x y : Tx => decide (x ≤ y)) tr to ss
  simpa using this

theorem uniq_facts (ss : List Tx) : (∀ x, x ∈ uniq ss ↔ x ∈ ss) ∧ (uniq ss).Pairwise (fun a b => a ≤ b ∧ a ≠ b) := by
  have h := mem_upTo (ss.mergeSort fun x y => decide (x ≤ y)).toArray (sorted_at (sort_sorted ss)) (ss.mergeSort fun x y => decide (x ≤ y)).length (by simp)
  refine ⟨fun x => ?_, h.2⟩
  show x ∈ compactUpTo _ _ ↔ _
  rw [h.1 x, ← (List.mergeSort_perm ss (fun x y => decide (x ≤ y))).mem_iff, List.mem_iff_getElem]
  constructor
  · rintro ⟨j, hj, e⟩; exact ⟨j, hj, by rw [← e, at_get _ j hj]⟩
  · rintro ⟨j, hj, e⟩; exact ⟨j, hj, by rw [← e, at_get _ j hj]⟩

theorem mem_uniq (ss : List Tx) (x : Tx) : x ∈ uniq ss ↔ x ∈ ss := (uniq_facts ss).1 x

/-- The same ids, in whatever order and however often: one list. -/
theorem uniq_ext {ss tt : List Tx} (h : ∀ x, x ∈ ss ↔ x ∈ tt) : uniq ss = uniq tt := by
  have n1 : (uniq ss).Nodup := (uniq_facts ss).2.imp fun hab => hab.2
  have n2 : (uniq tt).Nodup := (uniq_facts tt).2.imp fun hab => hab.2
  have hp : (uniq ss).Perm (uniq tt) := (List.perm_ext_iff_of_nodup n1 n2).2 fun x => by rw [mem_uniq, mem_uniq, h]
  exact List.Perm.eq_of_pairwise (le := fun a b => a ≤ b) (fun a b _ _ h1 h2 => List.le_antisymm h1 h2) ((uniq_facts ss).2.imp fun hab => hab.1) ((uniq_facts tt).2.imp fun hab => hab.1) hp

/-! ### The lock table's own words: modes are 0 (exclusive) and 1 (shared) -/
/-- 'compatible'. -/
def compat (a b : Int) : Bool := (a == 1) && (b == 1)

end Go.Proofs.Qxb6003669a.Plain
