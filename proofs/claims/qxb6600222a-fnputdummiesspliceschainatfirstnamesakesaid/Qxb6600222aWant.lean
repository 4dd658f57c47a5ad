import Derived.Test.Qxb6600222aStage
namespace Go.Proofs.Qxb6600222a
open Go.RowKit

/-- The places among the first k that are no namesakes. -/
def keptI (sk : Nat → Bool) : Nat → List Nat
  | 0 => []
  | k + 1 => keptI sk k ++ (if sk k then [] else [k])

/-- A place as the law writes it. -/
def wantV : Option Nat → Int
  | none => -1
  | some j => j

/-- f is the first namesake, or n. -/
structure Fst (sk : Nat → Bool) (n f : Nat) : Prop where
  le : f ≤ n
  no : pl sk f = false
  yes : f < n → sk f = true

theorem keptI_len (sk : Nat → Bool) (k : Nat) : (keptI sk k).length ≤ k := by
  induction k with
  | zero => simp [keptI]
  | succ k ih =>
    simp only [keptI, List.length_append]
    by_cases h : sk k = true
    · rw [if_pos h]; simp; omega
    · rw [if_neg h]; simp; omega

theorem keptI_lt (sk : Nat → Bool) (k j : Nat) (h : j ∈ keptI sk k) : j < k := by
  induction k with
  | zero => simp [keptI] at h
  | succ k ih =>
    simp only [keptI, List.mem_append] at h
    rcases h with h | h
    · have := ih h; omega
    · by_cases h2 : sk k = true
      · rw [if_pos h2] at h; cases h
      · rw [if_neg h2, List.mem_singleton] at h; omega

theorem its_front (sk : Nat → Bool) (k : Nat) (h : pl sk k = false) : its sk k = (List.range k).map some ∧ keptI sk k = List.range k := by
  induction k with
  | zero => exact ⟨rfl, rfl⟩
  | succ k ih =>
    simp only [pl, Bool.or_eq_false_iff] at h
    obtain ⟨h1, h2⟩ := ih h.1
    have hk : ¬ sk k = true := by simp [h.2]
    simp only [its, keptI]
    rw [if_neg hk, if_neg hk, h1, h2, List.range_succ]
    exact ⟨by simp, rfl⟩

theorem its_past (sk : Nat → Bool) (f : Nat) (hno : pl sk f = false) (hyes : sk f = true) (d : Nat) :
    pl sk (f + 1 + d) = true ∧ its sk (f + 1 + d) = (List.range f).map some ++ [none] ++ ((keptI sk (f + 1 + d)).drop f).map some ∧ f ≤ (keptI sk (f + 1 + d)).length ∧ (keptI sk (f + 1 + d)).take f = List.range f := by
  obtain ⟨h1, h2⟩ := its_front sk f hno
  induction d with
  | zero =>
    have hk : keptI sk (f + 1) = List.range f := by simp only [keptI]; rw [if_pos hyes, h2]; simp
    refine ⟨by simp [pl, hyes], ?_, by rw [Nat.add_zero, hk]; simp, by rw [Nat.add_zero, hk]; rw [List.take_of_length_le]; simp⟩
    rw [Nat.add_zero, hk]
    simp only [its]
    rw [if_pos hyes, if_neg (by simp [hno]), h1, List.drop_of_length_le (by simp)]
    simp
  | succ d ih =>
    obtain ⟨i1, i2, i3, i4⟩ := ih
    have e : f + 1 + (d + 1) = (f + 1 + d) + 1 := by omega
    rw [e]
    refine ⟨by simp [pl, i1], ?_, ?_, ?_⟩
    · simp only [its, keptI]
      by_cases h : sk (f + 1 + d) = true
      · rw [if_pos h, if_pos h, if_pos i1, i2]; simp
      · rw [if_neg h, if_neg h, i2, List.drop_append_of_le_length i3]; simp
    · simp only [keptI, List.length_append]; omega
    · simp only [keptI]; rw [List.take_append_of_le_length i3]; exact i4

theorem gotI_want (sk : Nat → Bool) (n f : Nat) (h : Fst sk n f) : gotI sk n = ((keptI sk n).take f).map some ++ [none] ++ ((keptI sk n).drop f).map some ∧ f ≤ (keptI sk n).length ∧ (keptI sk n).take f = List.range f := by
  by_cases e : f < n
  · obtain ⟨d, rfl⟩ : ∃ d, n = f + 1 + d := ⟨n - f - 1, by omega⟩
    obtain ⟨i1, i2, i3, i4⟩ := its_past sk f h.no (h.yes e) d
    refine ⟨?_, i3, i4⟩
    unfold gotI
    rw [if_pos i1, i4]
    exact i2
  · have e2 : f = n := by have := h.le; omega
    subst e2
    obtain ⟨h1, h2⟩ := its_front sk f h.no
    refine ⟨?_, by rw [h2]; simp, by rw [h2, List.take_of_length_le]; simp⟩
    unfold gotI
    rw [if_neg (by simp [h.no]), h1, h2, List.take_of_length_le (by simp), List.drop_of_length_le (by simp)]
    simp

theorem hord_want (sk : Nat → Bool) (q : TreeQ) (n f : Nat) (h : Fst sk n f) : hord sk q n = if f < n then q.ord f - 1 else q.ord n - 1 := by
  by_cases e : f < n
  · obtain ⟨d, rfl⟩ : ∃ d, n = f + 1 + d := ⟨n - f - 1, by omega⟩
    have i1 := (its_past sk f h.no (h.yes e) d).1
    rw [if_pos e]
    unfold hord
    rw [if_pos i1]
    have aux : ∀ d, ho sk q (f + 1 + d) = q.ord f - 1 := by
      intro d
      induction d with
      | zero => simp only [ho]; rw [if_pos (by simp [h.yes e, h.no])]
      | succ d ih =>
        have i2 := (its_past sk f h.no (h.yes e) d).1
        have e3 : f + 1 + (d + 1) = (f + 1 + d) + 1 := by omega
        rw [e3, ho, if_neg (by simp [i2])]
        exact ih
    exact aux d
  · have e2 : f = n := by have := h.le; omega
    subst e2
    rw [if_neg e]
    unfold hord
    rw [if_neg (by simp [h.no])]

theorem fst_step {sk : Nat → Bool} {n j : Nat} (hj : j < n) (hp : pl sk j = false) (hs : sk j = true) : Fst sk n j := ⟨by omega, hp, fun _ => hs⟩
theorem fst_end {sk : Nat → Bool} {n : Nat} (hp : pl sk n = false) : Fst sk n n := ⟨Nat.le_refl _, hp, fun h => absurd h (by omega)⟩

/-- 'isNamesakeB1'. -/
theorem sake_any (a0 a1 a2 : Option Addr) (n0 n1 n2 c0 c1 c2 : Nat) (l0 l3 : List Bool) (l1 l2 : List Tx) (base : Int) (d e : Tx) (j : Nat) (w : World)
    (h0 : SV Value.bool w a0 n0 c0 l0) (h1 : SV encStr w a1 n1 c1 l1) (h2 : SV encStr w a2 n2 c2 l2) (hj : j < n0) :
    Calls Try.prog 20 #[.slice a0 n0 c0, .slice a1 n1 c1, .slice a2 n2 c2, .int .i64 j, encStr d, encStr e] w fun r w' => r = .returned (.bool (sake (treeOf l0 l1 l2 l3 base) d e j)) ∧ w' = w := by
  have A1 : Hid (SV encStr w a1 n1 c1 l1) := h1
  have A2 : Hid (SV encStr w a2 n2 c2 l2) := h2
  obtain ⟨b0, f0, el, ea, hc, HX⟩ := h0.at j hj
  subst ea
  have hlt' : (j : Int) < (n0 : Int) := by omega
  have HS : Hid (sake (treeOf l0 l1 l2 l3 base) d e j = (el && (atS l1 j == d) && (atS l2 j == e))) := by
    show (atB l0 j && (atS l1 j == d) && (atS l2 j == e)) = _
    rw [show atB l0 j = el from HX.out]
  rw [HS.out]
  clear h0 h1 h2 HX HS
  generalize hx1 : atS l1 j = x
  generalize hy1 : atS l2 j = y
  have HX1 : Hid (atS l1 j = x) := hx1
  have HY1 : Hid (atS l2 j = y) := hy1
  clear hx1 hy1
  cases el with
  | false =>
    go_enter Try.func20, Try.ntmps20
    go_wp2
    go_ret
    exact ⟨rfl, rfl⟩
  | true =>
    go_enter Try.func20, Try.ntmps20
    go_wp2_with fail
    refine (atS_any _ _ _ l1 j w A1.out).mono ?_
    rintro r w' ⟨rfl, hw⟩
    subst w'
    rw [HX1.out]
    by_cases hx : x = d
    · subst hx
      go_wp2_with fail
      refine (atS_any _ _ _ l2 j w A2.out).mono ?_
      rintro r w' ⟨rfl, hw⟩
      subst w'
      rw [HY1.out]
      by_cases hy : y = e
      · subst hy
        go_wp2
        go_ret
        exact ⟨by simp, rfl⟩
      · have hyb : (y == e) = false := by simp [hy]
        go_wp2
        go_ret
        exact ⟨by simp [hyb], rfl⟩
    · have hxb : (x == d) = false := by simp [hx]
      go_wp2
      go_ret
      exact ⟨by simp [hxb], rfl⟩

/-- The append of one number. -/
theorem app3 {ops : Array Oper} {rest : List Oper} {o : Oper} {a : Act} {Q : Exit → Act → World → Prop} (w0 W : World) (B g : Nat) (hg : o.guard = none) (s y : Operand)
    (hop : o.op = Op.call { callee := Callee.builtin Builtin.append, args := #[s, y], argTypes := #[37, 37] }) (cv : Value) (l : List Int) (x : Int)
    (hs : a.eval s = cv) (hx : a.eval y = .slice (some ⟨g, 0, none⟩) 1 1) (hgv : W.heap.size = g) (h : W.ownsRow B 3 1 cv l.length (l.map (Value.int .i64))) (hl : l.length ≤ 1000000) (hb : Below B w0 W) (hB : B ≤ w0.heap.size)
    (hK : ∀ v' w', Hid (w'.ownsRow B 3 1 v' (l ++ [x]).length ((l ++ [x]).map (Value.int .i64))) → Hid (Below B w0 w') → wpList Try.prog ops Q rest (a.put o.dst v') w') : wpList Try.prog ops Q (o :: rest) a (W.alloc (.cells #[.int .i64 x] 3)) := by
  obtain ⟨i0, hi0, hz0, hz1, hz2⟩ := info_parts Try.info3
  have hsz := hb.size
  refine wpList_append_own _ hg s y 37 hop B 3 i0 (.int .i64 0) 1 8 Try.underlying37 hi0 hz0 hz1 hz2 rfl (by decide) cv l.length _ hs (World.ownsRow.alloc h _) ⟨g, 0, none⟩ 1 1 [.int .i64 x] hx rfl ?_ (by simp [Value.oneCell']) (by unfold maxLen; omega) (by omega) (by simp; omega) ?_
  · subst hgv; exact cell_one_new _ _ _
  · intro v' w' hown hgr _
    refine hK v' w' ?_ ?_
    · unfold Hid; simpa using hown
    · exact (hb.alloc (by omega) _).grown hgr (by simp; omega) (fun j hj => (World.ownsRow.lt h j hj).1)

end Go.Proofs.Qxb6600222a
