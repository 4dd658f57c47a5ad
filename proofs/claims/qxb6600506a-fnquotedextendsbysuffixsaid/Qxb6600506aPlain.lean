/-
  The plain law of the two access-log statements: no Go in sight.
  'qf l f i': the place just past the closing quote, sought from place i on, with fuel f; 'q l': of a field that opens at l's first byte; 'comb l': what isCombinedEnd answers.
-/
namespace Go.Proofs.Qxb6600506a.Plain

def qf (l : List Int) : Nat → Nat → Option Nat
  | 0, _ => none
  | f + 1, i => if l.length ≤ i then none else if l.getD i 0 = 92 then qf l f (i + 2) else if l.getD i 0 = 34 then some (i + 1) else qf l f (i + 1)

def q (l : List Int) : Option Nat := if l.length = 0 then none else if l.getD 0 0 = 34 then qf l l.length 1 else none

theorem qf_end (l : List Int) (f i : Nat) (h : l.length ≤ i) : qf l f i = none := by
  cases f with
  | zero => rfl
  | succ f => rw [qf, if_pos h]

theorem qf_esc (l : List Int) (f i : Nat) (h : i < l.length) (hc : l.getD i 0 = 92) : qf l (f + 1) i = qf l f (i + 2) := by
  rw [qf, if_neg (by omega), if_pos hc]

theorem qf_hit (l : List Int) (f i : Nat) (h : i < l.length) (hc : l.getD i 0 = 34) : qf l (f + 1) i = some (i + 1) := by
  rw [qf, if_neg (by omega), if_neg (by omega), if_pos hc]

theorem qf_on (l : List Int) (f i : Nat) (h : i < l.length) (h1 : l.getD i 0 ≠ 92) (h2 : l.getD i 0 ≠ 34) : qf l (f + 1) i = qf l f (i + 1) := by
  rw [qf, if_neg (by omega), if_neg h1, if_neg h2]

theorem qf_bd (l : List Int) : ∀ f i j, qf l f i = some j → i < j ∧ j ≤ l.length
  | 0, _, _, h => by simp [qf] at h
  | f + 1, i, j, h => by
    rw [qf] at h
    split at h
    · simp at h
    · split at h
      · have := qf_bd l f _ _ h; omega
      · split at h
        · simp at h; omega
        · have := qf_bd l f _ _ h; omega

theorem getD_append (l x : List Int) (i : Nat) (h : i < l.length) : (l ++ x).getD i 0 = l.getD i 0 := by
  rw [List.getD_eq_getElem?_getD, List.getD_eq_getElem?_getD, List.getElem?_append_left h]

theorem qf_append (l x : List Int) : ∀ f i j f', qf l f i = some j → f ≤ f' → qf (l ++ x) f' i = some j
  | 0, _, _, _, h, _ => by simp [qf] at h
  | f + 1, i, j, f', h, hf => by
    obtain ⟨g, rfl⟩ : ∃ g, f' = g + 1 := ⟨f' - 1, by omega⟩
    rw [qf] at h ⊢
    by_cases h1 : l.length ≤ i
    · rw [if_pos h1] at h; simp at h
    · rw [if_neg h1] at h
      rw [if_neg (by simp; omega), getD_append l x i (by omega)]
      split
      · rename_i hc; rw [if_pos hc] at h; exact qf_append l x f _ j g h (by omega)
      · rename_i hc
        rw [if_neg hc] at h
        split
        · rename_i hd; rw [if_pos hd] at h; exact h
        · rename_i hd; rw [if_neg hd] at h; exact qf_append l x f _ j g h (by omega)

theorem q_bd {l : List Int} {j : Nat} (h : q l = some j) : 2 ≤ j ∧ j ≤ l.length := by
  unfold q at h
  split at h
  · simp at h
  · split at h
    · have := qf_bd l _ _ _ h; omega
    · simp at h

theorem q_append {l : List Int} {j : Nat} (h : q l = some j) (x : List Int) : q (l ++ x) = some j := by
  have hb := q_bd h
  unfold q at h ⊢
  rw [if_neg (by omega)] at h
  rw [if_neg (by rw [List.length_append]; omega), getD_append l x 0 (by omega)]
  split at h
  · rename_i hc
    rw [if_pos hc]
    exact qf_append l x _ _ j _ h (by simp)
  · simp at h

/-- One of the two fields: what follows it. -/
def field (l : List Int) : Option (List Int) := if l.length = 0 then none else if l.getD 0 0 = 32 then (q (l.drop 1)).map (fun j => (l.drop 1).drop j) else none

theorem field_append {l r : List Int} (h : field l = some r) (x : List Int) : field (l ++ x) = some (r ++ x) := by
  unfold field at h ⊢
  split at h
  · simp at h
  · rename_i h0
    rw [if_neg (by rw [List.length_append]; omega), getD_append l x 0 (by omega)]
    split at h
    · rename_i hc
      rw [if_pos hc]
      rw [Option.map_eq_some_iff] at h
      obtain ⟨j, hj, rfl⟩ := h
      have hb := q_bd hj
      rw [List.drop_append_of_le_length (by omega), q_append hj, Option.map_some, List.drop_append_of_le_length (by omega)]
    · simp at h

def comb (l : List Int) : Bool := match field l with
  | none => false
  | some r => match field r with
    | none => false
    | some r2 => r2.length == 0

theorem comb_parts {l : List Int} (h : comb l = true) : ∃ r, field l = some r ∧ field r = some [] := by
  unfold comb at h
  split at h
  · simp at h
  · rename_i r hr
    refine ⟨r, hr, ?_⟩
    split at h
    · simp at h
    · rename_i r2 hr2
      have e : r2 = [] := List.eq_nil_of_length_eq_zero (by simpa using h)
      rw [hr2, e]

theorem comb_take {l : List Int} (h : comb l = true) (k : Nat) (hk : k < l.length) : comb (l.take k) = false := by
  rw [Bool.eq_false_iff]
  intro hp
  obtain ⟨r, h1, h2⟩ := comb_parts hp
  obtain ⟨s, h3, h4⟩ := comb_parts h
  have e1 := field_append h1 (l.drop k)
  rw [List.take_append_drop, h3] at e1
  have e2 := field_append h2 (l.drop k)
  rw [← Option.some.inj e1, h4] at e2
  have e3 := Option.some.inj e2
  have : (l.drop k).length = 0 := by rw [List.nil_append] at e3; rw [← e3]; rfl
  simp at this
  omega
end Go.Proofs.Qxb6600506a.Plain
