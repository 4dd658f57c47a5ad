/-
  The plain law of the two LEI statements: no Go in sight.
  'step r c': what one character does to the remainder; 'cls c': 0 a digit, 1 a capital letter, 2 anything else; 'lei l': what isLEI answers.
-/
namespace Go.Proofs.Qxb6000940a.Plain

def cls (c : Int) : Int := if 48 ≤ c ∧ c ≤ 57 then 0 else if 65 ≤ c ∧ c ≤ 90 then 1 else 2

def step (r c : Int) : Int := if 48 ≤ c ∧ c ≤ 57 then (r * 10 + (c - 48)) % 97 else (r * 100 + (c - 65) + 10) % 97

def rest (l : List UInt8) (r : Int) : Int := l.foldl (fun r c => step r (c.toNat : Int)) r

def good (l : List UInt8) : Bool := l.all fun c => cls (c.toNat : Int) != 2

def lei (l : List UInt8) : Bool := l.length == 20 && (good l && rest l 0 == 1)

theorem step_bd (r c : Int) : 0 ≤ step r c ∧ step r c < 97 := by
  unfold step
  split <;> omega

theorem rest_bd (l : List UInt8) : ∀ r, 0 ≤ r → r < 97 → 0 ≤ rest l r ∧ rest l r < 97 := by
  induction l with
  | nil => intro r h1 h2; exact ⟨h1, h2⟩
  | cons c l ih => intro r _ _; exact ih _ (step_bd r _).1 (step_bd r _).2

theorem rest_append (a b : List UInt8) (r : Int) : rest (a ++ b) r = rest b (rest a r) := by
  simp [rest, List.foldl_append]

theorem rest_cons (c : UInt8) (b : List UInt8) (r : Int) : rest (c :: b) r = rest b (step r (c.toNat : Int)) := rfl

theorem cls_good {c : Int} (h : cls c ≠ 2) : (48 ≤ c ∧ c ≤ 57) ∨ (65 ≤ c ∧ c ≤ 90) := by
  unfold cls at h
  split at h
  · left; assumption
  · split at h
    · right; assumption
    · exact absurd rfl h

theorem step_inj {r r' c : Int} (hr : 0 ≤ r) (hr2 : r < 97) (hr' : 0 ≤ r') (hr2' : r' < 97) (h : r ≠ r') : step r c ≠ step r' c := by
  unfold step
  split <;> omega

theorem rest_inj (b : List UInt8) : ∀ r r', 0 ≤ r → r < 97 → 0 ≤ r' → r' < 97 → r ≠ r' → rest b r ≠ rest b r' := by
  induction b with
  | nil => intro r r' _ _ _ _ h; exact h
  | cons c b ih =>
    intro r r' h1 h2 h3 h4 h
    rw [rest_cons, rest_cons]
    exact ih _ _ (step_bd _ _).1 (step_bd _ _).2 (step_bd _ _).1 (step_bd _ _).2 (step_inj h1 h2 h3 h4 h)

theorem step_sub {r x y : Int} (hx : cls x ≠ 2) (hc : cls y = cls x) (h : y ≠ x) : step r y ≠ step r x := by
  have hy : cls y ≠ 2 := by rw [hc]; exact hx
  have hx' := cls_good hx
  have hy' := cls_good hy
  unfold cls at hc
  unfold step
  rcases hx' with ⟨a, b⟩ | ⟨a, b⟩ <;> rcases hy' with ⟨c, d⟩ | ⟨c, d⟩
  · rw [if_pos ⟨c, d⟩, if_pos ⟨a, b⟩]; omega
  · rw [if_neg (by omega), if_pos ⟨c, d⟩, if_pos ⟨a, b⟩] at hc; omega
  · rw [if_pos ⟨c, d⟩, if_neg (by omega), if_pos ⟨a, b⟩] at hc; omega
  · rw [if_neg (by omega), if_neg (by omega)]; omega

theorem mod10 (a b : Int) : (a % 97 * 10 + b) % 97 = (a * 10 + b) % 97 := by omega
theorem mod100 (a b : Int) : (a % 97 * 100 + b + 10) % 97 = (a * 100 + b + 10) % 97 := by omega

theorem step_swap {r x y : Int} (hx : cls x ≠ 2) (hc : cls x = cls y) (h : x ≠ y) : step (step r y) x ≠ step (step r x) y := by
  have hy : cls y ≠ 2 := by rw [← hc]; exact hx
  have hx' := cls_good hx
  have hy' := cls_good hy
  unfold cls at hc
  unfold step
  rcases hx' with ⟨a, b⟩ | ⟨a, b⟩ <;> rcases hy' with ⟨c, d⟩ | ⟨c, d⟩
  · simp only [if_pos (show 48 ≤ x ∧ x ≤ 57 from ⟨a, b⟩), if_pos (show 48 ≤ y ∧ y ≤ 57 from ⟨c, d⟩), mod10]; omega
  · rw [if_pos ⟨a, b⟩, if_neg (by omega), if_pos ⟨c, d⟩] at hc; omega
  · rw [if_neg (by omega), if_pos ⟨a, b⟩, if_pos ⟨c, d⟩] at hc; omega
  · simp only [if_neg (show ¬ (48 ≤ x ∧ x ≤ 57) from by omega), if_neg (show ¬ (48 ≤ y ∧ y ≤ 57) from by omega), mod100]; omega

theorem split_at (l : List UInt8) (i : Nat) (h : i < l.length) : l = l.take i ++ l[i] :: l.drop (i + 1) := by
  rw [← List.drop_eq_getElem_cons h, List.take_append_drop]

theorem set_at (l : List UInt8) (i : Nat) (h : i < l.length) (c : UInt8) : l.set i c = l.take i ++ c :: l.drop (i + 1) := by
  rw [List.set_eq_take_append_cons_drop, if_pos h]

theorem lei_parts {l : List UInt8} (h : lei l = true) : l.length = 20 ∧ good l = true ∧ rest l 0 = 1 := by
  unfold lei at h
  simp only [Bool.and_eq_true, beq_iff_eq] at h
  exact h

theorem good_at {l : List UInt8} (h : good l = true) (i : Nat) (hi : i < l.length) : cls (l[i].toNat : Int) ≠ 2 := by
  unfold good at h
  rw [List.all_eq_true] at h
  have := h _ (List.getElem_mem hi)
  simpa using this

/-- One character for another of its kind: refused. -/
theorem sub_refused (l : List UInt8) (i : Nat) (hi : i < l.length) (c : UInt8) (h : lei l = true) (hc : cls (c.toNat : Int) = cls (l[i].toNat : Int)) (hne : (c.toNat : Int) ≠ (l[i].toNat : Int)) :
    lei (l.set i c) = false := by
  obtain ⟨h1, h2, h3⟩ := lei_parts h
  have hg := good_at h2 i hi
  have hr : rest (l.set i c) 0 ≠ 1 := by
    rw [← h3, set_at l i hi c]
    conv => rhs; rw [split_at l i hi]
    rw [rest_append, rest_append, rest_cons, rest_cons]
    exact rest_inj _ _ _ (step_bd _ _).1 (step_bd _ _).2 (step_bd _ _).1 (step_bd _ _).2 (step_sub hg hc hne)
  unfold lei
  have : (rest (l.set i c) 0 == 1) = false := beq_eq_false_iff_ne.2 hr
  rw [this]
  simp

theorem split_at2 (l : List UInt8) (i : Nat) (h : i + 1 < l.length) : l = l.take i ++ l[i] :: l[i + 1] :: l.drop (i + 2) := by
  rw [← List.drop_eq_getElem_cons h, ← List.drop_eq_getElem_cons (by omega), List.take_append_drop]

theorem set_at2 (l : List UInt8) (i : Nat) (h : i + 1 < l.length) (c d : UInt8) : (l.set i c).set (i + 1) d = l.take i ++ c :: d :: l.drop (i + 2) := by
  rw [set_at (l.set i c) (i + 1) (by simpa using h) d, set_at l i (by omega) c]
  have hl : (l.take i).length = i := by simp; omega
  have e1 : (l.take i ++ c :: l.drop (i + 1)).take (i + 1) = l.take i ++ [c] := by
    rw [List.take_append, hl, List.take_of_length_le (by omega), show i + 1 - i = 1 from by omega]
    rfl
  have e2 : (l.take i ++ c :: l.drop (i + 1)).drop (i + 1 + 1) = l.drop (i + 2) := by
    rw [List.drop_append, hl, List.drop_of_length_le (by omega), show i + 1 + 1 - i = 2 from by omega]
    simp
  rw [e1, e2]
  simp

/-- Two neighbours of one kind exchanged: refused. -/
theorem swap_refused (l : List UInt8) (i : Nat) (hi : i + 1 < l.length) (h : lei l = true) (hc : cls (l[i].toNat : Int) = cls (l[i + 1].toNat : Int)) (hne : (l[i].toNat : Int) ≠ (l[i + 1].toNat : Int)) :
    lei ((l.set i l[i + 1]).set (i + 1) l[i]) = false := by
  obtain ⟨h1, h2, h3⟩ := lei_parts h
  have hg := good_at h2 i (by omega)
  have hr : rest ((l.set i l[i + 1]).set (i + 1) l[i]) 0 ≠ 1 := by
    rw [← h3, set_at2 l i hi]
    conv => rhs; rw [split_at2 l i hi]
    rw [rest_append, rest_append, rest_cons, rest_cons, rest_cons, rest_cons]
    exact rest_inj _ _ _ (step_bd _ _).1 (step_bd _ _).2 (step_bd _ _).1 (step_bd _ _).2 (step_swap hg hc hne)
  unfold lei
  have : (rest ((l.set i l[i + 1]).set (i + 1) l[i]) 0 == 1) = false := beq_eq_false_iff_ne.2 hr
  rw [this]
  simp

/-! ### What the loop holds after k rounds -/
theorem good_take_succ (l : List UInt8) (k : Nat) (h : k < l.length) : good (l.take (k + 1)) = (good (l.take k) && cls (l[k].toNat : Int) != 2) := by
  unfold good
  rw [List.take_succ_eq_append_getElem h, List.all_append]
  rw [List.all_cons, List.all_nil, Bool.and_true]

theorem rest_take_succ (l : List UInt8) (k : Nat) (h : k < l.length) : rest (l.take (k + 1)) 0 = step (rest (l.take k) 0) (l[k].toNat : Int) := by
  rw [List.take_succ_eq_append_getElem h, rest_append]
  rfl

theorem good_of_take {l : List UInt8} {k : Nat} (hk : k < l.length) (h : cls (l[k].toNat : Int) = 2) : lei l = false := by
  unfold lei
  have : good l = false := by
    rw [Bool.eq_false_iff]
    intro hg
    exact good_at hg k hk h
  rw [this]
  simp
end Go.Proofs.Qxb6000940a.Plain
