import Derived.Test.Qxb6600222aPut
namespace Go.Proofs.Qxb6600222a
open Go.RowKit

theorem put22_any (v : World) (z : Pl) (n : Nat) (q : TreeQ) (cb : List Nat) (T D m : Nat) (dm dl : Nat → Tx) (s : Nat) (hS : Stage v z n q cb T D (m + 1) dm dl s) (hn : n ≤ 65536) (hm : m + 1 ≤ 65536) (hb0 : 0 ≤ q.base) (hb1 : q.base ≤ 1073741824) :
    Calls Try.prog 22 #[ptr T, ptr z.P, .slice (some ⟨D, 0, none⟩) (m + 1) (m + 1)] v fun e W => ∃ chn lb G cap, e = .returned (ptr lb) ∧ chn[m]? = some lb ∧ Put v W z n q cb T m dm dl (got (sake q (dm 0) (dl 0)) cb (v.heap.size + 1) n) (hord (sake q (dm 0) (dl 0)) q n) chn G cap := by
  go_enter Try.func22, Try.ntmps22
  go_wp2_with fail
  refine (put_any v z n q cb T D m dm dl s hS hn hm hb0 hb1).mono ?_
  rintro e W ⟨chn, lb, G, cap, rfl, h1, h2⟩
  have H2 : Hid (Put v W z n q cb T m dm dl _ _ chn G cap) := h2
  clear h2
  go_wp2
  go_ret
  exact ⟨chn, lb, G, cap, rfl, h1, H2.out⟩

/-- From a child down to its last node. -/
theorem Kid.lst {W : World} {z : Pl} {b : Nat} {el : Bool} {md nm : Tx} {gr : Bool} {o : Int} (h : Kid W z b el md nm gr o) : ∃ s, Lst W (o + (if gr then 1 else 0)) s b := by
  obtain ⟨_, ch, ix, h1, h2⟩ := h
  rcases h2 with ⟨hg, hc⟩ | ⟨hg, r, g, p, ix2, e1, _, _, e2, e3⟩
  · subst hg hc
    exact ⟨0, .leaf (by simpa using h1)⟩
  · subst hg e1
    refine ⟨1, .deep (l := 0) h1 (by omega) (b' := g) ?_ (.leaf (by simpa using e3))⟩
    rw [cell_of_row W r 0 _ 35 (0, 0) e2]
    rfl

theorem Kid.lst' {W : World} {z : Pl} {b : Nat} {q : TreeQ} {j : Nat} (h : Kid W z b (q.el j) (q.md j) (q.nm j) (q.gr j) (q.ord j)) : ∃ s, Lst W (q.ord (j + 1) - 1) s b := by
  obtain ⟨s, hs⟩ := h.lst
  have e : q.ord (j + 1) - 1 = q.ord j + (if q.gr j then 1 else 0) := by rw [TreeQ.ord]; omega
  exact ⟨s, by rw [e]; exact hs⟩

theorem stage_of {w W W1 v : World} {z : Pl} {n m : Nat} {q : TreeQ} {cb : List Nat} {dm dl : Nat → Tx} (hG : Grove z w W n n (parObj q.base (.slice (some ⟨z.K, 0, none⟩) n n)) q cb) (hn : n ≤ 65536)
    (ht : Turned W W1 W.heap.size (.cells #[.pointer none, .slice none 0 0, .slice none 0 0] 65)) (hN : NamesAt v W1.heap.size m m dm dl) (hb : Below W1.heap.size W1 v) :
    (∃ s, Stage v z n q cb W.heap.size W1.heap.size m dm dl s) ∧ Below w.heap.size w v ∧ Below W.heap.size W v ∧ z.P = w.heap.size ∧ w.heap.size ≤ W.heap.size := by
  have b1 : Below W.heap.size W W1 := (Below.refl _ W).grown ht.grown (Nat.le_refl _) (by intro k h; injection h with h; omega)
  have b2 : Below W.heap.size W v := b1.trans (hb.mono b1.size)
  have kx : KeepX z W v := ⟨fun c _ _ h => below_heap b2 h, fun c _ _ _ _ _ _ _ ix _ _ h => ⟨ix, below_heap b2 h⟩⟩
  have hpar := below_heap b2 hG.mid.par
  have hkids : RowAt ptr 35 v z.K n cb := by
    obtain ⟨cur, h1, h2, h3⟩ := hG.mid.kids
    exact ⟨cur, below_heap b2 h1, h2, h3⟩
  have hkid : ∀ j b, cb[j]? = some b → Kid v z b (q.el j) (q.md j) (q.nm j) (q.gr j) (q.ord j) := fun j b hj => (hG.kid j b hj).keep kx
  have hl : ∃ s, Lst v (q.ord n - 1) s z.P := by
    cases n with
    | zero =>
      have e : q.ord 0 - 1 = q.base := by rw [TreeQ.ord]; omega
      exact ⟨0, by rw [e]; exact .leaf hpar⟩
    | succ k =>
      have hcb : cb[k]? = some (cb.getD k 0) := by rw [List.getD_eq_getElem?_getD, List.getElem?_eq_getElem (by rw [hG.len]; omega)]; rfl
      obtain ⟨s, hs⟩ := (hkid k _ hcb).lst'
      exact ⟨s + 1, .deep hpar (by omega) (hkids.cell hcb) hs⟩
  obtain ⟨s, hs⟩ := hl
  refine ⟨⟨s, hpar, hkids, hG.len, hkid, hG.nodup, below_heap hb ht.at_, hN, hs, ?_⟩, hG.mid.bel.trans (b2.mono hG.mid.bel.size), b2, hG.mid.isP, hG.mid.bel.size⟩
  have := hG.mid.pk
  have := hG.mid.ko
  have := hG.mid.or
  omega

/-- The new children as places: a child's number, or the head. -/
def its (sk : Nat → Bool) : Nat → List (Option Nat)
  | 0 => []
  | k + 1 => its sk k ++ (if sk k then (if pl sk k then [] else [none]) else [some k])
def gotI (sk : Nat → Bool) (n : Nat) : List (Option Nat) := if pl sk n then its sk n else its sk n ++ [none]
def blk (cb : List Nat) (hd : Nat) : Option Nat → Nat
  | none => hd
  | some j => cb.getD j 0

theorem spl_its (sk : Nat → Bool) (cb : List Nat) (hd k : Nat) : spl sk cb hd k = (its sk k).map (blk cb hd) := by
  induction k with
  | zero => rfl
  | succ k ih =>
    simp only [spl, its, List.map_append, ih]
    by_cases h1 : sk k = true
    · by_cases h2 : pl sk k = true <;> simp [h1, h2, blk]
    · simp [h1, blk]

theorem got_its (sk : Nat → Bool) (cb : List Nat) (hd n : Nat) : got sk cb hd n = (gotI sk n).map (blk cb hd) := by
  unfold got gotI
  by_cases h : pl sk n = true
  · rw [if_pos h, if_pos h, spl_its]
  · rw [if_neg h, if_neg h, spl_its]; simp [blk]

/-- The order of the last node of what was read. -/
def prev (q : TreeQ) (l : List (Option Nat)) : Int := l.foldl (fun p x => match x with | none => p | some j => q.ord (j + 1) - 1) q.base
/-- The dummies among what was read. -/
def cnt (l : List (Option Nat)) : Int := l.foldl (fun p x => match x with | none => p + 1 | some _ => p) 0

theorem prev_snoc (q : TreeQ) (l : List (Option Nat)) (x : Option Nat) : prev q (l ++ [x]) = match x with | none => prev q l | some j => q.ord (j + 1) - 1 := by
  unfold prev; rw [List.foldl_append]; rfl
theorem cnt_snoc (l : List (Option Nat)) (x : Option Nat) : cnt (l ++ [x]) = match x with | none => cnt l + 1 | some _ => cnt l := by
  unfold cnt; rw [List.foldl_append]; rfl

theorem cnt_its (sk : Nat → Bool) (k : Nat) : cnt (its sk k) = if pl sk k then 1 else 0 := by
  induction k with
  | zero => simp [its, cnt, pl]
  | succ k ih =>
    simp only [its, pl]
    by_cases h1 : sk k = true
    · by_cases h2 : pl sk k = true
      · simp [h1, h2] at ih ⊢; exact ih
      · simp only [h1, h2] at ih ⊢
        simp [cnt_snoc, ih]
    · simp only [h1] at ih ⊢
      simp [cnt_snoc, ih]

theorem cnt_gotI (sk : Nat → Bool) (n : Nat) : cnt (gotI sk n) = 1 := by
  unfold gotI
  have h := cnt_its sk n
  by_cases hp : pl sk n = true
  · rw [if_pos hp, h, if_pos hp]
  · rw [if_neg hp, cnt_snoc, h, if_neg hp]; rfl

theorem ord_lt (q : TreeQ) (j : Nat) : q.ord j < q.ord (j + 1) := by
  rw [TreeQ.ord]; cases q.gr j <;> simp <;> omega

theorem prev_its (sk : Nat → Bool) (q : TreeQ) (k : Nat) : prev q (its sk k) ≤ q.ord k - 1 ∧ (pl sk k = false → prev q (its sk k) = q.ord k - 1) := by
  induction k with
  | zero => simp [its, prev, TreeQ.ord]
  | succ k ih =>
    have ho := ord_lt q k
    simp only [its, pl]
    by_cases h1 : sk k = true
    · rw [if_pos h1]
      by_cases h2 : pl sk k = true
      · rw [if_pos h2, List.append_nil]
        exact ⟨by omega, fun h => by simp [h2] at h⟩
      · rw [if_neg h2, prev_snoc]
        exact ⟨by simp only []; omega, fun h => by simp [h1] at h⟩
    · rw [if_neg h1, prev_snoc]
      exact ⟨by simp only []; omega, fun _ => rfl⟩

/-- What the law looks at, at each place. -/
def Fit (q : TreeQ) (o : Int) (l : List (Option Nat)) : Prop := ∀ (t : Nat) (x : Option Nat), l[t]? = some x → match x with | none => prev q (l.take t) = o | some j => prev q (l.take t) < q.ord j

theorem fit_snoc {q : TreeQ} {o : Int} {l : List (Option Nat)} {x : Option Nat} (h : Fit q o l) (hx : match x with | none => prev q l = o | some j => prev q l < q.ord j) : Fit q o (l ++ [x]) := by
  intro t y hy
  by_cases e : t < l.length
  · rw [List.getElem?_append_left e] at hy
    rw [List.take_append_of_le_length (by omega)]
    exact h t y hy
  · have et : t = l.length := by
      have := (List.getElem?_eq_some_iff.1 hy).1
      rw [List.length_append, List.length_singleton] at this
      omega
    subst et
    simp at hy
    subst hy
    rw [List.take_left']
    · exact hx
    · rfl

theorem its_none (sk : Nat → Bool) (k : Nat) (h : pl sk k = false) : none ∉ its sk k := by
  induction k with
  | zero => simp [its]
  | succ k ih =>
    simp only [pl, Bool.or_eq_false_iff] at h
    simp only [its, List.mem_append]
    rw [if_neg (by simp [h.2])]
    rintro (h1 | h1)
    · exact ih h.1 h1
    · simp at h1

theorem fit_any {q : TreeQ} {o o' : Int} {l : List (Option Nat)} (h : Fit q o l) (hn : none ∉ l) : Fit q o' l := by
  intro t x hx
  have := h t x hx
  cases x with
  | none => exact absurd (List.mem_of_getElem? hx) hn
  | some j => exact this

theorem fit_its (sk : Nat → Bool) (q : TreeQ) (k : Nat) : Fit q (ho sk q k) (its sk k) := by
  induction k with
  | zero => intro t x hx; simp [its] at hx
  | succ k ih =>
    have hp := prev_its sk q k
    simp only [its, ho]
    by_cases h1 : sk k = true
    · rw [if_pos h1]
      by_cases h2 : pl sk k = true
      · rw [if_pos h2, List.append_nil, if_neg (by simp [h2])]; exact ih
      · rw [if_neg h2, if_pos (by simp [h1, h2])]
        have h2' : pl sk k = false := by simpa using h2
        exact fit_snoc (fit_any ih (its_none sk k h2')) (hp.2 h2')
    · rw [if_neg h1, if_neg (by simp [h1])]
      exact fit_snoc ih (by simp only []; have := hp.1; omega)

theorem fit_gotI (sk : Nat → Bool) (q : TreeQ) (n : Nat) : Fit q (hord sk q n) (gotI sk n) := by
  have h := fit_its sk q n
  unfold gotI hord
  by_cases hp : pl sk n = true
  · rw [if_pos hp, if_pos hp]; exact h
  · have hp' : pl sk n = false := by simpa using hp
    rw [if_neg hp, if_neg hp]
    exact fit_snoc (fit_any h (its_none sk n hp')) ((prev_its sk q n).2 hp')

theorem gotI_lt (sk : Nat → Bool) (n : Nat) (j : Nat) (h : some j ∈ gotI sk n) : j < n := by
  have aux : ∀ k, some j ∈ its sk k → j < k := by
    intro k
    induction k with
    | zero => simp [its]
    | succ k ih =>
      simp only [its, List.mem_append]
      rintro (h1 | h1)
      · have := ih h1; omega
      · by_cases h2 : sk k = true
        · rw [if_pos h2] at h1
          by_cases h3 : pl sk k = true
          · rw [if_pos h3] at h1; cases h1
          · rw [if_neg h3] at h1; simp at h1
        · rw [if_neg h2] at h1; simp at h1; omega
  unfold gotI at h
  by_cases hp : pl sk n = true
  · rw [if_pos hp] at h; exact aux n h
  · rw [if_neg hp, List.mem_append] at h
    rcases h with h | h
    · exact aux n h
    · simp at h

end Go.Proofs.Qxb6600222a
