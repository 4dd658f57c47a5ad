import Derived.Test.Qxb6600222aSpl
namespace Go.Proofs.Qxb6600222a
open Go.RowKit

/-- The chain's head, with its order and its children. -/
def headObj (d0 l0 : Tx) (P : Nat) (o : Int) : Obj := .cells #[.int .u8 1, .int .i32 1, encStr d0, encStr l0, .string ⟨#[]⟩, ptr P, .slice none 0 0, .int .i64 0, .int .i64 o] 71

/-- What 'putDummies' finds. -/
structure Stage (v : World) (z : Pl) (n : Nat) (q : TreeQ) (cb : List Nat) (T D m : Nat) (dm dl : Nat → Tx) (s : Nat) : Prop where
  par : v.heap[z.P]? = some (parObj q.base (.slice (some ⟨z.K, 0, none⟩) n n))
  kids : RowAt ptr 35 v z.K n cb
  len : cb.length = n
  kid : ∀ j b, cb[j]? = some b → Kid v z b (q.el j) (q.md j) (q.nm j) (q.gr j) (q.ord j)
  nodup : cb.Nodup
  wt : v.heap[T]? = some (.cells #[.pointer none, .slice none 0 0, .slice none 0 0] 65 (0, 0))
  names : NamesAt v D m m dm dl
  lst : Lst v (q.ord n - 1) s z.P
  pr : z.P < z.R

/-- The start of the gathering: the name and the head are laid. -/
theorem l1_start (v : World) (a b : Value) (hobj : Obj) :
    L1 v ((v.alloc (.cells #[a, b] 68)).alloc hobj) hobj (.cells #[a, b] 68 (0, 0)) (.slice none 0 0) [] := by
  have t1 := turned_alloc v (.cells #[a, b] 68)
  have t4 := turned_alloc (v.alloc (.cells #[a, b] 68)) hobj
  have es : (v.alloc (.cells #[a, b] 68)).heap.size = v.heap.size + 1 := by simp
  refine ⟨World.ownsRow_nil _ _ _ _, ?_, ?_, ?_⟩
  · rw [← es]; exact t4.at_
  · exact t4.other t1.at_ (by rw [es]; omega)
  · exact ((Below.refl _ v).alloc (Nat.le_refl _) _).alloc (by rw [es]; omega) _

/-- The chain's parent of its place j. -/
def up (P : Nat) (chn : List Nat) : Nat → Value
  | 0 => ptr P
  | j + 1 => ptr (chn.getD j 0)

/-- What hangs on a node of the chain: the next one, if there is one. -/
def Down (W : World) (nx : Option Nat) (ch : Value) : Prop :=
  (nx = none ∧ ch = .slice none 0 0) ∨ ∃ b r, nx = some b ∧ ch = .slice (some ⟨r, 0, none⟩) 1 1 ∧ W.heap[r]? = some (.cells #[ptr b] 35 (0, 0))

/-- The chain of dummies stands at the blocks chn. -/
def Chain (W : World) (P : Nat) (dm dl : Nat → Tx) (o : Int) (chn : List Nat) : Prop :=
  ∀ j b, chn[j]? = some b → ∃ ch ix, W.heap[b]? = some (.cells #[.int .u8 1, .int .i32 (j + 1), encStr (dm j), encStr (dl j), .string ⟨#[]⟩, up P chn j, ch, ix, .int .i64 o] 71 (0, 0)) ∧ Down W chn[j + 1]? ch

/-- While 'putDummies' lays the chain. -/
structure L2 (v W : World) (P : Nat) (dm dl : Nat → Tx) (o : Int) (chn : List Nat) (cv : Value) (l : List Nat) : Prop where
  chain : Chain W P dm dl o chn
  row : W.ownsRow (v.heap.size + 2) 35 1 cv l.length (l.map ptr)
  bel : Below v.heap.size v W
  hd : chn[0]? = some (v.heap.size + 1)
  low : ∀ b ∈ chn, v.heap.size < b

theorem L1.toL2 {v W : World} {P : Nat} {dm dl : Nat → Tx} {d0 e0 : Tx} (hd : dm 0 = d0) (he : dl 0 = e0) {o : Int} {fobj : Obj} {cv : Value} {l : List Nat} (h : L1 v W (headObj d0 e0 P o) fobj cv l) : L2 v W P dm dl o [v.heap.size + 1] cv l := by
  subst hd he
  refine ⟨fun j b hj => ?_, h.row, h.bel, rfl, fun b hb => ?_⟩
  · cases j with
    | zero =>
      simp at hj
      subst hj
      exact ⟨_, _, h.head, .inl ⟨rfl, rfl⟩⟩
    | succ j => simp at hj
  · rw [List.mem_singleton] at hb; omega

theorem L2.push {v W W' : World} {P : Nat} {dm dl : Nat → Tx} {o : Int} {chn : List Nat} {cv : Value} {l : List Nat} (h : L2 v W P dm dl o chn cv l) {k lb nb nr : Nat} {ix : Value} (hk : chn.length = k + 1) (hlb : chn[k]? = some lb)
    (hg : W.grownBy W' (some lb)) (hnb : W.heap.size ≤ nb)
    (h2 : ∀ C, W.heap[lb]? = some (.cells C 71 (0, 0)) → W'.heap[lb]? = some (.cells (C.setIfInBounds 6 (.slice (some ⟨nr, 0, none⟩) 1 1)) 71 (0, 0)))
    (h3 : W'.heap[nb]? = some (.cells #[.int .u8 1, .int .i32 ((k : Int) + 1 + 1), encStr (dm (k + 1)), encStr (dl (k + 1)), .string ⟨#[]⟩, ptr lb, .slice none 0 0, ix, .int .i64 o] 71 (0, 0)))
    (h4 : W'.heap[nr]? = some (.cells #[ptr nb] 35 (0, 0))) : L2 v W' P dm dl o (chn ++ [nb]) cv l := by
  have hlow : v.heap.size < lb := h.low lb (List.mem_of_getElem? hlb)
  have hsz := h.bel.size
  obtain ⟨lch, lix, hl1, hl2⟩ := h.chain k lb hlb
  refine ⟨fun j b hj => ?_, ?_, ?_, ?_, ?_⟩
  · by_cases e : j < chn.length
    · rw [List.getElem?_append_left e] at hj
      obtain ⟨ch, ix2, hb1, hb2⟩ := h.chain j b hj
      have hup : up P (chn ++ [nb]) j = up P chn j := by
        cases j with
        | zero => rfl
        | succ j => simp only [up]; rw [List.getD_eq_getElem?_getD, List.getElem?_append_left (by omega), ← List.getD_eq_getElem?_getD]
      by_cases ej : j = k
      · subst ej
        have eb : b = lb := by rw [hlb] at hj; injection hj with hj; exact hj.symm
        subst eb
        refine ⟨.slice (some ⟨nr, 0, none⟩) 1 1, ix2, ?_, .inr ⟨nb, nr, ?_, rfl, h4⟩⟩
        · rw [hup]; exact h2 _ hb1
        · rw [← hk]; simp
      · have hne : b ≠ lb := by
          intro e2
          subst e2
          rw [hb1] at hl1
          simp at hl1
          omega
        refine ⟨ch, ix2, ?_, ?_⟩
        · rw [hup]; exact (hg.block b (lt_of_heap hb1) (by simpa using hne)).trans hb1
        · rw [List.getElem?_append_left (by omega)]
          rcases hb2 with hb2 | ⟨b3, r, e1, e2, e3⟩
          · exact .inl hb2
          · refine .inr ⟨b3, r, e1, e2, (hg.block r (lt_of_heap e3) ?_).trans e3⟩
            intro e4
            injection e4 with e4
            subst e4
            rw [hl1] at e3
            simp at e3
    · have ej : j = k + 1 := by
        have := (List.getElem?_eq_some_iff.1 hj).1
        rw [List.length_append, List.length_singleton] at this
        omega
      subst ej
      rw [← hk] at hj
      simp at hj
      subst hj
      refine ⟨.slice none 0 0, ix, ?_, .inl ⟨?_, rfl⟩⟩
      · have hup : up P (chn ++ [nb]) (k + 1) = ptr lb := by
          simp only [up]; rw [List.getD_eq_getElem?_getD, List.getElem?_append_left (by omega), hlb]; rfl
        rw [hup]
        exact h3
      · rw [List.getElem?_eq_none]; simp; omega
  · refine World.ownsRow.kept h.row hg ?_
    right
    intro e
    obtain ⟨_, _, cur, hv, _, hb, _⟩ : ∃ g cap cur, cv = .slice (some ⟨g, 0, none⟩) l.length cap ∧ v.heap.size + 2 ≤ g ∧ W.heap[g]? = some (.cells cur 35 (0, 0)) ∧ True := by
      rcases h.row.2 with ⟨h0, _⟩ | ⟨g, cap, cur, hv, hb, hc, _⟩
      · rw [h0] at e; simp [Value.ownBlock] at e
      · exact ⟨g, cap, cur, hv, hb, hc, trivial⟩
    rw [hv] at e
    simp [Value.ownBlock] at e
    rw [e, hl1] at hb
    simp at hb
  · exact h.bel.grown hg (by omega) (by intro j hj; injection hj with hj; omega)
  · have : 0 < chn.length := by omega
    rw [List.getElem?_append_left this]; exact h.hd
  · intro b hb
    rcases List.mem_append.1 hb with hb | hb
    · exact h.low b hb
    · rw [List.mem_singleton] at hb; have := lt_of_heap hl1; omega

/-- One more dummy: its name, its node, the row that holds it, and the store. -/
theorem grow3 (W : World) (A B C : Obj) (lb : Nat) (u : Value) (hlb : lb < W.heap.size) :
    W.grownBy ((((W.alloc A).alloc B).alloc C).setCell ⟨lb, 6, none⟩ u) (some lb) ∧
    (∀ X, W.heap[lb]? = some (.cells X 71 (0, 0)) → ((((W.alloc A).alloc B).alloc C).setCell ⟨lb, 6, none⟩ u).heap[lb]? = some (.cells (X.setIfInBounds 6 u) 71 (0, 0))) ∧
    ((((W.alloc A).alloc B).alloc C).setCell ⟨lb, 6, none⟩ u).heap[W.heap.size + 1]? = some B ∧
    ((((W.alloc A).alloc B).alloc C).setCell ⟨lb, 6, none⟩ u).heap[W.heap.size + 2]? = some C := by
  have b : Below W.heap.size W (((W.alloc A).alloc B).alloc C) := (((Below.refl _ W).alloc (Nat.le_refl _) A).alloc (by simp) B).alloc (by simp; omega) C
  have t2 := turned_alloc (W.alloc A) B
  have t3 := turned_alloc ((W.alloc A).alloc B) C
  have e1 : (W.alloc A).heap.size = W.heap.size + 1 := by simp
  have e2 : ((W.alloc A).alloc B).heap.size = W.heap.size + 2 := by simp
  have hB : ((W.alloc A).alloc B).heap[W.heap.size + 1]? = some B := by rw [← e1]; exact t2.at_
  have hB2 := t3.other hB (by omega)
  have hC : (((W.alloc A).alloc B).alloc C).heap[W.heap.size + 2]? = some C := by rw [← e2]; exact t3.at_
  refine ⟨⟨b.os, b.tape, b.output, by have := b.size; simpa using this, fun k hk hne => ?_⟩, fun X hX => ?_, ?_, ?_⟩
  · rw [heap_setCell_other _ _ _ _ (by simpa using hne)]; exact b.block k hk
  · exact heap_setCell_same _ lb 6 X 71 u (below_heap b hX)
  · rw [heap_setCell_other _ _ _ _ (by simp; omega)]; exact hB2
  · rw [heap_setCell_other _ _ _ _ (by simp; omega)]; exact hC

theorem below3 (W : World) (A B C : Obj) : Below W.heap.size W (((W.alloc A).alloc B).alloc C) :=
  (((Below.refl _ W).alloc (Nat.le_refl _) A).alloc (by simp) B).alloc (by simp; omega) C

theorem L2.drew {v W : World} {P : Nat} {dm dl : Nat → Tx} {o : Int} {chn : List Nat} {cv : Value} {l : List Nat} (h : L2 v W P dm dl o chn cv l) : L2 v W.drew P dm dl o chn cv l := ⟨h.chain, h.row, h.bel.drew, h.hd, h.low⟩

theorem spl_mem (sk : Nat → Bool) (cb : List Nat) (hd : Nat) (k b : Nat) (h : b ∈ spl sk cb hd k) : (∃ j, j < k ∧ b = cb.getD j 0) ∨ (b = hd ∧ pl sk k = true) := by
  induction k with
  | zero => simp [spl] at h
  | succ k ih =>
    simp only [spl, List.mem_append] at h
    rcases h with h | h
    · rcases ih h with ⟨j, hj, e⟩ | ⟨e1, e2⟩
      · exact .inl ⟨j, by omega, e⟩
      · exact .inr ⟨e1, by simp [pl, e2]⟩
    · by_cases h1 : sk k = true
      · rw [if_pos h1] at h
        by_cases h2 : pl sk k = true
        · rw [if_pos h2] at h; cases h
        · rw [if_neg h2, List.mem_singleton] at h
          exact .inr ⟨h, by simp [pl, h1]⟩
      · rw [if_neg h1, List.mem_singleton] at h
        exact .inl ⟨k, by omega, h⟩

theorem spl_nodup (sk : Nat → Bool) (cb : List Nat) (hd : Nat) (hn : cb.Nodup) (hh : hd ∉ cb) (k : Nat) (hk : k ≤ cb.length) : (spl sk cb hd k).Nodup := by
  have hget : ∀ j, j < cb.length → cb.getD j 0 ∈ cb := fun j hj => by rw [List.getD_eq_getElem?_getD, List.getElem?_eq_getElem hj]; exact List.getElem_mem _
  induction k with
  | zero => exact List.nodup_nil
  | succ k ih =>
    have ih := ih (by omega)
    simp only [spl]
    by_cases h1 : sk k = true
    · rw [if_pos h1]
      by_cases h2 : pl sk k = true
      · rw [if_pos h2, List.append_nil]; exact ih
      · rw [if_neg h2, List.nodup_append]
        refine ⟨ih, by simp, fun a ha b hb e => ?_⟩
        rw [List.mem_singleton] at hb
        subst e hb
        rcases spl_mem sk cb _ k _ ha with ⟨j, hj, e⟩ | ⟨_, e⟩
        · exact hh (by rw [e]; exact hget j (by omega))
        · exact h2 e
    · rw [if_neg h1, List.nodup_append]
      refine ⟨ih, by simp, fun a ha b hb e => ?_⟩
      rw [List.mem_singleton] at hb
      subst e
      rcases spl_mem sk cb _ k _ ha with ⟨j, hj, e⟩ | ⟨e, _⟩
      · rw [e, List.getD_eq_getElem?_getD, List.getD_eq_getElem?_getD, List.getElem?_eq_getElem (by omega), List.getElem?_eq_getElem (by omega)] at hb
        have := (List.getElem_inj hn).1 hb
        omega
      · exact hh (by rw [← e, hb]; exact hget k (by omega))

theorem got_mem (sk : Nat → Bool) (cb : List Nat) (hd n b : Nat) (hl : cb.length = n) (h : b ∈ got sk cb hd n) : b ∈ cb ∨ b = hd := by
  have hs : b ∈ spl sk cb hd n → b ∈ cb ∨ b = hd := fun h => by
    rcases spl_mem sk cb hd n b h with ⟨j, hj, e⟩ | ⟨e, _⟩
    · left; rw [e, List.getD_eq_getElem?_getD, List.getElem?_eq_getElem (by omega)]; exact List.getElem_mem _
    · exact .inr e
  unfold got at h
  by_cases hp : pl sk n = true
  · rw [if_pos hp] at h; exact hs h
  · rw [if_neg hp, List.mem_append, List.mem_singleton] at h
    rcases h with h | h
    · exact hs h
    · exact .inr h

theorem got_nodup (sk : Nat → Bool) (cb : List Nat) (hd n : Nat) (hn : cb.Nodup) (hh : hd ∉ cb) (hl : cb.length = n) : (got sk cb hd n).Nodup := by
  have h1 := spl_nodup sk cb hd hn hh n (by omega)
  unfold got
  by_cases hp : pl sk n = true
  · rw [if_pos hp]; exact h1
  · rw [if_neg hp, List.nodup_append]
    refine ⟨h1, by simp, fun a ha b hb e => ?_⟩
    rw [List.mem_singleton] at hb
    subst e hb
    rcases spl_mem sk cb _ n _ ha with ⟨j, hj, e⟩ | ⟨_, e⟩
    · exact hh (by rw [e, List.getD_eq_getElem?_getD, List.getElem?_eq_getElem (by omega)]; exact List.getElem_mem _)
    · exact hp e

theorem spl_has (sk : Nat → Bool) (cb : List Nat) (hd k : Nat) (h : pl sk k = true) : hd ∈ spl sk cb hd k := by
  induction k with
  | zero => simp [pl] at h
  | succ k ih =>
    simp only [spl, List.mem_append]
    by_cases h2 : pl sk k = true
    · exact .inl (ih h2)
    · have h3 : sk k = true := by simpa [pl, h2] using h
      right
      rw [if_pos h3, if_neg h2]
      simp

theorem got_has (sk : Nat → Bool) (cb : List Nat) (hd n : Nat) : hd ∈ got sk cb hd n := by
  unfold got
  by_cases hp : pl sk n = true
  · rw [if_pos hp]; exact spl_has sk cb hd n hp
  · rw [if_neg hp]; simp

/-- While the indexes are laid. -/
structure L3 (B : Nat) (w3 W : World) (g : List Nat) (i : Nat) : Prop where
  other : ∀ (c : Nat) (x : Obj), w3.heap[c]? = some x → (∀ C, x ≠ .cells C 71 (0, 0)) → W.heap[c]? = some x
  node : ∀ (c : Nat) k d m n t p ch ix o, w3.heap[c]? = some (.cells #[k, d, m, n, t, p, ch, ix, o] 71 (0, 0)) → ∃ ix', W.heap[c]? = some (.cells #[k, d, m, n, t, p, ch, ix', o] 71 (0, 0))
  done : ∀ (j b : Nat), j < i → g[j]? = some b → W.cell? ⟨b, 7, none⟩ = some (.int .i64 j)
  bel : Below B w3 W

theorem L3.start (B : Nat) (w3 : World) (g : List Nat) : L3 B w3 w3 g 0 := ⟨fun _ _ h _ => h, fun _ _ _ _ _ _ _ _ ix _ h => ⟨ix, h⟩, fun _ _ h => absurd h (by omega), Below.refl _ _⟩

theorem L3.next {B : Nat} {w3 W : World} {g : List Nat} {i b : Nat} (h : L3 B w3 W g i) (hg : g.Nodup) (hb : g[i]? = some b) {k d m n t p ch ix o : Value} (hn : W.heap[b]? = some (.cells #[k, d, m, n, t, p, ch, ix, o] 71 (0, 0))) (hB : B ≤ b) :
    L3 B w3 (W.setCell ⟨b, 7, none⟩ (.int .i64 i)) g (i + 1) := by
  have hs := heap_setCell_same W b 7 _ 71 (.int .i64 i) hn
  refine ⟨fun c x hc hx => ?_, fun c k' d' m' n' t' p' ch' ix' o' hc => ?_, fun j b' hj hb' => ?_, h.bel.setCell hB _⟩
  · have h1 := h.other c x hc hx
    rw [heap_setCell_other W _ c _ ?_]
    · exact h1
    · intro e
      simp at e
      rw [e, hn] at h1
      injection h1 with h1
      exact hx _ h1.symm
  · obtain ⟨ix2, h1⟩ := h.node c _ _ _ _ _ _ _ _ _ hc
    by_cases e : c = b
    · subst e
      rw [hn] at h1
      injection h1 with h1
      injection h1 with h1
      simp at h1
      obtain ⟨rfl, rfl, rfl, rfl, rfl, rfl, rfl, rfl, rfl⟩ := h1
      exact ⟨_, hs⟩
    · exact ⟨ix2, by rw [heap_setCell_other W _ c _ (by simpa using e)]; exact h1⟩
  · by_cases e : j = i
    · subst e
      rw [hb] at hb'
      injection hb' with hb'
      subst hb'
      rw [cell_of_row _ b 7 _ 71 (0, 0) hs]
      rfl
    · have hne : b' ≠ b := by
        intro e2
        subst e2
        obtain ⟨l1, e1⟩ := List.getElem?_eq_some_iff.1 hb
        obtain ⟨l2, e2⟩ := List.getElem?_eq_some_iff.1 hb'
        exact e ((List.getElem_inj hg).1 (e2.trans e1.symm))
      rw [World.cell?_of_block (w := W) (heap_setCell_other W _ b' _ (by simpa using hne))]
      exact h.done j b' (by omega) hb'

theorem row_form {W : World} {B : Nat} {cv : Value} {l : List Nat} (h : W.ownsRow B 35 1 cv l.length (l.map ptr)) (hl : 0 < l.length) :
    ∃ G cap cur, cv = .slice (some ⟨G, 0, none⟩) l.length cap ∧ W.heap[G]? = some (.cells cur 35 (0, 0)) ∧ ∀ (j b : Nat), l[j]? = some b → cur[j]? = some (ptr b) := by
  rcases h.2 with ⟨_, h0⟩ | ⟨G, cap, cur, hv, _, hb, _, _, _, hx⟩
  · omega
  · refine ⟨G, cap, cur, hv, hb, fun j b hj => ?_⟩
    have hjl := (List.getElem?_eq_some_iff.1 hj).1
    have h1 : (l.map ptr)[j]? = some (ptr b) := by rw [List.getElem?_map, hj]; rfl
    rw [← hx, List.getElem?_take, if_pos (by omega)] at h1
    simpa using h1

/-- The three stores that hand the new children over. -/
theorem set3 {wr : World} {T P K n : Nat} {base : Int} (cv : Value) (hT : wr.heap[T]? = some (.cells #[.pointer none, .slice none 0 0, .slice none 0 0] 65 (0, 0))) (hP : wr.heap[P]? = some (parObj base (.slice (some ⟨K, 0, none⟩) n n))) :
    ((wr.setCell ⟨T, 1, none⟩ (.slice (some ⟨K, 0, none⟩) n n)).cell? ⟨T, 2, none⟩ = some (.slice none 0 0) ∧ (wr.setCell ⟨T, 1, none⟩ (.slice (some ⟨K, 0, none⟩) n n)).frozen? ⟨T, 2, none⟩ = false) ∧
    (((wr.setCell ⟨T, 1, none⟩ (.slice (some ⟨K, 0, none⟩) n n)).setCell ⟨T, 2, none⟩ cv).cell? ⟨P, 6, none⟩ = some (.slice (some ⟨K, 0, none⟩) n n) ∧ ((wr.setCell ⟨T, 1, none⟩ (.slice (some ⟨K, 0, none⟩) n n)).setCell ⟨T, 2, none⟩ cv).frozen? ⟨P, 6, none⟩ = false) ∧
    (((wr.setCell ⟨T, 1, none⟩ (.slice (some ⟨K, 0, none⟩) n n)).setCell ⟨T, 2, none⟩ cv).setCell ⟨P, 6, none⟩ cv).heap[T]? = some (.cells #[.pointer none, .slice (some ⟨K, 0, none⟩) n n, cv] 65 (0, 0)) ∧
    (((wr.setCell ⟨T, 1, none⟩ (.slice (some ⟨K, 0, none⟩) n n)).setCell ⟨T, 2, none⟩ cv).setCell ⟨P, 6, none⟩ cv).heap[P]? = some (parObj base cv) ∧
    (∀ (c : Nat) (x : Obj), wr.heap[c]? = some x → c ≠ T → c ≠ P → (((wr.setCell ⟨T, 1, none⟩ (.slice (some ⟨K, 0, none⟩) n n)).setCell ⟨T, 2, none⟩ cv).setCell ⟨P, 6, none⟩ cv).heap[c]? = some x) ∧
    (∀ B, B ≤ T → B ≤ P → Below B wr (((wr.setCell ⟨T, 1, none⟩ (.slice (some ⟨K, 0, none⟩) n n)).setCell ⟨T, 2, none⟩ cv).setCell ⟨P, 6, none⟩ cv)) := by
  have hne : T ≠ P := by
    intro e
    rw [e, hP] at hT
    simp [parObj] at hT
  have t1 := heap_setCell_same wr T 1 _ 65 (.slice (some ⟨K, 0, none⟩) n n) hT
  have t2 := heap_setCell_same _ T 2 _ 65 cv t1
  have p1 := (heap_setCell_other wr ⟨T, 1, none⟩ P (.slice (some ⟨K, 0, none⟩) n n) (fun e => hne (by simpa using e.symm))).trans hP
  have p2 := (heap_setCell_other _ ⟨T, 2, none⟩ P cv (fun e => hne (by simpa using e.symm))).trans p1
  have p3 := heap_setCell_same _ P 6 _ 71 cv p2
  refine ⟨⟨by rw [cell_of_row _ T 2 _ 65 (0, 0) t1]; rfl, frozen_of_row _ T 2 _ 65 t1⟩, ⟨by rw [cell_of_row _ P 6 _ 71 (0, 0) p2]; rfl, frozen_of_row _ P 6 _ 71 p2⟩, ?_, p3, fun c x hc h1 h2 => ?_, fun B h1 h2 => (((Below.refl _ wr).setCell (p := ⟨T, 1, none⟩) h1 _).setCell (p := ⟨T, 2, none⟩) h1 _).setCell (p := ⟨P, 6, none⟩) h2 _⟩
  · rw [heap_setCell_other _ _ T _ (by simpa using hne)]; exact t2
  · rw [heap_setCell_other _ _ c _ (by simpa using h2), heap_setCell_other _ _ c _ (by simpa using h1), heap_setCell_other _ _ c _ (by simpa using h1)]; exact hc

/-- What 'putDummies' leaves. -/
structure Put (v W : World) (z : Pl) (n : Nat) (q : TreeQ) (cb : List Nat) (T m : Nat) (dm dl : Nat → Tx) (g : List Nat) (o : Int) (chn : List Nat) (G cap : Nat) : Prop where
  par : ∃ ix, W.heap[z.P]? = some (.cells #[.int .u8 1, .int .i32 0, encStr parMod, encStr parName, encStr [], .pointer none, .slice (some ⟨G, 0, none⟩) g.length cap, ix, .int .i64 q.base] 71 (0, 0))
  wt : W.heap[T]? = some (.cells #[.pointer none, .slice (some ⟨z.K, 0, none⟩) n n, .slice (some ⟨G, 0, none⟩) g.length cap] 65 (0, 0))
  row : ∀ (j b : Nat), g[j]? = some b → W.cell? ⟨G, j, none⟩ = some (ptr b)
  kid : ∀ (j b : Nat), cb[j]? = some b → Kid W z b (q.el j) (q.md j) (q.nm j) (q.gr j) (q.ord j)
  chain : Chain W z.P dm dl o chn
  hd : chn[0]? = some (v.heap.size + 1)
  clen : chn.length = m + 1
  idx : ∀ (j b : Nat), g[j]? = some b → W.cell? ⟨b, 7, none⟩ = some (.int .i64 j)
  keep : ∀ (c : Nat) (x : Obj), v.heap[c]? = some x → c ≠ T → (∀ C, x ≠ .cells C 71 (0, 0)) → W.heap[c]? = some x
  bel : ∀ B, B ≤ z.P → B ≤ T → Below B v W

/-- Each new child is a node. -/
theorem got_node {v wr w3 : World} {z : Pl} {n : Nat} {q : TreeQ} {cb : List Nat} {T D m : Nat} {dm dl : Nat → Tx} {s : Nat} {o : Int} {chn : List Nat} {cv : Value} {sk : Nat → Bool} (hS : Stage v z n q cb T D m dm dl s)
    (h2 : L2 v wr z.P dm dl o chn cv (got sk cb (v.heap.size + 1) n)) (hk : ∀ (c : Nat) (x : Obj), wr.heap[c]? = some x → c ≠ T → c ≠ z.P → w3.heap[c]? = some x) (hT : wr.heap[T]? = some (.cells #[.pointer none, .slice none 0 0, .slice none 0 0] 65 (0, 0))) (b : Nat) (hb : b ∈ got sk cb (v.heap.size + 1) n) :
    z.P < b ∧ ∃ k d m n t p ch ix o, w3.heap[b]? = some (.cells #[k, d, m, n, t, p, ch, ix, o] 71 (0, 0)) := by
  have hPv := lt_of_heap hS.par
  have aux : ∀ {x : Nat} {k d m n t p ch ix o : Value}, wr.heap[x]? = some (.cells #[k, d, m, n, t, p, ch, ix, o] 71 (0, 0)) → x ≠ T := by
    intro x _ _ _ _ _ _ _ _ _ h e
    rw [e, hT] at h
    simp at h
  rcases got_mem sk cb _ n b hS.len hb with h | h
  · obtain ⟨j, hj⟩ := List.mem_iff_getElem?.1 h
    obtain ⟨hlow, ch, ix, h1, _⟩ := hS.kid j b hj
    have hw := below_heap h2.bel h1
    have := hS.pr
    exact ⟨by omega, _, _, _, _, _, _, _, _, _, hk b _ hw (aux hw) (by omega)⟩
  · subst h
    obtain ⟨ch, ix, h1, _⟩ := h2.chain 0 _ h2.hd
    exact ⟨by omega, _, _, _, _, _, _, _, _, _, hk _ _ h1 (aux h1) (by omega)⟩

theorem put_end {v wr w3 W : World} {z : Pl} {n : Nat} {q : TreeQ} {cb : List Nat} {T D m G cap B : Nat} {dm dl : Nat → Tx} {s : Nat} {o : Int} {chn : List Nat} {sk : Nat → Bool} {cur : Array Value} (hS : Stage v z n q cb T D (m + 1) dm dl s)
    (h2 : L2 v wr z.P dm dl o chn (.slice (some ⟨G, 0, none⟩) (got sk cb (v.heap.size + 1) n).length cap) (got sk cb (v.heap.size + 1) n)) (hc : chn.length = m + 1)
    (hr : wr.heap[G]? = some (.cells cur 35 (0, 0))) (hr2 : ∀ (j b : Nat), (got sk cb (v.heap.size + 1) n)[j]? = some b → cur[j]? = some (ptr b))
    (hk : ∀ (c : Nat) (x : Obj), wr.heap[c]? = some x → c ≠ T → c ≠ z.P → w3.heap[c]? = some x) (hT : wr.heap[T]? = some (.cells #[.pointer none, .slice none 0 0, .slice none 0 0] 65 (0, 0)))
    (hP : wr.heap[z.P]? = some (parObj q.base (.slice (some ⟨z.K, 0, none⟩) n n)))
    (hT3 : w3.heap[T]? = some (.cells #[.pointer none, .slice (some ⟨z.K, 0, none⟩) n n, .slice (some ⟨G, 0, none⟩) (got sk cb (v.heap.size + 1) n).length cap] 65 (0, 0)))
    (hP3 : w3.heap[z.P]? = some (parObj q.base (.slice (some ⟨G, 0, none⟩) (got sk cb (v.heap.size + 1) n).length cap)))
    (hb3 : ∀ B, B ≤ T → B ≤ z.P → Below B wr w3) (hB : B = min T z.P) (h3 : L3 B w3 W (got sk cb (v.heap.size + 1) n) (got sk cb (v.heap.size + 1) n).length) :
    Put v W z n q cb T m dm dl (got sk cb (v.heap.size + 1) n) o chn G cap := by
  have tagT : ∀ {x : Nat} {C : Array Value} {t : TypeId}, t ≠ 65 → wr.heap[x]? = some (.cells C t (0, 0)) → x ≠ T := by
    intro x C t ht h e
    rw [e, hT] at h
    simp at h
    exact ht h.2.symm
  have tagP : ∀ {x : Nat} {C : Array Value} {t : TypeId}, t ≠ 71 → wr.heap[x]? = some (.cells C t (0, 0)) → x ≠ z.P := by
    intro x C t ht h e
    rw [e, hP] at h
    simp [parObj] at h
    exact ht h.2.symm
  have hPv := lt_of_heap hS.par
  have hTv := lt_of_heap hS.wt
  have h71 : (71 : TypeId) ≠ 65 := by decide
  have h35a : (35 : TypeId) ≠ 65 := by decide
  have h35b : (35 : TypeId) ≠ 71 := by decide
  have row3 : ∀ {x : Nat} {C : Array Value}, wr.heap[x]? = some (.cells C 35 (0, 0)) → W.heap[x]? = some (.cells C 35 (0, 0)) := by
    intro x C h
    refine h3.other x _ (hk x _ h (tagT h35a h) (tagP h35b h)) (fun C' e => ?_)
    simp at e
  have node3 : ∀ {x : Nat} {k d m n t p ch ix o : Value}, x ≠ z.P → wr.heap[x]? = some (.cells #[k, d, m, n, t, p, ch, ix, o] 71 (0, 0)) → ∃ ix', W.heap[x]? = some (.cells #[k, d, m, n, t, p, ch, ix', o] 71 (0, 0)) := by
    intro x k d m n t p ch ix o hx h
    exact h3.node x _ _ _ _ _ _ _ _ _ (hk x _ h (tagT h71 h) hx)
  have hpr := hS.pr
  have kx : KeepX z v W := ⟨fun c C hc h => row3 (below_heap h2.bel h), fun c k d m n t p ch ix o hc h => node3 (by omega) (below_heap h2.bel h)⟩
  refine ⟨?_, ?_, ?_, ?_, ?_, h2.hd, hc, ?_, ?_, ?_⟩
  · obtain ⟨ix, h⟩ := h3.node z.P _ _ _ _ _ _ _ _ _ hP3
    exact ⟨ix, h⟩
  · exact h3.other T _ hT3 (fun C e => by simp at e)
  · intro j b hj
    rw [cell_of_row W G j _ 35 (0, 0) (row3 hr)]
    exact hr2 j b hj
  · intro j b hj
    exact (hS.kid j b hj).keep kx
  · intro j b hj
    obtain ⟨ch, ix, h1, hd⟩ := h2.chain j b hj
    have hlow := h2.low b (List.mem_of_getElem? hj)
    obtain ⟨ix', h1'⟩ := node3 (by omega) h1
    refine ⟨ch, ix', h1', ?_⟩
    rcases hd with hd | ⟨b2, r, e1, e2, e3⟩
    · exact .inl hd
    · exact .inr ⟨b2, r, e1, e2, row3 e3⟩
  · intro j b hj
    exact h3.done j b (List.getElem?_eq_some_iff.1 hj).1 hj
  · intro c x hc h1 hx
    have hcw := below_heap h2.bel hc
    refine h3.other c x (hk c x hcw h1 ?_) hx
    intro e
    rw [e, hP] at hcw
    injection hcw with hcw
    exact hx _ hcw.symm
  · intro B' hB1 hB2
    exact ((h2.bel.mono (by omega)).trans (hb3 B' hB2 hB1)).trans (h3.bel.mono (by omega))

end Go.Proofs.Qxb6600222a
