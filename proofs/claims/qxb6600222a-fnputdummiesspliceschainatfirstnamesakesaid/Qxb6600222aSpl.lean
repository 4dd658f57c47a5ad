import Derived.Test.Qxb6600222aLast
namespace Go.Proofs.Qxb6600222a
open Go.RowKit

/-- Child j is a namesake. -/
def sake (q : TreeQ) (m l : Tx) (j : Nat) : Bool := q.el j && (q.md j == m) && (q.nm j == l)

/-- Is one of the first k a namesake? -/
def pl (sk : Nat → Bool) : Nat → Bool
  | 0 => false
  | k + 1 => pl sk k || sk k

/-- The children that stand after the first k were seen. -/
def spl (sk : Nat → Bool) (cb : List Nat) (hd : Nat) : Nat → List Nat
  | 0 => []
  | k + 1 => spl sk cb hd k ++ (if sk k then (if pl sk k then [] else [hd]) else [cb.getD k 0])

/-- The head's order after the first k were seen. -/
def ho (sk : Nat → Bool) (q : TreeQ) : Nat → Int
  | 0 => 0
  | k + 1 => if sk k && !pl sk k then q.ord k - 1 else ho sk q k

/-- The new children, and the chain's order. -/
def got (sk : Nat → Bool) (cb : List Nat) (hd n : Nat) : List Nat := if pl sk n then spl sk cb hd n else spl sk cb hd n ++ [hd]
def hord (sk : Nat → Bool) (q : TreeQ) (n : Nat) : Int := if pl sk n then ho sk q n else q.ord n - 1

theorem spl_len (sk : Nat → Bool) (cb : List Nat) (hd : Nat) (k : Nat) : (spl sk cb hd k).length + (if pl sk k then 0 else 1) ≤ k + 1 := by
  induction k with
  | zero => simp [spl, pl]
  | succ k ih =>
    simp only [spl, pl, List.length_append]
    by_cases h1 : sk k = true <;> by_cases h2 : pl sk k = true <;> simp_all <;> omega

theorem got_len (sk : Nat → Bool) (cb : List Nat) (hd n : Nat) : (got sk cb hd n).length ≤ n + 1 := by
  have := spl_len sk cb hd n
  unfold got
  cases h : pl sk n <;> simp_all

/-- While 'putDummies' gathers the children: the row l, the head and the name. -/
structure L1 (v wr : World) (hobj fobj : Obj) (cv : Value) (l : List Nat) : Prop where
  row : wr.ownsRow (v.heap.size + 2) 35 1 cv l.length (l.map ptr)
  head : wr.heap[v.heap.size + 1]? = some hobj
  fst : wr.heap[v.heap.size]? = some fobj
  bel : Below v.heap.size v wr

theorem L1.size {v wr : World} {hobj fobj : Obj} {cv : Value} {l : List Nat} (h : L1 v wr hobj fobj cv l) : v.heap.size + 1 < wr.heap.size := lt_of_heap h.head

theorem L1.own {v wr : World} {hobj fobj : Obj} {cv : Value} {l : List Nat} (h : L1 v wr hobj fobj cv l) {k : Nat} (hk : k < v.heap.size + 2) : some k ≠ cv.ownBlock := by
  intro e
  have := (World.ownsRow.lt h.row k e.symm).1
  omega

/-- The append of one pointer. -/
theorem app35 {ops : Array Oper} {rest : List Oper} {o : Oper} {a : Act} {Q : Exit → Act → World → Prop} (v W : World) (hobj fobj : Obj) (cv : Value) (l : List Nat) (x g : Nat) (hg : o.guard = none) (s y : Operand)
    (hop : o.op = Op.call { callee := Callee.builtin Builtin.append, args := #[s, y], argTypes := #[36, 36] })
    (hs : a.eval s = cv) (hx : a.eval y = .slice (some ⟨g, 0, none⟩) 1 1) (hgv : W.heap.size = g) (h : L1 v W hobj fobj cv l) (hl : l.length ≤ 1000000)
    (hK : ∀ v' w', Hid (L1 v w' hobj fobj v' (l ++ [x])) → wpList Try.prog ops Q rest (a.put o.dst v') w') : wpList Try.prog ops Q (o :: rest) a (W.alloc (.cells #[ptr x] 35)) := by
  obtain ⟨i0, hi0, hz0, hz1, hz2⟩ := info_parts Try.info35
  have hsz := h.bel.size
  have hs1 := h.size
  refine wpList_append_own _ hg s y 36 hop (v.heap.size + 2) 35 i0 (.pointer none) 1 8 Try.underlying36 hi0 hz0 hz1 hz2 rfl (by decide) cv l.length _ hs (World.ownsRow.alloc h.row _) ⟨g, 0, none⟩ 1 1 [ptr x] hx rfl ?_ (by simp [Value.oneCell', ptr]) (by unfold maxLen; omega) (by omega) (by simp; omega) ?_
  · subst hgv; exact cell_one_new _ _ _
  · intro v' w' hown hgr _
    refine hK v' w' ⟨?_, ?_, ?_, ?_⟩
    · simpa using hown
    · exact (hgr.block _ (by simp; omega) (h.own (by omega))).trans ((Below.heap_alloc W _ _ (by omega)).trans h.head)
    · exact (hgr.block _ (by simp; omega) (h.own (by omega))).trans ((Below.heap_alloc W _ _ (by omega)).trans h.fst)
    · exact (h.bel.alloc (by omega) _).grown hgr (by simp; omega) (fun j hj => by have := (World.ownsRow.lt h.row j hj).1; omega)

/-- The head's order is set. -/
theorem L1.setHead {v wr : World} {C : Array Value} {fobj : Obj} {cv : Value} {l : List Nat} (h : L1 v wr (.cells C 71 (0, 0)) fobj cv l) (u : Value) : L1 v (wr.setCell ⟨v.heap.size + 1, 8, none⟩ u) (.cells (C.setIfInBounds 8 u) 71 (0, 0)) fobj cv l := by
  refine ⟨?_, heap_setCell_same wr _ 8 C 71 u h.head, (heap_setCell_other wr _ _ u (by simp)).trans h.fst, h.bel.setCell (by simp) u⟩
  exact ownsRow_setCell_below h.row (a := ⟨v.heap.size + 1, 8, none⟩) (by simp) u

theorem Lst.down {w W : World} {o : Int} (hb : Below w.heap.size w W) {s b : Nat} (h : Lst w o s b) : Lst W o s b := by
  induction h with
  | leaf h => exact .leaf (below_heap hb h)
  | deep h hl hc _ ih => exact .deep (below_heap hb h) hl (below_cell hb hc) ih

theorem L1.past {v wr W : World} {hobj fobj : Obj} {cv : Value} {l : List Nat} (h : L1 v wr hobj fobj cv l) (hb : Below wr.heap.size wr W) : L1 v W hobj fobj cv l := by
  have hg : wr.grownBy W none := ⟨hb.os, hb.tape, hb.output, hb.size, fun k hk _ => hb.block k hk⟩
  refine ⟨World.ownsRow.kept h.row hg (by cases cv.ownBlock <;> simp), below_heap hb h.head, below_heap hb h.fst, h.bel.trans (hb.mono h.bel.size)⟩
end Go.Proofs.Qxb6600222a
