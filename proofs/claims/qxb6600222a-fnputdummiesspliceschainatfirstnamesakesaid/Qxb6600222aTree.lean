import Derived.Test.Qxb6600222aNode
namespace Go.Proofs.Qxb6600222a
open Go.RowKit

/-- The first elements of a row of n cells of element type e at block g. -/
def RowAt {α : Type} (mk : α → Value) (e : TypeId) (w : World) (g n : Nat) (l : List α) : Prop :=
  ∃ cur : Array Value, w.heap[g]? = some (.cells cur e (0, 0)) ∧ cur.size = n ∧ ∀ (j : Nat) (x : α), l[j]? = some x → cur[j]? = some (mk x)

section
variable {α : Type} {mk : α → Value} {e : TypeId} {w w' : World} {g n : Nat} {l : List α}

theorem RowAt.keep (h : RowAt mk e w g n l) (hs : w'.heap[g]? = w.heap[g]?) : RowAt mk e w' g n l := by
  obtain ⟨cur, h1, h2, h3⟩ := h
  exact ⟨cur, hs.trans h1, h2, h3⟩

theorem RowAt.turned (h : RowAt mk e w g n l) {b : Nat} {o : Obj} (ht : Turned w w' b o) (hne : g ≠ b) : RowAt mk e w' g n l := by
  obtain ⟨cur, h1, h2, h3⟩ := h
  exact ⟨cur, ht.other h1 hne, h2, h3⟩

theorem RowAt.lt (h : RowAt mk e w g n l) : g < w.heap.size := by
  obtain ⟨cur, h1, _⟩ := h
  exact lt_of_heap h1

theorem RowAt.slot (h : RowAt mk e w g n l) (k : Nat) (hk : k < n) : ∃ old, w.cell? ⟨g, k, none⟩ = some old := by
  obtain ⟨cur, h1, h2, h3⟩ := h
  exact ⟨cur[k]'(by omega), by rw [cell_of_row w g k _ e (0, 0) h1]; exact Array.getElem?_eq_getElem _⟩

theorem RowAt.frozen (h : RowAt mk e w g n l) (k : Nat) : w.frozen? ⟨g, k, none⟩ = false := by
  obtain ⟨cur, h1, h2, h3⟩ := h
  exact frozen_of_row w g k _ e h1

theorem RowAt.cell (h : RowAt mk e w g n l) {k : Nat} {x : α} (hk : l[k]? = some x) : w.cell? ⟨g, k, none⟩ = some (mk x) := by
  obtain ⟨cur, h1, h2, h3⟩ := h
  rw [cell_of_row w g k _ e (0, 0) h1]
  exact h3 k x hk

theorem RowAt.push (h : RowAt mk e w g n l) (hl : l.length < n) (x : α) : RowAt mk e (w.setCell ⟨g, l.length, none⟩ (mk x)) g n (l ++ [x]) := by
  obtain ⟨cur, h1, h2, h3⟩ := h
  refine ⟨_, heap_setCell_same w g l.length cur e (mk x) h1, by simp [h2], fun j y hj => ?_⟩
  rw [Array.getElem?_setIfInBounds]
  by_cases e1 : l.length = j
  · subst e1
    rw [if_pos rfl, if_pos (by omega)]
    simp at hj
    rw [hj]
  · rw [if_neg e1]
    have hj2 : j < l.length := by
      have := (List.getElem?_eq_some_iff.1 hj).1
      simp at this
      omega
    rw [List.getElem?_append_left hj2] at hj
    exact h3 j y hj

theorem RowAt.made {B : Nat} {xs : List Value} (h : w.ownsRow B e 1 (.slice (some ⟨g, 0, none⟩) n n) n xs) : RowAt mk e w g n [] := by
  rcases h.2 with ⟨h0, _⟩ | ⟨g', cap, cur, hv, _, hb, _, _, hs, _⟩
  · cases h0
  · injection hv with hv1 hv2 hv3
    injection hv1 with hv4
    injection hv4 with hv5
    subst hv5 hv3
    exact ⟨cur, hb, by omega, fun j x hj => by simp at hj⟩

theorem RowAt.other (h : RowAt mk e w g n l) {a : Addr} (v : Value) (hne : g ≠ a.block) : RowAt mk e (w.setCell a v) g n l := h.keep (heap_setCell_other w a g v hne)
end

/-- The plain tree: what stands at child j. -/
structure TreeQ where
  el : Nat → Bool
  md : Nat → Tx
  nm : Nat → Tx
  gr : Nat → Bool
  base : Int

/-- The order of child j. -/
def TreeQ.ord (q : TreeQ) : Nat → Int
  | 0 => q.base + 1
  | j + 1 => q.ord j + 1 + (if q.gr j then 1 else 0)

theorem TreeQ.ord_bound (q : TreeQ) (j : Nat) : q.base + 1 ≤ q.ord j ∧ q.ord j ≤ q.base + 1 + 2 * j := by
  induction j with
  | zero => simp [TreeQ.ord]
  | succ j ih =>
    rw [TreeQ.ord]
    cases q.gr j <;> simp <;> omega

def kindV (b : Bool) : Value := .int .u8 (if b then 1 else 2)
def textV (b : Bool) : Value := encStr (if b then [] else [116])

/-- The places of the tree: the parent's block, the rows of the children, of the copy and of the orders. -/
structure Pl where
  P : Nat
  K : Nat
  O : Nat
  R : Nat

/-- What hangs on a child. -/
def Sub (W : World) (z : Pl) (gr : Bool) (o : Int) (ch : Value) : Prop :=
  (gr = false ∧ ch = .slice none 0 0) ∨
  (gr = true ∧ ∃ r g p ix, ch = .slice (some ⟨r, 0, none⟩) 1 1 ∧ z.R < g ∧ z.R < r ∧ W.heap[r]? = some (.cells #[ptr g] 35 (0, 0)) ∧
    W.heap[g]? = some (.cells #[.int .u8 2, .int .i32 0, encStr [], encStr [], encStr [103], p, .slice none 0 0, ix, .int .i64 (o + 1)] 71 (0, 0)))

/-- A child of the tree at z. -/
def Kid (W : World) (z : Pl) (b : Nat) (el : Bool) (md nm : Tx) (gr : Bool) (o : Int) : Prop :=
  z.R < b ∧ ∃ ch ix, W.heap[b]? = some (.cells #[kindV el, .int .i32 0, encStr md, encStr nm, textV el, ptr z.P, ch, ix, .int .i64 o] 71 (0, 0)) ∧ Sub W z gr o ch

/-- What stays of the blocks past the tree's own: all, but for the indexes. -/
structure KeepX (z : Pl) (w W : World) : Prop where
  row : ∀ c C, z.R < c → w.heap[c]? = some (.cells C 35 (0, 0)) → W.heap[c]? = some (.cells C 35 (0, 0))
  node : ∀ c k d m n t p ch ix o, z.R < c → w.heap[c]? = some (.cells #[k, d, m, n, t, p, ch, ix, o] 71 (0, 0)) → ∃ ix', W.heap[c]? = some (.cells #[k, d, m, n, t, p, ch, ix', o] 71 (0, 0))

theorem Kid.keep {w W : World} {z : Pl} {b : Nat} {el : Bool} {md nm : Tx} {gr : Bool} {o : Int} (h : Kid w z b el md nm gr o) (hk : KeepX z w W) : Kid W z b el md nm gr o := by
  obtain ⟨hb, ch, ix, h1, h2⟩ := h
  obtain ⟨ix', h1'⟩ := hk.node _ _ _ _ _ _ _ _ _ _ hb h1
  refine ⟨hb, ch, ix', h1', ?_⟩
  rcases h2 with h2 | ⟨hg, r, g, p, ix, e1, e2, e3, e4, e5⟩
  · exact .inl h2
  · obtain ⟨ix2, e5'⟩ := hk.node _ _ _ _ _ _ _ _ _ _ e2 e5
    exact .inr ⟨hg, r, g, p, ix2, e1, e2, e3, hk.row _ _ e3 e4, e5'⟩

/-- The middle of a round that began at wr. -/
structure Mid (z : Pl) (w wr W : World) (n : Nat) (par : Obj) (lk lo : List Nat) (os : List Int) : Prop where
  old : ∀ c x, z.R < c → wr.heap[c]? = some x → W.heap[c]? = some x
  par : W.heap[z.P]? = some par
  kids : RowAt ptr 35 W (z.K) n lk
  orig : RowAt ptr 35 W (z.O) n lo
  ord : RowAt (Value.int .i64) 3 W (z.R) n os
  bel : Below w.heap.size w W
  size : wr.heap.size ≤ W.heap.size
  room : z.R < wr.heap.size
  isP : z.P = w.heap.size
  pk : z.P < z.K
  ko : z.K < z.O
  or : z.O < z.R

section
variable {z : Pl} {w wr W W' : World} {n : Nat} {par : Obj} {lk lo : List Nat} {os : List Int}

theorem Mid.turned (h : Mid z w wr W n par lk lo os) {b : Nat} {o : Obj} (ht : Turned W W' b o) (hb : wr.heap.size ≤ b) : Mid z w wr W' n par lk lo os := by
  have hr := h.room
  have h1 := h.isP
  have h2 := h.pk
  have h3 := h.ko
  have h4 := h.or
  refine ⟨fun c x hc hx => ht.other (h.old c x hc hx) (by have := lt_of_heap hx; omega), ht.other h.par (by omega), h.kids.turned ht (by omega), h.orig.turned ht (by omega), h.ord.turned ht (by omega), ?_, Nat.le_trans h.size ht.grown.size, h.room, h.isP, h.pk, h.ko, h.or⟩
  exact h.bel.grown ht.grown (by have := h.size; omega) (by intro k hk; injection hk with hk; omega)

theorem Mid.setOrd (h : Mid z w wr W n par lk lo os) {k : Nat} (hk : os.length = k) (hl : k < n) (x : Int) : Mid z w wr (W.setCell ⟨z.R, k, none⟩ (.int .i64 x)) n par lk lo (os ++ [x]) := by
  subst hk
  have h1 := h.isP
  have h2 := h.pk
  have h3 := h.ko
  have h4 := h.or
  refine ⟨fun c y hc hx => ?_, ?_, h.kids.other _ (by simp; omega), h.orig.other _ (by simp; omega), h.ord.push hl x, h.bel.setCell (by simp; omega) _, by simpa using h.size, h.room, h.isP, h.pk, h.ko, h.or⟩
  · rw [heap_setCell_other W _ c _ (by simp; omega)]; exact h.old c y hc hx
  · rw [heap_setCell_other W _ z.P _ (by simp; omega)]; exact h.par

theorem Mid.setKids (h : Mid z w wr W n par lk lo os) {k : Nat} (hk : lk.length = k) (hl : k < n) (x : Nat) : Mid z w wr (W.setCell ⟨z.K, k, none⟩ (ptr x)) n par (lk ++ [x]) lo os := by
  subst hk
  have h1 := h.isP
  have h2 := h.pk
  have h3 := h.ko
  have h4 := h.or
  refine ⟨fun c y hc hx => ?_, ?_, h.kids.push hl x, h.orig.other _ (by simp; omega), h.ord.other _ (by simp; omega), h.bel.setCell (by simp; omega) _, by simpa using h.size, h.room, h.isP, h.pk, h.ko, h.or⟩
  · rw [heap_setCell_other W _ c _ (by simp; omega)]; exact h.old c y hc hx
  · rw [heap_setCell_other W _ z.P _ (by simp; omega)]; exact h.par

theorem Mid.setOrig (h : Mid z w wr W n par lk lo os) {k : Nat} (hk : lo.length = k) (hl : k < n) (x : Nat) : Mid z w wr (W.setCell ⟨z.O, k, none⟩ (ptr x)) n par lk (lo ++ [x]) os := by
  subst hk
  have h1 := h.isP
  have h2 := h.pk
  have h3 := h.ko
  have h4 := h.or
  refine ⟨fun c y hc hx => ?_, ?_, h.kids.other _ (by simp; omega), h.orig.push hl x, h.ord.other _ (by simp; omega), h.bel.setCell (by simp; omega) _, by simpa using h.size, h.room, h.isP, h.pk, h.ko, h.or⟩
  · rw [heap_setCell_other W _ c _ (by simp; omega)]; exact h.old c y hc hx
  · rw [heap_setCell_other W _ z.P _ (by simp; omega)]; exact h.par

theorem Mid.keepX (h : Mid z w wr W n par lk lo os) : KeepX z wr W :=
  ⟨fun c _ hc hx => h.old c _ hc hx, fun c _ _ _ _ _ _ _ ix _ hc hx => ⟨ix, h.old c _ hc hx⟩⟩

theorem Mid.again (h : Mid z w wr W n par lk lo os) : Mid z w W W n par lk lo os :=
  ⟨fun _ _ _ hx => hx, h.par, h.kids, h.orig, h.ord, h.bel, Nat.le_refl _, by have := h.size; have := h.room; omega, h.isP, h.pk, h.ko, h.or⟩
end

/-- The loop's relation: k children stand, at the blocks cb. -/
structure Grove (z : Pl) (w wr : World) (n k : Nat) (par : Obj) (q : TreeQ) (cb : List Nat) : Prop where
  mid : Mid z w wr wr n par cb cb ((List.range k).map q.ord)
  len : cb.length = k
  kid : ∀ j b, cb[j]? = some b → Kid wr z b (q.el j) (q.md j) (q.nm j) (q.gr j) (q.ord j)
  nodup : cb.Nodup

theorem Grove.next {z : Pl} {w wr W : World} {n k : Nat} {par : Obj} {q : TreeQ} {cb : List Nat} (h : Grove z w wr n k par q cb) {c : Nat} (hc : wr.heap.size ≤ c)
    (hm : Mid z w wr W n par (cb ++ [c]) (cb ++ [c]) ((List.range k).map q.ord ++ [q.ord k])) (hk : Kid W z c (q.el k) (q.md k) (q.nm k) (q.gr k) (q.ord k)) : Grove z w W n (k + 1) par q (cb ++ [c]) := by
  refine ⟨?_, by simp [h.len], fun j b hj => ?_, ?_⟩
  · rw [List.range_succ, List.map_append]; exact hm.again
  · by_cases e : j < cb.length
    · rw [List.getElem?_append_left e] at hj
      exact (h.kid j b hj).keep hm.keepX
    · have hj2 : j = k := by
        have h1 := (List.getElem?_eq_some_iff.1 hj).1
        have h2 := h.len
        rw [List.length_append, List.length_singleton] at h1
        omega
      subst hj2
      rw [← h.len] at hj
      simp at hj
      subst hj
      exact hk
  · rw [List.nodup_append]
    refine ⟨h.nodup, by simp, ?_⟩
    intro a ha b hb2 e
    rw [List.mem_singleton] at hb2
    subst hb2 e
    obtain ⟨j, hj⟩ := List.mem_iff_getElem?.1 ha
    obtain ⟨_, _, _, h1, _⟩ := h.kid j a hj
    have := lt_of_heap h1
    omega

end Go.Proofs.Qxb6600222a
