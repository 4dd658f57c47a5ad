import Derived.Test.Qxb6003669aClone
import Derived.Maps.Own
import Derived.Maps.Views
import Derived.Deep.AppendLies
import Derived.Deep.RegionLaw
import Derived.RegionTactic
import Derived.BigRegion
import Derived.Sort.KeysCollected
import Derived.StringKeys
namespace Go.Proofs.Qxb6003669a
open Go.RowKit Go.Maps
open Go.WideMaps (keyOf_string_mk)
open Go.Proofs.Qxb6003669a.Plain

theorem Try.info32 : (Try.prog.info? 32).map (fun i => (i.zero, i.size, i.bytes)) = some (some (.pointer none), 1, 8) := by kernel_rfl
theorem law9 : Keyed Try.prog 9 := string_keyed Try.underlying9

/-- A mode as it lies in memory. -/
def modeOf (sh : Bool) : Int := if sh then 1 else 0

/-- The holders' map: a later entry for one id stands. -/
def holders (l : List (Tx × Bool)) : DataW Unit := l.foldl (fun m p => m.put (.string p.1) (.lit (.int .i64 (modeOf p.2)))) (.map [])

theorem holders_snoc (l : List (Tx × Bool)) (t : Tx) (s : Bool) : holders (l ++ [(t, s)]) = (holders l).put (.string t) (.lit (.int .i64 (modeOf s))) := by
  simp [holders, List.foldl_append]

/-- A request's eight cells. -/
def reqCells (t : Tx) (m at_ : Int) : Array Value := #[encStr t, .string ⟨#[]⟩, .int .i64 m, .bool false, .int .u64 0, .int .i64 0, .int .i64 0, .int .i64 at_]

def ptr (b : Nat) : Value := .pointer (some ⟨b, 0, none⟩)

/-- The first loop's relation. -/
structure H1 (w wr : World) (k : Nat) (l : List (Tx × Bool)) : Prop where
  res : wr.heap[w.heap.size + 1]? = some (.cells #[.map (some w.heap.size), .slice none 0 0] 43 (0, 0))
  map : wr.ownsMap Try.prog 9 (plainElem Try.prog 44) w.heap.size k (holders l)
  bel : Below w.heap.size w wr

theorem H1.step {w wr w' : World} {k : Nat} {l : List (Tx × Bool)} (h : H1 w wr k l) {t : Tx} {s : Bool} (hm : w'.ownsMap Try.prog 9 (plainElem Try.prog 44) w.heap.size (k + 1) ((holders l).put (.string t) (.lit (.int .i64 (modeOf s)))))
    (hg : wr.drew.grownBy w' (some w.heap.size)) : H1 w w' (k + 1) (l ++ [(t, s)]) := by
  refine ⟨?_, by rw [holders_snoc]; exact hm, h.bel.drew.grown hg h.bel.size (by intro j hj; cases hj; exact Nat.le_refl _)⟩
  rw [hg.block (w.heap.size + 1) (by have := (Array.getElem?_eq_some_iff.1 h.res).1; exact this) (by simp)]
  exact h.res

theorem cell_of_block {w : World} {b j : Nat} {C : Array Value} {t : TypeId} {fr : Nat × Nat} (h : w.heap[b]? = some (.cells C t fr)) : w.cell? ⟨b, j, none⟩ = C[j]? := cell_of_row w b j C t fr h

theorem zip_take_succ (l0 : List Tx) (l1 : List Bool) (k : Nat) (h0 : k < l0.length) (h1 : k < l1.length) : (l0.zip l1).take (k + 1) = (l0.zip l1).take k ++ [(l0.getD k default, l1.getD k default)] := by
  rw [List.take_succ_eq_append_getElem (by simp; omega), List.getElem_zip, List.getD_eq_getElem?_getD, List.getElem?_eq_getElem h0, List.getD_eq_getElem?_getD, List.getElem?_eq_getElem h1]
  rfl

/-- The second loop's relation: the queue's value v, the requests' blocks rb. -/
structure H2 (w wr : World) (mn : Nat) (D : DataW Unit) (v : Value) (rb : List Nat) (qs : List (Tx × Bool)) : Prop where
  res : wr.heap[w.heap.size + 1]? = some (.cells #[.map (some w.heap.size), v] 43 (0, 0))
  map : wr.ownsMap Try.prog 9 (plainElem Try.prog 44) w.heap.size mn D
  row : wr.ownsRow (w.heap.size + 2) 32 1 v rb.length (rb.map ptr)
  len : rb.length = qs.length
  reqs : ∀ j, j < rb.length → wr.heap[rb.getD j 0]? = some (.cells (reqCells (qs.getD j default).1 (modeOf (qs.getD j default).2) 0) 47 (0, 0))
  nodup : rb.Nodup
  bel : Below w.heap.size w wr
  low : ∀ b ∈ rb, w.heap.size ≤ b

theorem H1.toH2 {w wr : World} {k : Nat} {l : List (Tx × Bool)} (h : H1 w wr k l) : H2 w wr k (holders l) (.slice none 0 0) [] [] :=
  ⟨h.res, h.map, World.ownsRow_nil _ _ _ _, rfl, fun j hj => absurd hj (by simp), List.nodup_nil, h.bel, fun b hb => by cases hb⟩

theorem row_block {w : World} {base : Nat} {e : TypeId} {v : Value} {n : Nat} {xs : List Value} (h : w.ownsRow base e 1 v n xs) {g : Nat} (hg : v.ownBlock = some g) : base ≤ g ∧ g < w.heap.size ∧ ∃ cur, w.heap[g]? = some (.cells cur e (0, 0)) := by
  refine ⟨(h.lt g hg).1, (h.lt g hg).2, ?_⟩
  rcases h.2 with ⟨h0, _⟩ | ⟨g', cap, cur, hv, _, hb, _⟩
  · rw [h0] at hg; cases hg
  · rw [hv] at hg
    have : g' = g := by simpa [Value.ownBlock] using hg
    subst this
    exact ⟨cur, hb⟩

theorem news_one {W : World} {b : Nat} {x : Value} {e : TypeId} (h : W.heap[b]? = some (.cells #[x] e (0, 0))) : ∀ j u, [x][j]? = some u → W.cell? ((⟨b, 0, none⟩ : Addr).add j) = some u := by
  intro j u hu
  have hj : j = 0 := by
    have := (List.getElem?_eq_some_iff.1 hu).1
    simpa using this
  subst hj
  have : x = u := by simpa using hu
  subst this
  show W.cell? ⟨b, 0, none⟩ = some x
  rw [cell_of_row W b 0 _ e (0, 0) h]
  rfl

/-- What stands behind the append of one request, ahead of the store. -/
structure Pushed (w w1 : World) (mn : Nat) (D : DataW Unit) (v v' : Value) (rb : List Nat) (qs : List (Tx × Bool)) (r : Nat) (p : Tx × Bool) : Prop where
  old : w1.cell? ⟨w.heap.size + 1, 1, none⟩ = some v
  free : w1.frozen? ⟨w.heap.size + 1, 1, none⟩ = false
  next : H2 w (w1.setCell ⟨w.heap.size + 1, 1, none⟩ v') mn D v' (rb ++ [r]) (qs ++ [p])

theorem H2.push {w wr W w1 : World} {mn : Nat} {D : DataW Unit} {v v' : Value} {rb : List Nat} {qs : List (Tx × Bool)} (h : H2 w wr mn D v rb qs) {t : Tx} {s : Bool}
    (hb : Below wr.heap.size wr W) (hR : W.heap[wr.heap.size]? = some (.cells (reqCells t (modeOf s) 0) 47 (0, 0)))
    (hown : w1.ownsRow (w.heap.size + 2) 32 1 v' (rb.length + 1) (rb.map ptr ++ [ptr wr.heap.size])) (hg : W.grownBy w1 v.ownBlock) : Pushed w w1 mn D v v' rb qs wr.heap.size (t, s) := by
  have hgW : wr.grownBy W none := ⟨hb.os, hb.tape, hb.output, hb.size, fun k hk _ => hb.block k hk⟩
  have hlow : ∀ g, v.ownBlock = some g → w.heap.size + 2 ≤ g := fun g e => (row_block h.row e).1
  have hp : w.heap.size + 1 < wr.heap.size := (Array.getElem?_eq_some_iff.1 h.res).1
  have hsz := hb.size
  have hne : ∀ b, b < w.heap.size + 2 → some b ≠ v.ownBlock := fun b hb2 e => by have := hlow b e.symm; omega
  have keep : ∀ b, b < wr.heap.size → some b ≠ v.ownBlock → w1.heap[b]? = wr.heap[b]? := fun b h1 h2 => (hg.block b (by omega) h2).trans (hb.block b h1)
  have hres : w1.heap[w.heap.size + 1]? = some (.cells #[.map (some w.heap.size), v] 43 (0, 0)) := (keep _ hp (hne _ (by omega))).trans h.res
  have hset : w1.grownBy (w1.setCell ⟨w.heap.size + 1, 1, none⟩ v') (some (w.heap.size + 1)) := ⟨rfl, rfl, rfl, by simp, fun k _ hk => heap_setCell_other w1 ⟨w.heap.size + 1, 1, none⟩ k v' (fun e => hk (by simp [e]))⟩
  refine ⟨by rw [cell_of_row w1 _ 1 _ 43 (0, 0) hres]; rfl, frozen_of_row w1 _ 1 _ 43 hres, ?_⟩
  refine ⟨?_, ?_, ?_, by simp [h.len], ?_, ?_, ?_, ?_⟩
  · have := heap_setCell_same w1 (w.heap.size + 1) 1 #[.map (some w.heap.size), v] 43 v' hres
    simpa using this
  · exact ((h.map.kept hgW (by simp)).kept hg (hne _ (by omega))).kept hset (by simp)
  · have := ownsRow_setCell_below hown (a := ⟨w.heap.size + 1, 1, none⟩) (by simp) v'
    simpa using this
  · intro j hj
    simp only [List.length_append, List.length_singleton] at hj
    by_cases e : j < rb.length
    · rw [List.getD_eq_getElem?_getD, List.getElem?_append_left e, ← List.getD_eq_getElem?_getD, List.getD_eq_getElem?_getD (l := qs ++ _), List.getElem?_append_left (by rw [← h.len]; exact e), ← List.getD_eq_getElem?_getD]
      have hj2 := h.reqs j e
      have hlt := (Array.getElem?_eq_some_iff.1 hj2).1
      have hne2 : rb.getD j 0 ≠ w.heap.size + 1 := by
        intro e2
        rw [e2, h.res] at hj2
        simp at hj2
      have hne3 : some (rb.getD j 0) ≠ v.ownBlock := by
        intro e3
        obtain ⟨_, _, cur, hcur⟩ := row_block h.row e3.symm
        rw [hj2] at hcur
        simp at hcur
      rw [heap_setCell_other w1 ⟨w.heap.size + 1, 1, none⟩ _ v' (by simpa using fun e => hne2 e), keep _ hlt hne3]
      exact hj2
    · have ej : j = rb.length := by omega
      subst ej
      have e1 : (rb ++ [wr.heap.size]).getD rb.length 0 = wr.heap.size := by simp
      have e2 : (qs ++ [(t, s)]).getD rb.length default = (t, s) := by rw [h.len]; simp
      rw [e1, e2]
      have hne3 : some wr.heap.size ≠ v.ownBlock := fun e => by have := (row_block h.row e.symm).2.1; omega
      rw [heap_setCell_other w1 ⟨w.heap.size + 1, 1, none⟩ _ v' (by simp; omega), hg.block _ (Array.getElem?_eq_some_iff.1 hR).1 hne3]
      exact hR
  · rw [List.nodup_append]
    refine ⟨h.nodup, by simp, ?_⟩
    intro a ha b hb2 e
    rw [List.mem_singleton] at hb2
    subst hb2 e
    obtain ⟨j, hj, e⟩ := List.mem_iff_getElem.1 ha
    have hj2 := h.reqs j hj
    rw [List.getD_eq_getElem?_getD, List.getElem?_eq_getElem hj] at hj2
    simp only [Option.getD_some, e] at hj2
    have := (Array.getElem?_eq_some_iff.1 hj2).1
    omega
  · exact ((h.bel.trans (hb.mono h.bel.size)).grown hg (by have := h.bel.size; omega) (fun k e => by have := hlow k e; omega)).setCell (by simp) _
  · intro b hb2
    rcases List.mem_append.1 hb2 with hb3 | hb3
    · exact h.low b hb3
    · rw [List.mem_singleton] at hb3
      subst hb3
      exact h.bel.size

theorem new_below1 (wr : World) (R : Obj) : Below wr.heap.size wr (wr.alloc R) := (Below.refl _ wr).alloc (Nat.le_refl _) _
theorem new_below (wr : World) (R S : Obj) : Below wr.heap.size wr ((wr.alloc R).alloc S) := ((Below.refl _ wr).alloc (Nat.le_refl _) _).alloc (by simp) _
theorem new_first (wr : World) (R S : Obj) : ((wr.alloc R).alloc S).heap[wr.heap.size]? = some R := by
  show ((wr.heap.push R).push S)[wr.heap.size]? = some R
  rw [Array.getElem?_push, if_neg (by simp), Array.getElem?_push, if_pos rfl]
theorem new_last (wr : World) (R S : Obj) : ((wr.alloc R).alloc S).heap[wr.heap.size + 1]? = some S := by
  show ((wr.heap.push R).push S)[wr.heap.size + 1]? = some S
  rw [Array.getElem?_push, if_pos (by simp)]

/-- The append of one request, as one step of the region that draws its order. -/
theorem push_law {ops : Array Oper} {o : Oper} {a : Act} {K : Act → World → Prop} {Q : Exit → Act → World → Prop} {E : Prop} (hgd : o.guard = none)
    (ho : o.op = .call { callee := .builtin .append, args := #[.tmp 62, .tmp 70], argTypes := #[41, 41] })
    {w wr : World} {mn : Nat} {D : DataW Unit} {v : Value} {rb : List Nat} {qs : List (Tx × Bool)} {t : Tx} (s : Bool)
    (hs : a.eval (.tmp 62) = v) (hx : a.eval (.tmp 70) = .slice (some ⟨wr.heap.size + 1, 0, none⟩) 1 1) (h : H2 w wr mn D v rb qs) (hrb : rb.length ≤ 65536)
    (hK : ∀ g cap w1, Pushed w w1 mn D v (.slice (some ⟨g, 0, none⟩) (rb.length + 1) cap) rb qs wr.heap.size (t, s) → K (a.put o.dst (.slice (some ⟨g, 0, none⟩) (rb.length + 1) cap)) w1) :
    if Region.wanted o (yielded ops a.tmps) = true then Oper.wp Try.prog o a ((wr.alloc (.cells (reqCells t (modeOf s) 0) 47)).alloc (.cells #[ptr wr.heap.size] 32)).drew K Q else E := by
  obtain ⟨i0, hi, hz0, hz1, hz2⟩ := info_parts Try.info32
  have hp : w.heap.size + 1 < wr.heap.size := (Array.getElem?_eq_some_iff.1 h.res).1
  have hrow : ((wr.alloc (.cells (reqCells t (modeOf s) 0) 47)).alloc (.cells #[ptr wr.heap.size] 32)).drew.ownsRow (w.heap.size + 2) 32 1 v rb.length (rb.map ptr) := (h.row.alloc _).alloc _
  have hnew : ((wr.alloc (.cells (reqCells t (modeOf s) 0) 47)).alloc (.cells #[ptr wr.heap.size] 32)).drew.heap[wr.heap.size + 1]? = some (.cells #[ptr wr.heap.size] 32 (0, 0)) := new_last wr _ _
  have hfst : ((wr.alloc (.cells (reqCells t (modeOf s) 0) 47)).alloc (.cells #[ptr wr.heap.size] 32)).drew.heap[wr.heap.size]? = some (.cells (reqCells t (modeOf s) 0) 47 (0, 0)) := new_first wr _ _
  have hbel : Below wr.heap.size wr ((wr.alloc (.cells (reqCells t (modeOf s) 0) 47)).alloc (.cells #[ptr wr.heap.size] 32)).drew := (new_below wr _ _).drew
  refine step_append_lies _ hgd (.tmp 62) (.tmp 70) 41 ho (w.heap.size + 2) 32 i0 (.pointer none) 1 8 Try.underlying41 hi hz0 hz1 hz2 rfl (by decide) v rb.length (rb.map ptr) hs hrow ⟨wr.heap.size + 1, 0, none⟩ 1 1 [ptr wr.heap.size] hx rfl (news_one hnew) ?_ (by omega) ?_ ?_ ?_ _ rfl ?_
  · intro u hu; rw [List.mem_singleton] at hu; subst hu; rfl
  · unfold maxLen; omega
  · omega
  · have := hbel.size; omega
  · intro g cap w1 hown hgrow _ _
    exact hK g cap w1 (h.push hbel hfst hown hgrow)

theorem H1.start (w : World) : H1 w ((w.alloc (.map #[] 0)).alloc (.cells #[.map (some w.heap.size), .slice none 0 0] 43)) 0 [] := by
  have e : (w.alloc (.map #[] 0)).heap.size = w.heap.size + 1 := by show (w.heap.push _).size = _; simp
  refine ⟨?_, (World.ownsMap_made w _ _ _).alloc _, ((Below.refl _ w).alloc (Nat.le_refl _) _).alloc (by omega) _⟩
  have := heap_alloc_new (w.alloc (.map #[] 0)) (.cells #[.map (some w.heap.size), .slice none 0 0] 43)
  rw [e] at this
  exact this

/-- What 'ZZNewResource' leaves: a resource at block w.heap.size + 1. -/
def Made (w w' : World) (n : Nat) (D : DataW Unit) (qs : List (Tx × Bool)) : Prop := ∃ v rb, H2 w w' n D v rb qs

set_option maxHeartbeats 4000000 in
set_option maxRecDepth 100000 in
theorem new_any (a0 a1 a2 a3 : Option Addr) (n m c0 c1 c2 c3 : Nat) (l0 l2 : List Tx) (l1 l3 : List Bool) (w : World)
    (h0 : SV encStr w a0 n c0 l0) (h1 : SV Value.bool w a1 n c1 l1) (h2 : SV encStr w a2 m c2 l2) (h3 : SV Value.bool w a3 m c3 l3) (hn : n ≤ 65536) (hm : m ≤ 65536) (hb : ∀ x ∈ l0, x.length ≤ maxLen) :
    Calls Try.prog 12 #[.slice a0 n c0, .slice a1 n c1, .slice a2 m c2, .slice a3 m c3] w fun e w' => e = .returned (ptr (w.heap.size + 1)) ∧ Made w w' n (holders (l0.zip l1)) (l2.zip l3) := by
  have A0 : Hid (SV encStr w a0 n c0 l0) := h0
  have A1 : Hid (SV Value.bool w a1 n c1 l1) := h1
  have A2 : Hid (SV encStr w a2 m c2 l2) := h2
  have A3 : Hid (SV Value.bool w a3 m c3 l3) := h3
  have HBd : Hid (∀ x ∈ l0, x.length ≤ maxLen) := hb
  clear h0 h1 h2 h3 hb
  obtain ⟨i0, hi, hz0, hz1, hz2⟩ := info_parts Try.info32
  have hmm := @run_makeMap Try.prog
  go_enter Try.func12, Try.ntmps12
  go_wp2
  go_loopw [10] (fun i wr => ∃ k : Nat, k ≤ n ∧ i = .int .i64 k ∧ H1 w wr k ((l0.zip l1).take k)) (fun i _ => n - (intOf i).toNat)
  case atStart => exact ⟨0, by omega, rfl, H1.start w⟩
  case round =>
    obtain ⟨k, hk, rfl, hH⟩ := hrel
    by_cases hlt : k < n
    · obtain ⟨b0, o0, t, ea0, hc0, HT⟩ := A0.out.at k hlt
      obtain ⟨b1, o1, s, ea1, hc1, HS⟩ := A1.out.at k hlt
      have hlt' : (k : Int) < (n : Int) := by omega
      have hx0 : wr.cell? ⟨b0, o0 + k, none⟩ = some (encStr t) := (hH.bel.cell (World.block_lt_of_cell? _ _ hc0)).trans hc0
      have hx1 : wr.cell? ⟨b1, o1 + k, none⟩ = some (.bool s) := (hH.bel.cell (World.block_lt_of_cell? _ _ hc1)).trans hc1
      have hr0 : wr.cell? ⟨w.heap.size + 1, 0, none⟩ = some (.map (some w.heap.size)) := cell_of_block hH.res
      have HZ : Hid ((l0.zip l1).take (k + 1) = (l0.zip l1).take k ++ [(t, s)]) := by
        rw [← HT.out, ← HS.out]
        exact zip_take_succ l0 l1 k (by rw [A0.out.len]; exact hlt) (by rw [A1.out.len]; exact hlt)
      have HHH : Hid (H1 w wr k ((l0.zip l1).take k)) := hH
      have htl : Hid (t.length ≤ maxLen) := HBd.out t (by rw [← HT.out, List.getD_eq_getElem?_getD, List.getElem?_eq_getElem (by rw [A0.out.len]; exact hlt)]; exact List.getElem_mem _)
      obtain ⟨w2, hrun, hown2, hgrow2⟩ := hH.map.drew.update law9 Try.underlying40 (by unfold maxLen; omega) (keyOf_string_mk Try.underlying9 (s := ⟨t.toArray⟩) (by exact htl.out)) (plainElem_int Try.underlying44 (a := modeOf s) (by cases s <;> decide))
      have HN : Hid (H1 w w2 (k + 1) ((l0.zip l1).take (k + 1))) := by rw [HZ.out]; exact HHH.out.step hown2 hgrow2
      clear hH hc0 hc1 hown2 hgrow2 HHH
      subst ea0 ea1
      cases s with
      | true =>
        have hrun' : (Instr.mapUpdate 40 (.map (some w.heap.size)) (encStr t) (.int .i64 1)).run Try.prog wr.drew = .ok () w2 := hrun
        clear hrun
        go_wp2
        go_region
        go_wp2
        go_roundw
        case rel => exact ⟨k + 1, by omega, by go_num, HN.out⟩
        case measure => simp [intOf]; omega
      | false =>
        have hrun' : (Instr.mapUpdate 40 (.map (some w.heap.size)) (encStr t) (.int .i64 0)).run Try.prog wr.drew = .ok () w2 := hrun
        clear hrun
        go_wp2
        go_region
        go_wp2
        go_roundw
        case rel => exact ⟨k + 1, by omega, by go_num, HN.out⟩
        case measure => simp [intOf]; omega
    · have HE : Hid (H1 w wr n (l0.zip l1)) := by
        have e : k = n := by omega
        subst e
        rw [List.take_of_length_le (by rw [List.length_zip, A0.out.len, A1.out.len]; omega)] at hH
        exact hH
      clear hH
      go_wp2
      go_loopw [12] (fun i wr => ∃ k : Nat, k ≤ m ∧ i = .int .i64 k ∧ ∃ v rb, H2 w wr n (holders (l0.zip l1)) v rb ((l2.zip l3).take k)) (fun i _ => m - (intOf i).toNat)
      case atStart => exact ⟨0, by omega, rfl, _, _, HE.out.toH2⟩
      case round =>
        clear hmm
        obtain ⟨k2, hk2, rfl, v, rb, hQ⟩ := hrel
        by_cases hlt2 : k2 < m
        · obtain ⟨b2, o2, t, ea2, hc2, HT⟩ := A2.out.at k2 hlt2
          obtain ⟨b3, o3, s, ea3, hc3, HS⟩ := A3.out.at k2 hlt2
          have hlt2' : (k2 : Int) < (m : Int) := by omega
          have hx2 : wr.cell? ⟨b2, o2 + k2, none⟩ = some (encStr t) := (hQ.bel.cell (World.block_lt_of_cell? _ _ hc2)).trans hc2
          have hx3 : wr.cell? ⟨b3, o3 + k2, none⟩ = some (.bool s) := (hQ.bel.cell (World.block_lt_of_cell? _ _ hc3)).trans hc3
          have hr1 : wr.cell? ⟨w.heap.size + 1, 1, none⟩ = some v := cell_of_block hQ.res
          have hr1a : ∀ o, (wr.alloc o).cell? ⟨w.heap.size + 1, 1, none⟩ = some v := fun o => ((new_below1 wr o).cell (World.block_lt_of_cell? _ _ hr1)).trans hr1
          have hr1b : ∀ o o2, ((wr.alloc o).alloc o2).cell? ⟨w.heap.size + 1, 1, none⟩ = some v := fun o o2 => ((new_below wr o o2).cell (World.block_lt_of_cell? _ _ hr1)).trans hr1
          have HZ : Hid ((l2.zip l3).take (k2 + 1) = (l2.zip l3).take k2 ++ [(t, s)]) := by
            rw [← HT.out, ← HS.out]
            exact zip_take_succ l2 l3 k2 (by rw [A2.out.len]; exact hlt2) (by rw [A3.out.len]; exact hlt2)
          have HQ : Hid (H2 w wr n (holders (l0.zip l1)) v rb ((l2.zip l3).take k2)) := hQ
          have hrb : rb.length ≤ k2 := by rw [hQ.len, List.length_take]; omega
          have HPos : Hid (w.heap.size + 1 < wr.heap.size) := (Array.getElem?_eq_some_iff.1 hQ.res).1
          clear hQ hc2 hc3
          subst ea2 ea3
          cases s with
          | true =>
            go_wp2
            go_region_law (refine push_law rfl rfl true rfl rfl HQ.out (by omega) ?_; intro g cap w1 HP; have hc1 := HP.old; have hf1 := HP.free; have HN : Hid (H2 w (w1.setCell ⟨w.heap.size + 1, 1, none⟩ (.slice (some ⟨g, 0, none⟩) (rb.length + 1) cap)) n (holders (l0.zip l1)) (.slice (some ⟨g, 0, none⟩) (rb.length + 1) cap) (rb ++ [wr.heap.size]) ((l2.zip l3).take (k2 + 1))) := (by rw [HZ.out]; exact HP.next); clear HP)
            all_goals
              go_wp2
              go_roundw
              case rel => exact ⟨k2 + 1, by omega, by go_num, _, _, HN.out⟩
              case measure => simp [intOf]; omega
          | false =>
            go_wp2
            go_region_law (refine push_law rfl rfl false rfl rfl HQ.out (by omega) ?_; intro g cap w1 HP; have hc1 := HP.old; have hf1 := HP.free; have HN : Hid (H2 w (w1.setCell ⟨w.heap.size + 1, 1, none⟩ (.slice (some ⟨g, 0, none⟩) (rb.length + 1) cap)) n (holders (l0.zip l1)) (.slice (some ⟨g, 0, none⟩) (rb.length + 1) cap) (rb ++ [wr.heap.size]) ((l2.zip l3).take (k2 + 1))) := (by rw [HZ.out]; exact HP.next); clear HP)
            all_goals
              go_wp2
              go_roundw
              case rel => exact ⟨k2 + 1, by omega, by go_num, _, _, HN.out⟩
              case measure => simp [intOf]; omega
        · have HE2 : Hid (Made w wr n (holders (l0.zip l1)) (l2.zip l3)) := by
            rw [List.take_of_length_le (by rw [List.length_zip, A2.out.len, A3.out.len]; omega)] at hQ
            exact ⟨v, rb, hQ⟩
          clear hQ
          go_wp2
          go_ret
          exact ⟨rfl, HE2.out⟩
end Go.Proofs.Qxb6003669a
