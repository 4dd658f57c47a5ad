import Derived.Test.Qxb6003669aNew
namespace Go.Proofs.Qxb6003669a
open Go.RowKit Go.Maps
open Go.Proofs.Qxb6003669a.Plain

/-- H2 with the first k requests numbered. -/
structure H3 (w wr : World) (mn : Nat) (D : DataW Unit) (v : Value) (rb : List Nat) (qs : List (Tx × Bool)) (k : Nat) : Prop where
  res : wr.heap[w.heap.size + 1]? = some (.cells #[.map (some w.heap.size), v] 43 (0, 0))
  map : wr.ownsMap Try.prog 9 (plainElem Try.prog 44) w.heap.size mn D
  row : wr.ownsRow (w.heap.size + 2) 32 1 v rb.length (rb.map ptr)
  len : rb.length = qs.length
  reqs : ∀ j, j < rb.length → wr.heap[rb.getD j 0]? = some (.cells (reqCells (qs.getD j default).1 (modeOf (qs.getD j default).2) (if j < k then (j : Int) else 0)) 47 (0, 0))
  nodup : rb.Nodup
  bel : Below w.heap.size w wr
  low : ∀ b ∈ rb, w.heap.size ≤ b

theorem H2.toH3 {w wr : World} {mn : Nat} {D : DataW Unit} {v : Value} {rb : List Nat} {qs : List (Tx × Bool)} (h : H2 w wr mn D v rb qs) : H3 w wr mn D v rb qs 0 :=
  ⟨h.res, h.map, h.row, h.len, fun j hj => by simpa using h.reqs j hj, h.nodup, h.bel, h.low⟩

theorem getD_mem (rb : List Nat) (j : Nat) (hj : j < rb.length) : rb.getD j 0 ∈ rb := by
  rw [List.getD_eq_getElem?_getD, List.getElem?_eq_getElem hj]
  exact List.getElem_mem hj

theorem getD_inj {rb : List Nat} (hn : rb.Nodup) {i j : Nat} (hi : i < rb.length) (hj : j < rb.length) (e : rb.getD i 0 = rb.getD j 0) : i = j := by
  rw [List.getD_eq_getElem?_getD, List.getElem?_eq_getElem hi, List.getD_eq_getElem?_getD, List.getElem?_eq_getElem hj] at e
  exact (List.getElem_inj hn).1 e

theorem H3.step {w wr : World} {mn : Nat} {D : DataW Unit} {v : Value} {rb : List Nat} {qs : List (Tx × Bool)} {k : Nat} (h : H3 w wr mn D v rb qs k) (hk : k < rb.length) :
    H3 w (wr.setCell ⟨rb.getD k 0, 7, none⟩ (.int .i64 (k : Int))) mn D v rb qs (k + 1) := by
  have hr := h.reqs k hk
  have hne1 : w.heap.size + 1 ≠ rb.getD k 0 := by
    intro e
    rw [← e, h.res] at hr
    simp at hr
  have hset : wr.grownBy (wr.setCell ⟨rb.getD k 0, 7, none⟩ (.int .i64 (k : Int))) (some (rb.getD k 0)) := ⟨rfl, rfl, rfl, by simp, fun j _ hj => heap_setCell_other wr ⟨rb.getD k 0, 7, none⟩ j _ (fun e => hj (by simp [e]))⟩
  refine ⟨?_, ?_, ?_, h.len, ?_, h.nodup, h.bel.setCell (h.low _ (getD_mem rb k hk)) _, h.low⟩
  · rw [hset.block _ (Array.getElem?_eq_some_iff.1 h.res).1 (by simpa using hne1)]; exact h.res
  · refine h.map.kept hset ?_
    intro e
    have e2 : w.heap.size = rb.getD k 0 := by simpa using e
    obtain ⟨es, clock, hb, _⟩ := h.map
    rw [← e2, hb] at hr
    cases hr
  · refine h.row.kept hset (.inr ?_)
    intro e
    obtain ⟨_, _, cur, hcur⟩ := row_block h.row e
    rw [hr] at hcur
    simp at hcur
  · intro j hj
    by_cases e : j = k
    · subst e
      have := heap_setCell_same wr (rb.getD j 0) 7 _ 47 (.int .i64 (j : Int)) hr
      rw [this, if_pos (show j < j + 1 by omega)]
      simp [reqCells]
    · rw [hset.block _ (Array.getElem?_eq_some_iff.1 (h.reqs j hj)).1 (by simpa using fun e2 => e (getD_inj h.nodup hj hk e2)), h.reqs j hj]
      by_cases e2 : j < k
      · rw [if_pos e2, if_pos (by omega)]
      · rw [if_neg e2, if_neg (by omega)]

theorem H3.queue {w wr : World} {mn : Nat} {D : DataW Unit} {v : Value} {rb : List Nat} {qs : List (Tx × Bool)} {k : Nat} (h : H3 w wr mn D v rb qs k) :
    ∃ a cap, v = .slice a rb.length cap ∧ SV ptr wr a rb.length cap rb := by
  rcases h.row.2 with ⟨hv, h0⟩ | ⟨g, cap, cur, hv, hbase, hb, hnc, hcm, hcs, htake⟩
  · refine ⟨none, 0, by rw [h0]; exact hv, rfl, by omega, by unfold maxLen; omega, fun _ => ⟨h0, rfl⟩, fun hp => by omega⟩
  · subst hv
    refine ⟨some ⟨g, 0, none⟩, cap, rfl, rfl, by simpa using hnc, hcm, (fun e => by cases e), fun _ => ⟨g, 0, rfl, fun j hj => ?_⟩⟩
    rw [Nat.zero_add, World.ownsRow.cellAt h.row j (by omega), List.getElem?_map, List.getElem?_eq_getElem hj, List.getD_eq_getElem?_getD, List.getElem?_eq_getElem hj]
    rfl

/-- A RESOURCE IN MEMORY, read: block p; the holders' map D; the queue qs, numbered. -/
structure Res (w : World) (p bm mn : Nat) (D : DataW Unit) (a : Option Addr) (cap : Nat) (rb : List Nat) (qs : List (Tx × Bool)) : Prop where
  c0 : w.cell? ⟨p, 0, none⟩ = some (.map (some bm))
  map : w.ownsMap Try.prog 9 (plainElem Try.prog 44) bm mn D
  c1 : w.cell? ⟨p, 1, none⟩ = some (.slice a qs.length cap)
  queue : SV ptr w a qs.length cap rb
  txn : ∀ j, j < qs.length → w.cell? ⟨rb.getD j default, 0, none⟩ = some (encStr (qs.getD j default).1)
  mode : ∀ j, j < qs.length → w.cell? ⟨rb.getD j default, 2, none⟩ = some (.int .i64 (modeOf (qs.getD j default).2))
  at_ : ∀ j, j < qs.length → w.cell? ⟨rb.getD j default, 7, none⟩ = some (.int .i64 (j : Int))

theorem later {w w' : World} {a : Addr} {v : Value} (hb : Below w.heap.size w w') (h : w.cell? a = some v) : w'.cell? a = some v := (hb.cell (World.block_lt_of_cell? _ _ h)).trans h

theorem Res.below {w w' : World} {p bm mn : Nat} {D : DataW Unit} {a : Option Addr} {cap : Nat} {rb : List Nat} {qs : List (Tx × Bool)} (h : Res w p bm mn D a cap rb qs) (hb : Below w.heap.size w w') : Res w' p bm mn D a cap rb qs := by
  have hg : w.grownBy w' none := ⟨hb.os, hb.tape, hb.output, hb.size, fun k hk _ => hb.block k hk⟩
  exact ⟨later hb h.c0, h.map.kept hg (by simp), later hb h.c1, h.queue.below hb, fun j hj => later hb (h.txn j hj), fun j hj => later hb (h.mode j hj), fun j hj => later hb (h.at_ j hj)⟩

theorem H3.toRes {w wr : World} {mn : Nat} {D : DataW Unit} {v : Value} {rb : List Nat} {qs : List (Tx × Bool)} (h : H3 w wr mn D v rb qs rb.length) :
    ∃ a cap, Res wr (w.heap.size + 1) w.heap.size mn D a cap rb qs := by
  obtain ⟨a, cap, hv, hq⟩ := h.queue
  subst hv
  refine ⟨a, cap, ?_, h.map, ?_, by rw [← h.len]; exact hq, ?_, ?_, ?_⟩
  · rw [cell_of_row wr _ 0 _ 43 (0, 0) h.res]; rfl
  · rw [cell_of_row wr _ 1 _ 43 (0, 0) h.res, ← h.len]; rfl
  · intro j hj
    rw [← h.len] at hj
    have := h.reqs j hj
    rw [if_pos hj] at this
    rw [show rb.getD j default = rb.getD j 0 from rfl, cell_of_row wr _ 0 _ 47 (0, 0) this]; rfl
  · intro j hj
    rw [← h.len] at hj
    have := h.reqs j hj
    rw [if_pos hj] at this
    rw [show rb.getD j default = rb.getD j 0 from rfl, cell_of_row wr _ 2 _ 47 (0, 0) this]; rfl
  · intro j hj
    rw [← h.len] at hj
    have := h.reqs j hj
    rw [if_pos hj] at this
    rw [show rb.getD j default = rb.getD j 0 from rfl, cell_of_row wr _ 7 _ 47 (0, 0) this]; rfl

/-- What 'ZZNewResource' and 'ZZNumber' together leave of the world w. -/
def Ready (w w' : World) (mn : Nat) (D : DataW Unit) (qs : List (Tx × Bool)) : Prop := Below w.heap.size w w' ∧ ∃ a cap rb, Res w' (w.heap.size + 1) w.heap.size mn D a cap rb qs

set_option maxHeartbeats 1000000 in
theorem number_any (w wm : World) (mn : Nat) (D : DataW Unit) (qs : List (Tx × Bool)) (h : Made w wm mn D qs) (hq : qs.length ≤ 65536) :
    Calls Try.prog 25 #[ptr (w.heap.size + 1), .int .i64 0] wm fun e w' => e = .returned (.tuple #[]) ∧ Ready w w' mn D qs := by
  obtain ⟨v, rb, h2⟩ := h
  have h3 := h2.toH3
  have hlen := h3.len
  have HS : Hid (H3 w wm mn D v rb qs 0) := h3
  clear h2 h3
  unfold ptr
  have hrl : rb.length ≤ 65536 := by omega
  clear hlen
  obtain ⟨a, cap, hv, _⟩ := HS.out.queue
  subst hv
  go_enter Try.func25, Try.ntmps25
  go_wp2
  go_loopw [4] (fun i wr => ∃ k : Nat, k ≤ rb.length ∧ i = .int .i64 k ∧ H3 w wr mn D (.slice a rb.length cap) rb qs k) (fun i _ => rb.length - (intOf i).toNat)
  case atStart => exact ⟨0, by omega, rfl, HS.out⟩
  case round =>
    obtain ⟨k, hk, rfl, hH⟩ := hrel
    have hr1 : wr.cell? ⟨w.heap.size + 1, 1, none⟩ = some (.slice a rb.length cap) := cell_of_block hH.res
    by_cases hlt : k < rb.length
    · have hlt' : (k : Int) < (rb.length : Int) := by omega
      obtain ⟨a2, cap2, hv2, hsv⟩ := hH.queue
      obtain ⟨g, o, x, ea, hcx, HX⟩ := hsv.at k hlt
      have ea' : a = some ⟨g, o, none⟩ := by simp only [Value.slice.injEq] at hv2; rw [hv2.1]; exact ea
      have hxe : rb.getD k 0 = x := HX.out
      have hreq := hH.reqs k hlt
      have hst := hH.step hlt
      rw [hxe] at hreq hst
      have hold : wr.cell? ⟨x, 7, none⟩ = some (.int .i64 (if k < k then (k : Int) else 0)) := by rw [cell_of_row wr _ 7 _ 47 (0, 0) hreq]; rfl
      have hfr : wr.frozen? ⟨x, 7, none⟩ = false := frozen_of_row wr _ 7 _ 47 hreq
      have HN : Hid (H3 w (wr.setCell ⟨x, 7, none⟩ (.int .i64 (k : Int))) mn D (.slice a rb.length cap) rb qs (k + 1)) := hst
      unfold ptr at hcx
      generalize (if k < k then (k : Int) else 0) = z at hold
      clear hreq hst hxe HX hsv hv2 ea hH
      subst ea'
      go_wp2
      go_roundw
      case rel => exact ⟨k + 1, by omega, by go_num, HN.out⟩
      case measure => simp [intOf]; omega
    · have HE : Hid (Ready w wr mn D qs) := by
        have e : k = rb.length := by omega
        subst e
        obtain ⟨a2, cap2, hres⟩ := hH.toRes
        exact ⟨hH.bel, a2, cap2, rb, hres⟩
      clear hH
      go_wp2
      go_end0
      exact ⟨rfl, HE.out⟩

theorem zznumber_any (w wm : World) (mn : Nat) (D : DataW Unit) (qs : List (Tx × Bool)) (h : Made w wm mn D qs) (hq : qs.length ≤ 65536) :
    Calls Try.prog 13 #[ptr (w.heap.size + 1), .int .i64 0] wm fun e w' => e = .returned (.tuple #[]) ∧ Ready w w' mn D qs := by
  have H : Hid (Made w wm mn D qs) := h
  clear h
  go_enter Try.func13, Try.ntmps13
  go_wp2_with (go_at_call 25; refine (number_any w _ mn D qs H.out hq).mono ?_; rintro e w' ⟨rfl, HR⟩; have HR' : Hid (Ready w w' mn D qs) := HR; clear HR)
  go_end0
  exact ⟨rfl, HR'.out⟩

/-- 'ZZQueueAt'. -/
theorem queueAt_any (w : World) (p bm mn : Nat) (D : DataW Unit) (a : Option Addr) (cap : Nat) (rb : List Nat) (qs : List (Tx × Bool)) (h : Res w p bm mn D a cap rb qs) (i : Nat) (hi : i < qs.length) :
    Calls Try.prog 14 #[ptr p, .int .i64 i] w fun e w' => e = .returned (ptr (rb.getD i default)) ∧ w' = w := by
  have h1 := h.c1
  obtain ⟨g, o, x, ea, hcx, HX⟩ := h.queue.at i hi
  subst ea
  have hi' : (i : Int) < (qs.length : Int) := by omega
  clear h
  unfold ptr at *
  go_enter Try.func14, Try.ntmps14
  go_wp2
  go_ret
  exact ⟨by rw [HX.out]; rfl, rfl⟩

theorem compat_any (x y : Int) (w : World) : Calls Try.prog 29 #[.int .i64 x, .int .i64 y] w fun e w' => e = .returned (.bool (compat x y)) ∧ w' = w := by
  unfold compat
  by_cases h : x = 1
  · subst h
    go_enter Try.func29, Try.ntmps29
    go_wp2
    go_ret
    exact ⟨by simp, rfl⟩
  · have h' : (x == 1) = false := beq_eq_false_iff_ne.2 h
    rw [h']
    go_enter Try.func29, Try.ntmps29
    go_wp2
    go_ret
    exact ⟨by simp, rfl⟩
end Go.Proofs.Qxb6003669a
