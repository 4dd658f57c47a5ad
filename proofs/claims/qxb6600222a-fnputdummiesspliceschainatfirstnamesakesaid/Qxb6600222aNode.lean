import Derived.Test.Qxb6600222aClone
import Derived.Deep.AppendLies
import Derived.Deep.RegionLaw
import Derived.RegionTactic
import Derived.BigRegion
namespace Go.Proofs.Qxb6600222a
open Go.RowKit

def ptr (b : Nat) : Value := .pointer (some ⟨b, 0, none⟩)

/-- World w' is w with the block b set, or new blocks made. -/
structure Turned (w w' : World) (b : Nat) (o : Obj) : Prop where
  grown : w.grownBy w' (some b)
  at_ : w'.heap[b]? = some o

theorem Turned.other {w w' : World} {b : Nat} {o x : Obj} (h : Turned w w' b o) {c : Nat} (hc : w.heap[c]? = some x) (hne : c ≠ b) : w'.heap[c]? = some x :=
  (h.grown.block c (Array.getElem?_eq_some_iff.1 hc).1 (by simpa using hne)).trans hc

theorem lt_of_heap {w : World} {c : Nat} {x : Obj} (hc : w.heap[c]? = some x) : c < w.heap.size := (Array.getElem?_eq_some_iff.1 hc).1

theorem turned_alloc (w : World) (o : Obj) : Turned w (w.alloc o) w.heap.size o :=
  ⟨⟨rfl, rfl, rfl, by show _ ≤ (w.heap.push o).size; simp, fun k hk _ => Below.heap_alloc w o k hk⟩, heap_alloc_new w o⟩

theorem turned_set (w : World) (b j : Nat) (C : Array Value) (t : TypeId) (v : Value) (h : w.heap[b]? = some (.cells C t (0, 0))) : Turned w (w.setCell ⟨b, j, none⟩ v) b (.cells (C.setIfInBounds j v) t (0, 0)) :=
  ⟨⟨rfl, rfl, rfl, by simp, fun k _ hk => heap_setCell_other w ⟨b, j, none⟩ k v (fun e => hk (by simp [e]))⟩, heap_setCell_same w b j C t v h⟩

theorem new38 (k o : Int) (m n t : Tx) (w : World) : Calls Try.prog 38 #[.int .u8 k, encStr m, encStr n, encStr t, .int .i64 o] w fun e w' =>
    e = .returned (ptr w.heap.size) ∧ Turned w w' w.heap.size (.cells #[.int .u8 k, .int .i32 0, encStr m, encStr n, encStr t, .pointer none, .slice none 0 0, .int .i64 0, .int .i64 o] 71) := by
  go_enter Try.func38, Try.ntmps38
  go_wp2
  go_ret
  exact ⟨rfl, turned_alloc _ _⟩

theorem set39 (b : Nat) (k d m n t p c i o : Value) (x : Nat) (w : World) (h : w.heap[b]? = some (.cells #[k, d, m, n, t, p, c, i, o] 71 (0, 0))) : Calls Try.prog 39 #[ptr b, ptr x] w fun e w' =>
    e = .returned (.tuple #[]) ∧ Turned w w' b (.cells #[k, d, m, n, t, ptr x, c, i, o] 71) := by
  have hc : w.cell? ⟨b, 5, none⟩ = some p := cell_of_row w b 5 _ 71 (0, 0) h
  have hf : w.frozen? ⟨b, 5, none⟩ = false := frozen_of_row w b 5 _ 71 h
  unfold ptr
  go_enter Try.func39, Try.ntmps39
  go_wp2
  go_end0
  exact ⟨rfl, turned_set w b 5 _ 71 _ h⟩

theorem set40 (b : Nat) (k d m n t p c i o : Value) (j : Int) (w : World) (h : w.heap[b]? = some (.cells #[k, d, m, n, t, p, c, i, o] 71 (0, 0))) : Calls Try.prog 40 #[ptr b, .int .i64 j] w fun e w' =>
    e = .returned (.tuple #[]) ∧ Turned w w' b (.cells #[k, d, m, n, t, p, c, .int .i64 j, o] 71) := by
  have hc : w.cell? ⟨b, 7, none⟩ = some i := cell_of_row w b 7 _ 71 (0, 0) h
  have hf : w.frozen? ⟨b, 7, none⟩ = false := frozen_of_row w b 7 _ 71 h
  unfold ptr
  go_enter Try.func40, Try.ntmps40
  go_wp2
  go_end0
  exact ⟨rfl, turned_set w b 7 _ 71 _ h⟩

theorem set42 (b : Nat) (k d m n t p c i o : Value) (x : Option Addr) (y z : Nat) (w : World) (h : w.heap[b]? = some (.cells #[k, d, m, n, t, p, c, i, o] 71 (0, 0))) : Calls Try.prog 42 #[ptr b, .slice x y z] w fun e w' =>
    e = .returned (.tuple #[]) ∧ Turned w w' b (.cells #[k, d, m, n, t, p, .slice x y z, i, o] 71) := by
  have hc : w.cell? ⟨b, 6, none⟩ = some c := cell_of_row w b 6 _ 71 (0, 0) h
  have hf : w.frozen? ⟨b, 6, none⟩ = false := frozen_of_row w b 6 _ 71 h
  unfold ptr
  go_enter Try.func42, Try.ntmps42
  go_wp2
  go_end0
  exact ⟨rfl, turned_set w b 6 _ 71 _ h⟩

/-- A reader: cell j of a node. -/
theorem get24 (b : Nat) (k d m n t p c i o : Value) (w : World) (h : w.heap[b]? = some (.cells #[k, d, m, n, t, p, c, i, o] 71 (0, 0))) : Calls Try.prog 24 #[ptr b] w fun e w' => e = .returned c ∧ w' = w := by
  have hc : w.cell? ⟨b, 6, none⟩ = some c := cell_of_row w b 6 _ 71 (0, 0) h
  unfold ptr
  go_enter Try.func24, Try.ntmps24
  go_wp2
  go_ret
  exact ⟨rfl, rfl⟩

theorem get25 (b : Nat) (k d m n t p c i o : Value) (w : World) (h : w.heap[b]? = some (.cells #[k, d, m, n, t, p, c, i, o] 71 (0, 0))) : Calls Try.prog 25 #[ptr b] w fun e w' => e = .returned i ∧ w' = w := by
  have hc : w.cell? ⟨b, 7, none⟩ = some i := cell_of_row w b 7 _ 71 (0, 0) h
  unfold ptr
  go_enter Try.func25, Try.ntmps25
  go_wp2
  go_ret
  exact ⟨rfl, rfl⟩

theorem get26 (b : Nat) (k d m n t p c i o : Value) (w : World) (h : w.heap[b]? = some (.cells #[k, d, m, n, t, p, c, i, o] 71 (0, 0))) : Calls Try.prog 26 #[ptr b] w fun e w' => e = .returned p ∧ w' = w := by
  have hc : w.cell? ⟨b, 5, none⟩ = some p := cell_of_row w b 5 _ 71 (0, 0) h
  unfold ptr
  go_enter Try.func26, Try.ntmps26
  go_wp2
  go_ret
  exact ⟨rfl, rfl⟩

theorem get31 (b : Nat) (k d m n t p c i o : Value) (w : World) (h : w.heap[b]? = some (.cells #[k, d, m, n, t, p, c, i, o] 71 (0, 0))) : Calls Try.prog 31 #[ptr b] w fun e w' => e = .returned o ∧ w' = w := by
  have hc : w.cell? ⟨b, 8, none⟩ = some o := cell_of_row w b 8 _ 71 (0, 0) h
  unfold ptr
  go_enter Try.func31, Try.ntmps31
  go_wp2
  go_ret
  exact ⟨rfl, rfl⟩

theorem get30 (b : Nat) (k d m n t p c i o : Value) (w : World) (h : w.heap[b]? = some (.cells #[k, d, m, n, t, p, c, i, o] 71 (0, 0))) : Calls Try.prog 30 #[ptr b] w fun e w' => e = .returned d ∧ w' = w := by
  have hc : w.cell? ⟨b, 1, none⟩ = some d := cell_of_row w b 1 _ 71 (0, 0) h
  unfold ptr
  go_enter Try.func30, Try.ntmps30
  go_wp2
  go_ret
  exact ⟨rfl, rfl⟩

theorem new21 (w : World) : Calls Try.prog 21 #[] w fun e w' => e = .returned (ptr w.heap.size) ∧ Turned w w' w.heap.size (.cells #[.pointer none, .slice none 0 0, .slice none 0 0] 65) := by
  go_enter Try.func21, Try.ntmps21
  go_wp2
  go_ret
  exact ⟨rfl, turned_alloc _ _⟩

end Go.Proofs.Qxb6600222a
