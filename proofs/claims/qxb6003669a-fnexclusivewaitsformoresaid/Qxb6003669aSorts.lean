import Derived.Test.Qxb6003669aNumber
import Derived.Test.Qxb6003669aShelf
import Derived.Sort.OwnSorted
import Derived.Lib.OwnBridge
namespace Go.Proofs.Qxb6003669a
open Go.RowKit Go.Maps Go.Sort
open Go.Proofs.Qxb6003669a.Plain
open Go.RowKit (Below)

/-- The ids gathered so far: the call's own row. -/
def Own (B : Nat) (w : World) (v : Value) (ss : List Tx) : Prop := w.ownsRow B 9 1 v ss.length (ss.map encStr)

theorem Own.form {B : Nat} {w : World} {v : Value} {ss : List Tx} (h : Own B w v ss) : ∃ a cap, v = .slice a ss.length cap := by
  rcases h.2 with ⟨hv, h0⟩ | ⟨g, cap, cur, hv, _⟩
  · exact ⟨none, 0, by rw [h0]; exact hv⟩
  · exact ⟨_, cap, hv⟩

theorem Own.sv {B : Nat} {w : World} {a : Option Addr} {cap : Nat} {ss : List Tx} (h : Own B w (.slice a ss.length cap) ss) : SV encStr w a ss.length cap ss := by
  rcases h.2 with ⟨hv, h0⟩ | ⟨g, cap', cur, hv, hbase, hb, hnc, hcm, hcs, htake⟩
  · simp only [Value.slice.injEq] at hv
    obtain ⟨rfl, _, rfl⟩ := hv
    exact ⟨rfl, by omega, by unfold maxLen; omega, fun _ => ⟨h0, rfl⟩, fun hp => by omega⟩
  · simp only [Value.slice.injEq] at hv
    obtain ⟨rfl, _, rfl⟩ := hv
    refine ⟨rfl, by simpa using hnc, hcm, (fun e => by cases e), fun _ => ⟨g, 0, rfl, fun j hj => ?_⟩⟩
    rw [Nat.zero_add, World.ownsRow.cellAt h j (by omega), List.getElem?_map, List.getElem?_eq_getElem hj, List.getD_eq_getElem?_getD, List.getElem?_eq_getElem hj]
    rfl

/-- slices.Sort on a row of the call's own. -/
theorem sort_any (B : Nat) (w0 w : World) (a : Option Addr) (cap : Nat) (ss : List Tx) (h : Own B w (.slice a ss.length cap) ss) (hl : ss.length ≤ 1048576) (hB : Below B w0 w) (hB2 : B ≤ w0.heap.size) :
    Calls Try.prog 30 #[.slice a ss.length cap] w fun e w' => e = .returned (.tuple #[]) ∧ Hid (Own B w' (.slice a ss.length cap) (ss.mergeSort fun x y => decide (x ≤ y))) ∧ Hid (Below B w0 w') := by
  have hsl : (ss.mergeSort fun x y => decide (x ≤ y)).length = ss.length := List.length_mergeSort ss
  by_cases hz : ss.length = 0
  · have hnil : ss = [] := List.eq_nil_of_length_eq_zero hz
    subst hnil
    refine (Try.slices_Sort_string_none a cap w).mono ?_
    rintro e w' ⟨he, hw⟩
    subst hw
    refine ⟨he, ?_, hB⟩
    have e2 : ([] : List Tx).mergeSort (fun x y => decide (x ≤ y)) = [] := List.eq_nil_of_length_eq_zero hsl
    rw [e2]
    exact h
  · rcases h.2 with ⟨hv, h0⟩ | ⟨g, cap', cur, hv, hbase, hb, h1, h2, h3, h4⟩
    · exact absurd h0 hz
    · simp only [Value.slice.injEq] at hv
      obtain ⟨rfl, _, rfl⟩ := hv
      have hH : Holds encStr w g 0 ss.toArray := holds_of_block hb (by simpa using h4)
      have hgl : g < w.heap.size := (Array.getElem?_eq_some_iff.1 hb).1
      refine (Try.slices_Sort_string g 0 cap ss w hH hgl (by omega)).mono ?_
      rintro e w' ⟨he, nn, os, hw⟩
      subst hw
      refine ⟨he, ?_, hB.grown (grownBy_sorted _) (Nat.le_trans hB2 hB.size) (fun j hj => by cases hj; exact hbase)⟩
      have hs := ownsRow_sorted (n := nn) (os := os) (ts := ss.mergeSort fun x y => decide (x ≤ y)) hsl hbase hb h1 h2 h3
      unfold Hid Own
      rw [hsl]
      exact hs

/-- What comes back: the ids ts, in memory that is new since w0. -/
def Ids (w0 : World) (ts : List Tx) (e : Ending) (w' : World) : Prop := ∃ a cap, e = .returned (.slice a ts.length cap) ∧ Hid (Below w0.heap.size w0 w') ∧ Hid (SV encStr w' a ts.length cap ts)

/-- slices.Compact on a row of the call's own. -/
theorem compact_any (w0 w : World) (a : Option Addr) (n cap : Nat) (zs : List Tx) (hn : zs.length = n) (h : Own w0.heap.size w (.slice a n cap) zs) (hl : n ≤ 1048576) (hB : Below w0.heap.size w0 w) :
    Calls Try.prog 31 #[.slice a n cap] w (Ids w0 (Lib.compact zs)) := by
  subst hn
  have hle := Lib.compact_length_le zs
  by_cases hz : zs.length = 0
  · have hnil : zs = [] := List.eq_nil_of_length_eq_zero hz
    subst hnil
    refine (Try.slices_Compact_string_empty a cap w).mono ?_
    rintro e w' ⟨he, hw⟩
    subst hw
    have e2 : Lib.compact ([] : List Tx) = [] := List.eq_nil_of_length_eq_zero (by simpa using hle)
    rw [e2]
    exact ⟨a, cap, he, hB, h.sv⟩
  · rcases h.2 with ⟨hv, h0⟩ | ⟨g, cap', cur, hv, hbase, hb, h1, h2, h3, h4⟩
    · exact absurd h0 hz
    · simp only [Value.slice.injEq] at hv
      obtain ⟨rfl, _, rfl⟩ := hv
      have hH : Holds encStr w g 0 zs.toArray := holds_of_block hb (by simpa using h4)
      refine (Try.slices_Compact_string g 0 cap zs w hH (by omega) (by simpa using h1)).mono ?_
      rintro e w' ⟨he, q, hw⟩
      subst hw
      have hc := Lib.ownsRow_putRow (q := q) (k := (Lib.compact zs).length) (ys := Lib.compact zs ++ List.replicate (zs.length - (Lib.compact zs).length) []) h (by simp; omega) (by omega)
      rw [List.take_left] at hc
      exact ⟨_, cap, he, Lib.below_putRow hB hbase, Own.sv (B := w0.heap.size) hc⟩
end Go.Proofs.Qxb6003669a
