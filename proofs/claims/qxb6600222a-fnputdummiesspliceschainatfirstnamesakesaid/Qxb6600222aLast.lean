import Derived.Test.Qxb6600222aNames
import Derived.Deep.LoopGhost
namespace Go.Proofs.Qxb6600222a
open Go.RowKit

/-- From node b down its last children one comes, in so many steps, to a node of order o without children. -/
inductive Lst (w : World) (o : Int) : Nat → Nat → Prop
  | leaf {b : Nat} {k d m n t p : Value} {x : Option Addr} {y : Nat} {i : Value} (h : w.heap[b]? = some (.cells #[k, d, m, n, t, p, .slice x 0 y, i, .int .i64 o] 71 (0, 0))) : Lst w o 0 b
  | deep {s b b' : Nat} {k d m n t p i u : Value} {r l cap : Nat} (h : w.heap[b]? = some (.cells #[k, d, m, n, t, p, .slice (some ⟨r, 0, none⟩) (l + 1) cap, i, u] 71 (0, 0))) (hl : l ≤ 65536)
      (hc : w.cell? ⟨r, l, none⟩ = some (ptr b')) (hs : Lst w o s b') : Lst w o (s + 1) b

/-- A node of order o. -/
def OrdAt (w : World) (o : Int) (b : Nat) : Prop := ∃ k d m n t p c i, w.heap[b]? = some (.cells #[k, d, m, n, t, p, c, i, .int .i64 o] 71 (0, 0))

theorem below_heap {w w' : World} (h : Below w.heap.size w w') {b : Nat} {x : Obj} (hb : w.heap[b]? = some x) : w'.heap[b]? = some x := (h.block b (lt_of_heap hb)).trans hb
theorem below_cell {w w' : World} (h : Below w.heap.size w w') {a : Addr} {x : Value} (hb : w.cell? a = some x) : w'.cell? a = some x := (h.cell (World.block_lt_of_cell? _ _ hb)).trans hb

set_option maxHeartbeats 2000000 in
theorem last_any (w : World) (o : Int) (s b : Nat) (h : Lst w o s b) : Calls Try.prog 46 #[ptr b] w fun e w' => (∃ b', e = .returned (ptr b') ∧ OrdAt w o b') ∧ Below w.heap.size w w' := by
  have H : Hid (Lst w o s b) := h
  clear h
  unfold ptr
  go_enter Try.func46, Try.ntmps46
  go_wp2
  go_loopg [0] s (fun g x wr => ∃ b, x = ptr b ∧ Lst w o g b ∧ Below w.heap.size w wr)
  case atStart => exact ⟨b, rfl, H.out, Below.refl _ _⟩
  case round =>
    clear H
    obtain ⟨b, rfl, hL, hB⟩ := hrel
    have HB : Hid (Below w.heap.size w wr) := hB
    cases hL with
    | leaf h =>
      have hc : wr.cell? ⟨b, 6, none⟩ = some _ := cell_of_row wr b 6 _ 71 (0, 0) (below_heap hB h)
      have HO : Hid (OrdAt w o b) := ⟨_, _, _, _, _, _, _, _, h⟩
      clear hB h
      unfold ptr
      go_wp2
      go_ret
      exact ⟨⟨b, rfl, HO.out⟩, HB.out⟩
    | @deep s _ b2 k d m n t p i u r l cap h hl hx hs =>
      have hc : wr.cell? ⟨b, 6, none⟩ = some _ := cell_of_row wr b 6 _ 71 (0, 0) (below_heap hB h)
      have hx2 : wr.cell? ⟨r, l, none⟩ = some (ptr b2) := below_cell hB hx
      have HS : Hid (Lst w o s b2) := hs
      have hpos : (0 : Int) < ((l + 1 : Nat) : Int) := by omega
      have hsub : ((l + 1 : Nat) : Int) - 1 = (l : Int) := by omega
      clear hB h hx hs
      unfold ptr at *
      go_wp2
      go_quiet (fail)
      go_wp2
      go_roundg s
      case measure => omega
      case rel => exact ⟨b2, rfl, HS.out, below_drewN HB.out _⟩

set_option maxHeartbeats 2000000 in
theorem sub_any (w : World) (o : Int) (s b : Nat) (h : Lst w o s b) : Calls Try.prog 34 #[ptr b] w fun e w' => e = .returned (.int .i64 o) ∧ w' = w := by
  have H : Hid (Lst w o s b) := h
  clear h
  go_enter Try.func34, Try.ntmps34
  go_wp2
  go_loopg [0] s (fun g x wr => wr = w ∧ ∃ b, x = ptr b ∧ Lst w o g b)
  case atStart => exact ⟨rfl, b, rfl, H.out⟩
  case round =>
    clear H
    obtain ⟨rfl, b, rfl, hL⟩ := hrel
    cases hL with
    | leaf h =>
      have HX : Hid (_ = _) := h
      clear h
      go_wp2_with fail
      refine (get24 b _ _ _ _ _ _ _ _ _ wr HX.out).mono ?_
      rintro e w' ⟨rfl, hw⟩
      subst w'
      go_wp2_with fail
      refine (get31 b _ _ _ _ _ _ _ _ _ wr HX.out).mono ?_
      rintro e w' ⟨rfl, hw⟩
      subst w'
      go_wp2
      go_ret
      exact ⟨rfl, rfl⟩
    | @deep s _ b2 k d m n t p i u r l cap h hl hx hs =>
      have HX : Hid (_ = _) := h
      have HS : Hid (Lst wr o s b2) := hs
      have hpos : (0 : Int) < ((l + 1 : Nat) : Int) := by omega
      have hsub : ((l + 1 : Nat) : Int) - 1 = (l : Int) := by omega
      clear h hs
      go_wp2_with fail
      refine (get24 b _ _ _ _ _ _ _ _ _ wr HX.out).mono ?_
      rintro e w' ⟨rfl, hw⟩
      subst w'
      go_wp2_with fail
      refine (get24 b _ _ _ _ _ _ _ _ _ wr HX.out).mono ?_
      rintro e w' ⟨rfl, hw⟩
      subst w'
      go_wp2
      go_roundg s
      case measure => omega
      case rel => exact ⟨rfl, b2, rfl, HS.out⟩
end Go.Proofs.Qxb6600222a
