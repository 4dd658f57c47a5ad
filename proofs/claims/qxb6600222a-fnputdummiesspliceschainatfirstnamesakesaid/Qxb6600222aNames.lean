import Derived.Test.Qxb6600222aBuild
namespace Go.Proofs.Qxb6600222a
open Go.RowKit

theorem Try.info68 : (Try.prog.info? 68).map (fun i => (i.zero, i.size, i.bytes)) = some (some (.agg #[.string ⟨#[]⟩, .string ⟨#[]⟩]), 2, 32) := by kernel_rfl

/-- The first k names of a row of m names at block g. -/
def NamesAt (w : World) (g m k : Nat) (dm dl : Nat → Tx) : Prop :=
  ∃ cur : Array Value, w.heap[g]? = some (.cells cur 68 (0, 0)) ∧ cur.size = m * 2 ∧ ∀ j, j < k → cur[j * 2]? = some (encStr (dm j)) ∧ cur[j * 2 + 1]? = some (encStr (dl j))

theorem NamesAt.made {w : World} {g B n : Nat} {xs : List Value} {dm dl : Nat → Tx} (h : w.ownsRow B 68 2 (.slice (some ⟨g, 0, none⟩) n n) n xs) : NamesAt w g n 0 dm dl := by
  rcases h.2 with ⟨h0, _⟩ | ⟨g', cap, cur, hv, _, hb, _, _, hs, _⟩
  · cases h0
  · injection hv with hv1 hv2 hv3
    injection hv1 with hv4
    injection hv4 with hv5
    subst hv5 hv3
    exact ⟨cur, hb, by omega, fun j hj => absurd hj (by omega)⟩

theorem NamesAt.slot {w : World} {g m k : Nat} {dm dl : Nat → Tx} (h : NamesAt w g m k dm dl) (j : Nat) (hj : j < m * 2) : (∃ old, w.cell? ⟨g, j, none⟩ = some old) ∧ w.frozen? ⟨g, j, none⟩ = false := by
  obtain ⟨cur, h1, h2, _⟩ := h
  exact ⟨⟨cur[j]'(by omega), by rw [cell_of_row w g j _ 68 (0, 0) h1]; exact Array.getElem?_eq_getElem _⟩, frozen_of_row w g j _ 68 h1⟩

theorem NamesAt.push {w : World} {g m k : Nat} {dm dl : Nat → Tx} (h : NamesAt w g m k dm dl) (hk : k < m) {x y : Tx} (hx : dm k = x) (hy : dl k = y) :
    NamesAt ((w.setCell ⟨g, k * 2, none⟩ (encStr x)).setCell ⟨g, k * 2 + 1, none⟩ (encStr y)).drew g m (k + 1) dm dl := by
  obtain ⟨cur, h1, h2, h3⟩ := h
  have e1 := heap_setCell_same w g (k * 2) cur 68 (encStr x) h1
  have e2 := heap_setCell_same _ g (k * 2 + 1) _ 68 (encStr y) e1
  refine ⟨_, e2, by simp [h2], fun j hj => ?_⟩
  by_cases e : j = k
  · subst e
    rw [Array.getElem?_setIfInBounds_ne (by omega), Array.getElem?_setIfInBounds_self_of_lt (by omega), Array.getElem?_setIfInBounds_self_of_lt (by simp; omega), hx, hy]
    exact ⟨rfl, rfl⟩
  · rw [Array.getElem?_setIfInBounds_ne (by omega), Array.getElem?_setIfInBounds_ne (by omega), Array.getElem?_setIfInBounds_ne (by omega), Array.getElem?_setIfInBounds_ne (by omega)]
    exact h3 j (by omega)

set_option maxHeartbeats 4000000 in
set_option maxRecDepth 100000 in
theorem names_any (a0 a1 : Option Addr) (n n1 c0 c1 : Nat) (l0 l1 : List Tx) (w : World)
    (h0 : SV encStr w a0 n c0 l0) (h1 : SV encStr w a1 n1 c1 l1) (hn : n ≤ 65536) :
    Calls Try.prog 23 #[.slice a0 n c0, .slice a1 n1 c1] w fun e W => e = .returned (.slice (some ⟨w.heap.size, 0, none⟩) n n) ∧ NamesAt W w.heap.size n n (atS l0) (atS l1) ∧ Below w.heap.size w W := by
  have A0 : Hid (SV encStr w a0 n c0 l0) := h0
  have A1 : Hid (SV encStr w a1 n1 c1 l1) := h1
  have hmx : n ≤ maxLen := by unfold maxLen; omega
  clear h0 h1
  obtain ⟨i5, hi5, hy0, hy1, hy2⟩ := info_parts Try.info68
  go_enter Try.func23, Try.ntmps23
  go_wp2_with (at_make; refine wpList_make_full _ rfl (.tmp 8) (.tmp 8) 44 rfl w.heap.size 68 i5 (.agg #[.string ⟨#[]⟩, .string ⟨#[]⟩]) 2 Try.underlying44 hi5 hy0 hy1 .i64 .i64 _ _ n rfl rfl rfl rfl (by rw [hy2]; omega) hmx (Nat.le_refl _) ?_; intro w1 hown hgrow)
  have hN : Hid (NamesAt w1 w.heap.size n 0 (atS l0) (atS l1)) := NamesAt.made hown
  have hB : Hid (Below w.heap.size w w1) := (Below.refl _ w).grown hgrow (Nat.le_refl _) (by intro k h; cases h)
  clear hown hgrow hi5 hy0 hy1 hy2
  go_loopw [6] (fun i wr => ∃ k : Nat, k ≤ n ∧ i = .int .i64 k ∧ NamesAt wr w.heap.size n k (atS l0) (atS l1) ∧ Below w.heap.size w wr) (fun i _ => n - (intOf i).toNat)
  case atStart => exact ⟨0, Nat.zero_le _, rfl, hN.out, hB.out⟩
  case round =>
    clear hN hB
    obtain ⟨k, hk, rfl, hrow, hbel⟩ := hrel
    have HB : Hid (Below w.heap.size w wr) := hbel
    have HN : Hid (NamesAt wr w.heap.size n k (atS l0) (atS l1)) := hrow
    clear hrow hbel
    by_cases hlt : k < n
    · obtain ⟨b0, f0, x, ea, hc, HX⟩ := A0.out.at k hlt
      subst ea
      have hx : wr.cell? ⟨b0, f0 + k, none⟩ = some (encStr x) := (HB.out.cell (World.block_lt_of_cell? _ _ hc)).trans hc
      have hlt' : (k : Int) < (n : Int) := by omega
      obtain ⟨⟨y1, hy1⟩, hf1⟩ := HN.out.slot (k * 2) (by omega)
      obtain ⟨⟨y2, hy2⟩, hf2⟩ := HN.out.slot (k * 2 + 1) (by omega)
      clear hc
      have HNN : Hid (NamesAt ((wr.setCell ⟨w.heap.size, k * 2, none⟩ (encStr x)).setCell ⟨w.heap.size, k * 2 + 1, none⟩ (encStr (atS l1 k))).drew w.heap.size n (k + 1) (atS l0) (atS l1)) := HN.out.push hlt HX.out rfl
      have HBB : Hid (Below w.heap.size w ((wr.setCell ⟨w.heap.size, k * 2, none⟩ (encStr x)).setCell ⟨w.heap.size, k * 2 + 1, none⟩ (encStr (atS l1 k))).drew) := ((HB.out.setCell (Nat.le_refl _) _).setCell (Nat.le_refl _) _).drew
      have HS : Hid (SV encStr wr.drew a1 n1 c1 l1) := A1.out.below HB.out.drew
      go_wp2
      go_region_with (go_at_call 18; refine (atS_any _ _ _ l1 k _ HS.out).mono ?_; rintro e w' ⟨rfl, hw⟩; subst w')
      all_goals
        go_wp2
        go_roundw
        case rel => exact ⟨k + 1, by omega, by go_num, HNN.out, HBB.out⟩
        case measure => simp [intOf]; omega
    · have e : k = n := by omega
      subst e
      go_wp2
      go_ret
      exact ⟨rfl, HN.out, HB.out⟩
end Go.Proofs.Qxb6600222a
