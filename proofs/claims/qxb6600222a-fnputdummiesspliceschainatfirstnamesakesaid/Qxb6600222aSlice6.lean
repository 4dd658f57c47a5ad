import Derived.Test.Qxb6600222aWant
import Derived.Test.Qxb6600222aKeeps
import Derived.Deep.Cut
import Derived.Deep.CutRange
import Derived.Deep.CutBlock
namespace Go.Proofs.Qxb6600222a
open Go.RowKit

theorem get27 (b : Nat) (k d m n t p c i o : Value) (w : World) (h : w.heap[b]? = some (.cells #[k, d, m, n, t, p, c, i, o] 71 (0, 0))) : Calls Try.prog 27 #[ptr b] w fun e w' => e = .returned k ∧ w' = w := by
  have hc : w.cell? ⟨b, 0, none⟩ = some k := cell_of_row w b 0 _ 71 (0, 0) h
  unfold ptr
  go_enter Try.func27, Try.ntmps27
  go_wp2
  go_ret
  exact ⟨rfl, rfl⟩

theorem get28 (b : Nat) (k d m n t p c i o : Value) (w : World) (h : w.heap[b]? = some (.cells #[k, d, m, n, t, p, c, i, o] 71 (0, 0))) : Calls Try.prog 28 #[ptr b] w fun e w' => e = .returned m ∧ w' = w := by
  have hc : w.cell? ⟨b, 2, none⟩ = some m := cell_of_row w b 2 _ 71 (0, 0) h
  unfold ptr
  go_enter Try.func28, Try.ntmps28
  go_wp2
  go_ret
  exact ⟨rfl, rfl⟩

theorem get29 (b : Nat) (k d m n t p c i o : Value) (w : World) (h : w.heap[b]? = some (.cells #[k, d, m, n, t, p, c, i, o] 71 (0, 0))) : Calls Try.prog 29 #[ptr b] w fun e w' => e = .returned n ∧ w' = w := by
  have hc : w.cell? ⟨b, 3, none⟩ = some n := cell_of_row w b 3 _ 71 (0, 0) h
  unfold ptr
  go_enter Try.func29, Try.ntmps29
  go_wp2
  go_ret
  exact ⟨rfl, rfl⟩

theorem get32 (b : Nat) (r h s : Value) (w : World) (hb : w.heap[b]? = some (.cells #[r, h, s] 65 (0, 0))) : Calls Try.prog 32 #[ptr b] w fun e w' => e = .returned h ∧ w' = w := by
  have hc : w.cell? ⟨b, 1, none⟩ = some h := cell_of_row w b 1 _ 65 (0, 0) hb
  unfold ptr
  go_enter Try.func32, Try.ntmps32
  go_wp2
  go_ret
  exact ⟨rfl, rfl⟩

theorem fst_exists (sk : Nat → Bool) (n : Nat) : ∃ f, Fst sk n f := by
  induction n with
  | zero => exact ⟨0, fst_end rfl⟩
  | succ n ih =>
    obtain ⟨f, hf⟩ := ih
    by_cases e : f < n
    · exact ⟨f, by omega, hf.no, fun _ => hf.yes e⟩
    · have e2 : f = n := by have := hf.le; omega
      subst e2
      by_cases h : sk f = true
      · exact ⟨f, by omega, hf.no, fun _ => h⟩
      · exact ⟨f + 1, Nat.le_refl _, by simp [pl, hf.no, h], fun h => absurd h (by omega)⟩

theorem Fst.unique {sk : Nat → Bool} {n f j : Nat} (h : Fst sk n f) (hj : j ≤ f) (hs : sk j = true) : j = f := by
  by_cases e : j = f
  · exact e
  · exfalso
    have aux : ∀ k, j < k → pl sk k = true := by
      intro k
      induction k with
      | zero => omega
      | succ k ih =>
        intro hk
        simp only [pl]
        by_cases e2 : j = k
        · subst e2; simp [hs]
        · simp [ih (by omega)]
    have := aux f (by omega)
    rw [h.no] at this
    cases this

theorem Fst.before {sk : Nat → Bool} {n f j : Nat} (h : Fst sk n f) (hj : j < f) : sk j = false := by
  cases hs : sk j with
  | false => rfl
  | true => have := h.unique (by omega) hs; omega

/-- A row of numbers as a slice. -/
theorem own_sv {W : World} {B : Nat} {cv : Value} {l : List Int} (h : W.ownsRow B 3 1 cv l.length (l.map (Value.int .i64))) : ∃ a cap, cv = .slice a l.length cap ∧ SV (Value.int .i64) W a l.length cap l := by
  rcases h.2 with ⟨h0, h1⟩ | ⟨g, cap, cur, hv, _, hb, hle, hmx, hsz, hx⟩
  · exact ⟨none, 0, by rw [h0, h1], rfl, by omega, by unfold maxLen; omega, fun _ => ⟨h1, rfl⟩, fun hp => absurd hp (by omega)⟩
  · refine ⟨some ⟨g, 0, none⟩, cap, hv, rfl, hle, hmx, (fun e => by cases e), fun hp => ⟨g, 0, rfl, fun j hj => ?_⟩⟩
    rw [Nat.zero_add, cell_of_row W g j _ 3 (0, 0) hb]
    have h1 : (l.map (Value.int .i64))[j]? = some (.int .i64 (l.getD j default)) := by rw [List.getElem?_map, List.getD_eq_getElem?_getD, List.getElem?_eq_getElem hj]; rfl
    rw [← hx, List.getElem?_take, if_pos (by omega)] at h1
    simpa using h1

/-- A row of numbers that is not empty, by its block. -/
theorem own_block {W : World} {B : Nat} {cv : Value} {l : List Int} (h : W.ownsRow B 3 1 cv l.length (l.map (Value.int .i64))) (hl : 0 < l.length) :
    ∃ g cap cur, cv = .slice (some ⟨g, 0, none⟩) l.length cap ∧ W.heap[g]? = some (.cells cur 3 (0, 0)) ∧ ∀ (j : Nat) (x : Int), l[j]? = some x → cur[j]? = some (.int .i64 x) := by
  rcases h.2 with ⟨_, h1⟩ | ⟨g, cap, cur, hv, _, hb, _, _, _, hx⟩
  · omega
  · refine ⟨g, cap, cur, hv, hb, fun j x hj => ?_⟩
    have hjl := (List.getElem?_eq_some_iff.1 hj).1
    have h1 : (l.map (Value.int .i64))[j]? = some (.int .i64 x) := by rw [List.getElem?_map, hj]; rfl
    rw [← hx, List.getElem?_take, if_pos (by omega)] at h1
    simpa using h1

theorem Grove.below {z : Pl} {w W W' : World} {n : Nat} {par : Obj} {q : TreeQ} {cb : List Nat} (h : Grove z w W n n par q cb) (hb : Below W.heap.size W W') : Grove z w W' n n par q cb := by
  have kx : KeepX z W W' := ⟨fun c _ _ hx => below_heap hb hx, fun c _ _ _ _ _ _ _ ix _ _ hx => ⟨ix, below_heap hb hx⟩⟩
  have rk : ∀ {α : Type} {mk : α → Value} {e : TypeId} {g k : Nat} {l : List α}, RowAt mk e W g k l → RowAt mk e W' g k l := by
    intro α mk e g k l hr
    exact hr.keep (hb.block g hr.lt)
  refine ⟨⟨fun _ _ _ hx => hx, below_heap hb h.mid.par, rk h.mid.kids, rk h.mid.orig, rk h.mid.ord, bt h.mid.bel hb, Nat.le_refl _, by have := h.mid.room; have := hb.size; omega, h.mid.isP, h.mid.pk, h.mid.ko, h.mid.or⟩, h.len, fun j b hj => (h.kid j b hj).keep kx, h.nodup⟩

/-- The kept places as numbers. -/
def kl (sk : Nat → Bool) (k : Nat) : List Int := (keptI sk k).map (fun j : Nat => (j : Int))
theorem kl_succ (sk : Nat → Bool) (k : Nat) : kl sk (k + 1) = kl sk k ++ (if sk k then [] else [(k : Int)]) := by
  unfold kl
  simp only [keptI, List.map_append]
  by_cases h : sk k = true <;> simp [h]
theorem kl_len (sk : Nat → Bool) (k : Nat) : (kl sk k).length ≤ k := by
  unfold kl; rw [List.length_map]; exact keptI_len sk k

theorem want_gotI (sk : Nat → Bool) (n f : Nat) (h : Fst sk n f) : (kl sk n).take f ++ [-1] ++ (kl sk n).drop f = (gotI sk n).map wantV ∧ f ≤ (kl sk n).length := by
  obtain ⟨h1, h2, _⟩ := gotI_want sk n f h
  refine ⟨?_, by unfold kl; rw [List.length_map]; exact h2⟩
  rw [h1]
  unfold kl
  simp only [List.map_append, List.map_map, ← List.map_take, ← List.map_drop]
  rfl

end Go.Proofs.Qxb6600222a
