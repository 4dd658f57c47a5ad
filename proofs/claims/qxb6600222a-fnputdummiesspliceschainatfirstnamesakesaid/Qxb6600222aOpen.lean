import Derived.Test.Qxb6600222aRead
import Derived.ProofKit
import Derived.OpenShut
import Derived.ShutString
import Derived.ChangeOld
import Derived.SliceStrings
import Derived.Deep.Grids
namespace Go.Proofs.Qxb6600222a
open Go.ChangeShapes Go.WideShapes Go.ChangeAt Go.RowKit Go.Deep

theorem addr_form {w : World} {a : Addr} {v : Value} (h : w.cell? (a.add 0) = some v) : ∃ b off, a = ⟨b, off, none⟩ := by
  obtain ⟨b, off, spot⟩ := a
  have hspot : spot = none := by simpa [Addr.add] using World.cell?_spot h
  subst hspot
  exact ⟨b, off, rfl⟩

theorem sv_of_cells {α : Type} [Inhabited α] {mk : α → Value} {w : World} {a : Addr} {len cap : Nat} {l : List α} (h1 : l.length = len) (h2 : len ≤ cap) (h3 : cap ≤ maxLen) (hc : ∀ i, i < len → w.cell? (a.add i) = some (mk (l.getD i default))) :
    SV mk w (some a) len cap l := by
  refine ⟨h1, h2, h3, (fun e => by cases e), fun hp => ?_⟩
  obtain ⟨b, off, rfl⟩ := addr_form (hc 0 hp)
  exact ⟨b, off, rfl, fun j hj => by rw [← Go.WideShapes.add_plain]; exact hc j hj⟩

/-- A slice of strings that came in. -/
theorem open_txs {H : Type} {enc : TypeId × Value → H} {W : World} {a : Option Addr} {n c : Nat} {d : DataW H} {p : List MemPlace} (h : DataW.Trod enc Try.prog W 0 (fun _ => true) true 29 (.slice a n c) d p) :
    ∃ l : List Tx, SV encStr W a n c l ∧ ∀ x ∈ l, x.length ≤ maxLen := by
  obtain ⟨fuel, hf⟩ := h
  rcases open_strings Try.underlying29 Try.underlying9 (by kernel_rfl) hf with ⟨hcs, _⟩ | ⟨x, len, cap, ss, hcs, _, hl, hm, hz, _, hcell, hws⟩
  · simp [Value.cells] at hcs
    obtain ⟨rfl, rfl, rfl⟩ := hcs
    exact ⟨[], ⟨rfl, Nat.le_refl _, by unfold maxLen; omega, fun _ => ⟨rfl, rfl⟩, fun hp => absurd hp (by omega)⟩, fun x hx => by cases hx⟩
  · simp [Value.cells] at hcs
    obtain ⟨rfl, rfl, rfl⟩ := hcs
    have hz' : ss.length = c := by simpa using hz
    refine ⟨(ss.take n).map (·.data.toList), sv_of_cells (by rw [List.length_map, List.length_take]; omega) hl hm fun i hi => ?_, fun y hy => ?_⟩
    · have e1 : ((ss.take n).map (·.data.toList)).getD i default = (ss.getD i ByteArray.empty).data.toList := by
        rw [List.getD_eq_getElem?_getD, List.getElem?_map, List.getElem?_take, if_pos hi, List.getD_eq_getElem?_getD, List.getElem?_eq_getElem (by omega)]
        rfl
      rw [e1, hcell i (by omega)]
    · obtain ⟨s, hs, rfl⟩ := List.mem_map.1 hy
      have := hws s (List.mem_of_mem_take hs)
      rw [Lib.size_eq] at this
      exact this

/-- A slice of bools that came in. -/
theorem open_flags {H : Type} {enc : TypeId × Value → H} {W : World} {a : Option Addr} {n c : Nat} {d : DataW H} {p : List MemPlace} (h : DataW.Trod enc Try.prog W 0 (fun _ => true) true 28 (.slice a n c) d p) :
    ∃ l : List Bool, SV Value.bool W a n c l := by
  obtain ⟨fuel, hf⟩ := h
  rcases open_bools Try.underlying28 Try.underlying4 (by kernel_rfl) hf with ⟨hcs, _⟩ | ⟨x, len, cap, B, hcs, _, hl, hm, _, hcell⟩
  · simp [Value.cells] at hcs
    obtain ⟨rfl, rfl, rfl⟩ := hcs
    exact ⟨[], ⟨rfl, Nat.le_refl _, by unfold maxLen; omega, fun _ => ⟨rfl, rfl⟩, fun hp => absurd hp (by omega)⟩⟩
  · simp [Value.cells] at hcs
    obtain ⟨rfl, rfl, rfl⟩ := hcs
    refine ⟨(List.range n).map B, sv_of_cells (by simp) hl hm fun i hi => ?_⟩
    rw [hcell i (by omega), List.getD_eq_getElem?_getD, List.getElem?_map, List.getElem?_range hi]
    rfl
end Go.Proofs.Qxb6600222a
