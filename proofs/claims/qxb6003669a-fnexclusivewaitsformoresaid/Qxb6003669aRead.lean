import Derived.Test.Qxb6003669aRows
import Derived.Test.Qxb6003669aPlain
import Derived.WalkKit
import Derived.WalkLawsBesides
import Derived.Deep.QuietTactic
import Derived.BigQuiet
import Derived.OpenShut
import Derived.WalkSpells
import Derived.Lib.SliceRun
import Derived.Lib.Strings
import Derived.Sort.EncStr
namespace Go.Proofs.Qxb6003669a
open Go.RowKit
open Go.Proofs.Qxb6003669a.Plain

/-- WHAT A SLICE HOLDS: the elements l, each in one cell as 'mk' lays it, in the world w. -/
structure SV {α : Type} [Inhabited α] (mk : α → Value) (w : World) (a : Option Addr) (n cap : Nat) (l : List α) : Prop where
  len : l.length = n
  le : n ≤ cap
  max : cap ≤ maxLen
  nil : a = none → n = 0 ∧ cap = 0
  cells : 0 < n → ∃ b off, a = some ⟨b, off, none⟩ ∧ ∀ j, j < n → w.cell? ⟨b, off + j, none⟩ = some (mk (l.getD j default))

section
variable {α : Type} [Inhabited α] {mk : α → Value} {w w' : World} {a : Option Addr} {n cap : Nat} {l : List α}

theorem SV.below (h : SV mk w a n cap l) (hb : Below w.heap.size w w') : SV mk w' a n cap l := by
  refine ⟨h.len, h.le, h.max, h.nil, fun hn => ?_⟩
  obtain ⟨b, off, rfl, hc⟩ := h.cells hn
  refine ⟨b, off, rfl, fun j hj => ?_⟩
  have := hc j hj
  rw [← this]
  exact hb.cell (World.block_lt_of_cell? _ _ this)

theorem SV.drewN (h : SV mk w a n cap l) (k : Nat) : SV mk (w.drewN k) a n cap l := h.below (below_drewN (Below.refl _ _) _)

/-- The slice up to place j. -/
theorem SV.take (h : SV mk w a n cap l) (j : Nat) (hj : j ≤ n) : SV mk w a j cap (l.take j) := by
  refine ⟨by rw [List.length_take, h.len]; omega, by have := h.le; omega, h.max, fun e => ?_, fun hn => ?_⟩
  · obtain ⟨h1, h2⟩ := h.nil e; omega
  · obtain ⟨b, off, rfl, hc⟩ := h.cells (by omega)
    refine ⟨b, off, rfl, fun i hi => ?_⟩
    rw [hc i (by omega), List.getD_eq_getElem?_getD, List.getD_eq_getElem?_getD, List.getElem?_take, if_pos hi]
end

/-- A bool comes back. -/
def IsBool (e : Ending) : Prop := ∃ r, e = .returned (.bool r)
theorem isBool (r : Bool) : IsBool (.returned (.bool r)) := ⟨r, rfl⟩

theorem ret_bool {a b : Bool} (h : a = b) : Ending.returned (.bool a) = .returned (.bool b) := by rw [h]

/-- Place k of a slice of strings, in the walk's own words: the cell, and its length's bound. -/
theorem SV.at {α : Type} [Inhabited α] {mk : α → Value} {w : World} {a : Option Addr} {n cap : Nat} {l : List α} (h : SV mk w a n cap l) (k : Nat) (hk : k < n) :
    ∃ b off x, a = some ⟨b, off, none⟩ ∧ w.cell? ⟨b, off + k, none⟩ = some (mk x) ∧ Hid (l.getD k default = x) := by
  obtain ⟨b, off, rfl, hc⟩ := h.cells (by omega)
  exact ⟨b, off, _, rfl, hc k hk, rfl⟩

set_option maxHeartbeats 1000000 in
set_option maxRecDepth 100000 in
/-- 'zzBytes_..': it returns, whatever it says. -/
theorem bytes23_any (a0 a1 a2 a3 : Option Addr) (n0 n1 n2 n3 c0 c1 c2 c3 : Nat) (l0 l2 : List Tx) (i : Int) (w : World) (h0 : SV encStr w a0 n0 c0 l0) (h2 : SV encStr w a2 n2 c2 l2) :
    Calls Try.prog 23 #[.slice a0 n0 c0, .slice a1 n1 c1, .slice a2 n2 c2, .slice a3 n3 c3, .int .i64 i] w fun e w' => IsBool e ∧ w' = w := by
  have H0 : Hid (SV encStr w a0 n0 c0 l0) := h0
  have H2 : Hid (SV encStr w a2 n2 c2 l2) := h2
  have b0 : n0 ≤ 9223372036854775807 := by have := h0.le; have := h0.max; unfold maxLen at this; omega
  have b2 : n2 ≤ 9223372036854775807 := by have := h2.le; have := h2.max; unfold maxLen at this; omega
  clear h0 h2
  go_enter Try.func23, Try.ntmps23
  go_wp2
  · go_ret; exact ⟨isBool _, rfl⟩
  · go_loop [11, 12] (fun t i => ∃ (k : Nat) (m : Int), k ≤ n0 ∧ i = .int .i64 k ∧ t = .int .i64 m) (fun _ i => n0 - (intOf i).toNat)
    case atStart => exact ⟨0, _, by omega, rfl, rfl⟩
    case round =>
      obtain ⟨k, m, hk, rfl, rfl⟩ := hrel
      by_cases hlt : k < n0
      · obtain ⟨b, off, x, ea, hc, HX⟩ := H0.out.at k hlt
        subst ea
        go_wp2
        · go_ret; exact ⟨isBool _, rfl⟩
        · go_ret; exact ⟨isBool _, rfl⟩
        · go_round
          case rel => exact ⟨k + 1, _, by omega, by go_num, rfl⟩
          case measure => simp [intOf]; omega
      · go_wp2
        all_goals try (go_ret; exact ⟨isBool _, rfl⟩)
        go_loop [11, 13] (fun t i => ∃ (k : Nat) (m : Int), k ≤ n2 ∧ i = .int .i64 k ∧ t = .int .i64 m) (fun _ i => n2 - (intOf i).toNat)
        case atStart => exact ⟨0, _, by omega, rfl, rfl⟩
        case round =>
          obtain ⟨k2, m2, hk2, rfl, rfl⟩ := hrel
          by_cases hlt2 : k2 < n2
          · obtain ⟨b, off, x, ea, hc, HX⟩ := H2.out.at k2 hlt2
            subst ea
            go_wp2
            · go_ret; exact ⟨isBool _, rfl⟩
            · go_ret; exact ⟨isBool _, rfl⟩
            · go_round
              case rel => exact ⟨k2 + 1, _, by omega, by go_num, rfl⟩
              case measure => simp [intOf]; omega
          · go_wp2
            all_goals (go_ret; exact ⟨isBool _, rfl⟩)

set_option maxHeartbeats 1000000 in
set_option maxRecDepth 100000 in
/-- 'zzBytes_..': it returns, whatever it says. -/
theorem bytes22_any (a0 a1 a2 a3 : Option Addr) (n0 n1 n2 n3 c0 c1 c2 c3 : Nat) (l0 l2 : List Tx) (i : Int) (w : World) (h0 : SV encStr w a0 n0 c0 l0) (h2 : SV encStr w a2 n2 c2 l2) :
    Calls Try.prog 22 #[.slice a0 n0 c0, .slice a1 n1 c1, .slice a2 n2 c2, .slice a3 n3 c3, .int .i64 i] w fun e w' => IsBool e ∧ w' = w := by
  have H0 : Hid (SV encStr w a0 n0 c0 l0) := h0
  have H2 : Hid (SV encStr w a2 n2 c2 l2) := h2
  have b0 : n0 ≤ 9223372036854775807 := by have := h0.le; have := h0.max; unfold maxLen at this; omega
  have b2 : n2 ≤ 9223372036854775807 := by have := h2.le; have := h2.max; unfold maxLen at this; omega
  clear h0 h2
  go_enter Try.func22, Try.ntmps22
  go_wp2
  · go_ret; exact ⟨isBool _, rfl⟩
  · go_loop [11, 12] (fun t i => ∃ (k : Nat) (m : Int), k ≤ n0 ∧ i = .int .i64 k ∧ t = .int .i64 m) (fun _ i => n0 - (intOf i).toNat)
    case atStart => exact ⟨0, _, by omega, rfl, rfl⟩
    case round =>
      obtain ⟨k, m, hk, rfl, rfl⟩ := hrel
      by_cases hlt : k < n0
      · obtain ⟨b, off, x, ea, hc, HX⟩ := H0.out.at k hlt
        subst ea
        go_wp2
        · go_ret; exact ⟨isBool _, rfl⟩
        · go_ret; exact ⟨isBool _, rfl⟩
        · go_round
          case rel => exact ⟨k + 1, _, by omega, by go_num, rfl⟩
          case measure => simp [intOf]; omega
      · go_wp2
        all_goals try (go_ret; exact ⟨isBool _, rfl⟩)
        go_loop [11, 13] (fun t i => ∃ (k : Nat) (m : Int), k ≤ n2 ∧ i = .int .i64 k ∧ t = .int .i64 m) (fun _ i => n2 - (intOf i).toNat)
        case atStart => exact ⟨0, _, by omega, rfl, rfl⟩
        case round =>
          obtain ⟨k2, m2, hk2, rfl, rfl⟩ := hrel
          by_cases hlt2 : k2 < n2
          · obtain ⟨b, off, x, ea, hc, HX⟩ := H2.out.at k2 hlt2
            subst ea
            go_wp2
            · go_ret; exact ⟨isBool _, rfl⟩
            · go_ret; exact ⟨isBool _, rfl⟩
            · go_round
              case rel => exact ⟨k2 + 1, _, by omega, by go_num, rfl⟩
              case measure => simp [intOf]; omega
          · go_wp2
            all_goals (go_ret; exact ⟨isBool _, rfl⟩)


/-- 'tooBig': where it says no, each of the four has at most 65536 elements. -/
def Small (n0 n1 n2 n3 : Nat) (e : Ending) : Prop := ∃ r, e = .returned (.bool r) ∧ (r = false → n0 ≤ 65536 ∧ n1 ≤ 65536 ∧ n2 ≤ 65536 ∧ n3 ≤ 65536)
theorem Small.yes {n0 n1 n2 n3 : Nat} : Small n0 n1 n2 n3 (.returned (.bool true)) := ⟨true, rfl, fun h => by cases h⟩
theorem Small.no {n0 n1 n2 n3 : Nat} (h0 : (n0 : Int) ≤ 65536) (h1 : (n1 : Int) ≤ 65536) (h2 : (n2 : Int) ≤ 65536) (h3 : (n3 : Int) ≤ 65536) : Small n0 n1 n2 n3 (.returned (.bool false)) := ⟨false, rfl, fun _ => by omega⟩

set_option maxHeartbeats 1000000 in
set_option maxRecDepth 100000 in
theorem tooBig_any (a0 a1 a2 a3 : Option Addr) (n0 n1 n2 n3 c0 c1 c2 c3 : Nat) (l0 l1 : List Tx) (w : World) (h0 : SV encStr w a0 n0 c0 l0) (h1 : SV encStr w a1 n1 c1 l1) :
    Calls Try.prog 8 #[.slice a0 n0 c0, .slice a1 n1 c1, .slice a2 n2 c2, .slice a3 n3 c3] w fun e w' => Small n0 n1 n2 n3 e ∧ w' = w := by
  have H0 : Hid (SV encStr w a0 n0 c0 l0) := h0
  have H1 : Hid (SV encStr w a1 n1 c1 l1) := h1
  clear h0 h1
  by_cases g0 : (65536 : Int) < (n0 : Int)
  · go_enter Try.func8, Try.ntmps8
    go_wp2
    go_ret; exact ⟨.yes, rfl⟩
  by_cases g1 : (65536 : Int) < (n1 : Int)
  · go_enter Try.func8, Try.ntmps8
    go_wp2
    go_ret; exact ⟨.yes, rfl⟩
  by_cases g2 : (65536 : Int) < (n2 : Int)
  · go_enter Try.func8, Try.ntmps8
    go_wp2
    go_ret; exact ⟨.yes, rfl⟩
  by_cases g3 : (65536 : Int) < (n3 : Int)
  · go_enter Try.func8, Try.ntmps8
    go_wp2
    go_ret; exact ⟨.yes, rfl⟩
  have e0 : decide ((65536 : Int) < (n0 : Int)) = false := decide_eq_false g0
  have e1 : decide ((65536 : Int) < (n1 : Int)) = false := decide_eq_false g1
  have e2 : decide ((65536 : Int) < (n2 : Int)) = false := decide_eq_false g2
  have e3 : decide ((65536 : Int) < (n3 : Int)) = false := decide_eq_false g3
  have i0 : (n0 : Int) ≤ 65536 := by omega
  have i1 : (n1 : Int) ≤ 65536 := by omega
  have i2 : (n2 : Int) ≤ 65536 := by omega
  have i3 : (n3 : Int) ≤ 65536 := by omega
  clear g0 g1 g2 g3
  by_cases ht : (1048576 : Int) < 16 * (n0 : Int) + 16 * (n1 : Int) + (n2 : Int) + (n3 : Int)
  · go_enter Try.func8, Try.ntmps8
    go_wp2
    go_ret; exact ⟨.yes, rfl⟩
  have et : decide ((1048576 : Int) < 16 * (n0 : Int) + 16 * (n1 : Int) + (n2 : Int) + (n3 : Int)) = false := decide_eq_false ht
  clear ht
  go_enter Try.func8, Try.ntmps8
  go_wp2
  go_loop [9, 10] (fun t i => ∃ (k : Nat) (m : Int), k ≤ n0 ∧ i = .int .i64 k ∧ t = .int .i64 m) (fun _ i => n0 - (intOf i).toNat)
  case atStart => exact ⟨0, _, by omega, rfl, rfl⟩
  case round =>
    obtain ⟨k, m, hk, rfl, rfl⟩ := hrel
    by_cases hlt : k < n0
    · obtain ⟨b, off, x, ea, hc, HX⟩ := H0.out.at k hlt
      subst ea
      go_wp2
      · go_ret; exact ⟨.yes, rfl⟩
      · go_round
        case rel => exact ⟨k + 1, _, by omega, by go_num, rfl⟩
        case measure => simp [intOf]; omega
    · go_wp2
      go_loop [9, 11] (fun t i => ∃ (k : Nat) (m : Int), k ≤ n1 ∧ i = .int .i64 k ∧ t = .int .i64 m) (fun _ i => n1 - (intOf i).toNat)
      case atStart => exact ⟨0, _, by omega, rfl, rfl⟩
      case round =>
        obtain ⟨k2, m2, hk2, rfl, rfl⟩ := hrel
        by_cases hlt2 : k2 < n1
        · obtain ⟨b, off, x, ea, hc, HX⟩ := H1.out.at k2 hlt2
          subst ea
          go_wp2
          · go_ret; exact ⟨.yes, rfl⟩
          · go_round
            case rel => exact ⟨k2 + 1, _, by omega, by go_num, rfl⟩
            case measure => simp [intOf]; omega
        · go_wp2
          go_ret; exact ⟨.no i0 i1 i2 i3, rfl⟩

end Go.Proofs.Qxb6003669a
