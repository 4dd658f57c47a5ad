import Derived.Test.Qxb6600222aRows
import Derived.WalkKit
import Derived.WalkLawsBesides
import Derived.Deep.QuietTactic
import Derived.BigQuiet
import Derived.OpenShut
import Derived.WalkSpells
import Derived.Lib.SliceRun
import Derived.Lib.Strings
import Derived.Sort.EncStr
namespace Go.Proofs.Qxb6600222a
open Go.RowKit

abbrev Tx := List UInt8

/-- WHAT A SLICE HOLDS: the elements l, each in one cell as 'mk' lays it, in the world w. -/
structure SV {α : Type} [Inhabited α] (mk : α → Value) (w : World) (a : Option Addr) (n cap : Nat) (l : List α) : Prop where
  len : l.length = n
  le : n ≤ cap
  max : cap ≤ maxLen
  nil : a = none → n = 0 ∧ cap = 0
  cells : 0 < n → ∃ b off, a = some ⟨b, off, none⟩ ∧ ∀ j, j < n → w.cell? ⟨b, off + j, none⟩ = some (mk (l.getD j default))

section
variable {α : Type} [Inhabited α] {mk : α → Value} {w w' : World} {a : Option Addr} {n cap : Nat} {l : List α}

theorem SV.below (h : SV mk w a n cap l) (hb : Below w.heap.size w w') : SV mk w' a n cap l := by
  refine ⟨h.len, h.le, h.max, h.nil, fun hn => ?_⟩
  obtain ⟨b, off, rfl, hc⟩ := h.cells hn
  refine ⟨b, off, rfl, fun j hj => ?_⟩
  have := hc j hj
  rw [← this]
  exact hb.cell (World.block_lt_of_cell? _ _ this)

theorem SV.drewN (h : SV mk w a n cap l) (k : Nat) : SV mk (w.drewN k) a n cap l := h.below (below_drewN (Below.refl _ _) _)

/-- The slice up to place j. -/
theorem SV.take (h : SV mk w a n cap l) (j : Nat) (hj : j ≤ n) : SV mk w a j cap (l.take j) := by
  refine ⟨by rw [List.length_take, h.len]; omega, by have := h.le; omega, h.max, fun e => ?_, fun hn => ?_⟩
  · obtain ⟨h1, h2⟩ := h.nil e; omega
  · obtain ⟨b, off, rfl, hc⟩ := h.cells (by omega)
    refine ⟨b, off, rfl, fun i hi => ?_⟩
    rw [hc i (by omega), List.getD_eq_getElem?_getD, List.getD_eq_getElem?_getD, List.getElem?_take, if_pos hi]
end

/-- A bool comes back. -/
def IsBool (e : Ending) : Prop := ∃ r, e = .returned (.bool r)
theorem isBool (r : Bool) : IsBool (.returned (.bool r)) := ⟨r, rfl⟩

theorem ret_bool {a b : Bool} (h : a = b) : Ending.returned (.bool a) = .returned (.bool b) := by rw [h]

/-- Place k of a slice of strings, in the walk's own words: the cell, and its length's bound. -/
theorem SV.at {α : Type} [Inhabited α] {mk : α → Value} {w : World} {a : Option Addr} {n cap : Nat} {l : List α} (h : SV mk w a n cap l) (k : Nat) (hk : k < n) :
    ∃ b off x, a = some ⟨b, off, none⟩ ∧ w.cell? ⟨b, off + k, none⟩ = some (mk x) ∧ Hid (l.getD k default = x) := by
  obtain ⟨b, off, rfl, hc⟩ := h.cells (by omega)
  exact ⟨b, off, _, rfl, hc k hk, rfl⟩

set_option maxHeartbeats 2000000 in
set_option maxRecDepth 100000 in
/-- 'zzBytes_..': it returns, whatever it says. -/
theorem bytes33_any (a0 a1 a2 a3 a5 a6 : Option Addr) (n0 n1 n2 n3 n5 n6 c0 c1 c2 c3 c5 c6 : Nat) (l1 l2 l5 l6 : List Tx) (i : Int) (w : World) (h1 : SV encStr w a1 n1 c1 l1) (h2 : SV encStr w a2 n2 c2 l2) (h5 : SV encStr w a5 n5 c5 l5) (h6 : SV encStr w a6 n6 c6 l6) :
    Calls Try.prog 33 #[.slice a0 n0 c0, .slice a1 n1 c1, .slice a2 n2 c2, .slice a3 n3 c3, .int .i64 i, .slice a5 n5 c5, .slice a6 n6 c6] w fun e w' => IsBool e ∧ w' = w := by
  have H1 : Hid (SV encStr w a1 n1 c1 l1) := h1
  have b1 : n1 ≤ 9223372036854775807 := by have := h1.le; have := h1.max; unfold maxLen at this; omega
  have H2 : Hid (SV encStr w a2 n2 c2 l2) := h2
  have b2 : n2 ≤ 9223372036854775807 := by have := h2.le; have := h2.max; unfold maxLen at this; omega
  have H5 : Hid (SV encStr w a5 n5 c5 l5) := h5
  have b5 : n5 ≤ 9223372036854775807 := by have := h5.le; have := h5.max; unfold maxLen at this; omega
  have H6 : Hid (SV encStr w a6 n6 c6 l6) := h6
  have b6 : n6 ≤ 9223372036854775807 := by have := h6.le; have := h6.max; unfold maxLen at this; omega
  clear h1 h2 h5 h6
  go_enter Try.func33, Try.ntmps33
  go_wp2
  all_goals try (go_ret; exact ⟨isBool _, rfl⟩)
  go_loop [15, 16] (fun t i => ∃ (k : Nat) (m : Int), k ≤ n1 ∧ i = .int .i64 k ∧ t = .int .i64 m) (fun _ i => n1 - (intOf i).toNat)
  case atStart => exact ⟨0, _, by omega, rfl, rfl⟩
  case round =>
    obtain ⟨k1, m1, hk1, rfl, rfl⟩ := hrel
    by_cases hlt1 : k1 < n1
    · obtain ⟨b, off, x, ea, hc, HX⟩ := H1.out.at k1 hlt1
      subst ea
      go_wp2
      · go_ret; exact ⟨isBool _, rfl⟩
      · go_ret; exact ⟨isBool _, rfl⟩
      · go_round
        case rel => exact ⟨k1 + 1, _, by omega, by go_num, rfl⟩
        case measure => simp [intOf]; omega
    · go_wp2
      all_goals try (go_ret; exact ⟨isBool _, rfl⟩)
      go_loop [15, 17] (fun t i => ∃ (k : Nat) (m : Int), k ≤ n2 ∧ i = .int .i64 k ∧ t = .int .i64 m) (fun _ i => n2 - (intOf i).toNat)
      case atStart => exact ⟨0, _, by omega, rfl, rfl⟩
      case round =>
        obtain ⟨k2, m2, hk2, rfl, rfl⟩ := hrel
        by_cases hlt2 : k2 < n2
        · obtain ⟨b, off, x, ea, hc, HX⟩ := H2.out.at k2 hlt2
          subst ea
          go_wp2
          · go_ret; exact ⟨isBool _, rfl⟩
          · go_ret; exact ⟨isBool _, rfl⟩
          · go_round
            case rel => exact ⟨k2 + 1, _, by omega, by go_num, rfl⟩
            case measure => simp [intOf]; omega
        · go_wp2
          all_goals try (go_ret; exact ⟨isBool _, rfl⟩)
          go_loop [15, 18] (fun t i => ∃ (k : Nat) (m : Int), k ≤ n5 ∧ i = .int .i64 k ∧ t = .int .i64 m) (fun _ i => n5 - (intOf i).toNat)
          case atStart => exact ⟨0, _, by omega, rfl, rfl⟩
          case round =>
            obtain ⟨k5, m5, hk5, rfl, rfl⟩ := hrel
            by_cases hlt5 : k5 < n5
            · obtain ⟨b, off, x, ea, hc, HX⟩ := H5.out.at k5 hlt5
              subst ea
              go_wp2
              · go_ret; exact ⟨isBool _, rfl⟩
              · go_ret; exact ⟨isBool _, rfl⟩
              · go_round
                case rel => exact ⟨k5 + 1, _, by omega, by go_num, rfl⟩
                case measure => simp [intOf]; omega
            · go_wp2
              all_goals try (go_ret; exact ⟨isBool _, rfl⟩)
              go_loop [15, 19] (fun t i => ∃ (k : Nat) (m : Int), k ≤ n6 ∧ i = .int .i64 k ∧ t = .int .i64 m) (fun _ i => n6 - (intOf i).toNat)
              case atStart => exact ⟨0, _, by omega, rfl, rfl⟩
              case round =>
                obtain ⟨k6, m6, hk6, rfl, rfl⟩ := hrel
                by_cases hlt6 : k6 < n6
                · obtain ⟨b, off, x, ea, hc, HX⟩ := H6.out.at k6 hlt6
                  subst ea
                  go_wp2
                  · go_ret; exact ⟨isBool _, rfl⟩
                  · go_ret; exact ⟨isBool _, rfl⟩
                  · go_round
                    case rel => exact ⟨k6 + 1, _, by omega, by go_num, rfl⟩
                    case measure => simp [intOf]; omega
                · go_wp2
                  all_goals (go_ret; exact ⟨isBool _, rfl⟩)

set_option maxHeartbeats 2000000 in
set_option maxRecDepth 100000 in
/-- 'zzBytes_..': it returns, whatever it says. -/
theorem bytes14_any (a0 a1 a2 a3 a5 a6 : Option Addr) (n0 n1 n2 n3 n5 n6 c0 c1 c2 c3 c5 c6 : Nat) (l1 l2 l5 l6 : List Tx) (i : Int) (w : World) (h1 : SV encStr w a1 n1 c1 l1) (h2 : SV encStr w a2 n2 c2 l2) (h5 : SV encStr w a5 n5 c5 l5) (h6 : SV encStr w a6 n6 c6 l6) :
    Calls Try.prog 14 #[.slice a0 n0 c0, .slice a1 n1 c1, .slice a2 n2 c2, .slice a3 n3 c3, .int .i64 i, .slice a5 n5 c5, .slice a6 n6 c6] w fun e w' => IsBool e ∧ w' = w := by
  have H1 : Hid (SV encStr w a1 n1 c1 l1) := h1
  have b1 : n1 ≤ 9223372036854775807 := by have := h1.le; have := h1.max; unfold maxLen at this; omega
  have H2 : Hid (SV encStr w a2 n2 c2 l2) := h2
  have b2 : n2 ≤ 9223372036854775807 := by have := h2.le; have := h2.max; unfold maxLen at this; omega
  have H5 : Hid (SV encStr w a5 n5 c5 l5) := h5
  have b5 : n5 ≤ 9223372036854775807 := by have := h5.le; have := h5.max; unfold maxLen at this; omega
  have H6 : Hid (SV encStr w a6 n6 c6 l6) := h6
  have b6 : n6 ≤ 9223372036854775807 := by have := h6.le; have := h6.max; unfold maxLen at this; omega
  clear h1 h2 h5 h6
  go_enter Try.func14, Try.ntmps14
  go_wp2
  all_goals try (go_ret; exact ⟨isBool _, rfl⟩)
  go_loop [15, 16] (fun t i => ∃ (k : Nat) (m : Int), k ≤ n1 ∧ i = .int .i64 k ∧ t = .int .i64 m) (fun _ i => n1 - (intOf i).toNat)
  case atStart => exact ⟨0, _, by omega, rfl, rfl⟩
  case round =>
    obtain ⟨k1, m1, hk1, rfl, rfl⟩ := hrel
    by_cases hlt1 : k1 < n1
    · obtain ⟨b, off, x, ea, hc, HX⟩ := H1.out.at k1 hlt1
      subst ea
      go_wp2
      · go_ret; exact ⟨isBool _, rfl⟩
      · go_ret; exact ⟨isBool _, rfl⟩
      · go_round
        case rel => exact ⟨k1 + 1, _, by omega, by go_num, rfl⟩
        case measure => simp [intOf]; omega
    · go_wp2
      all_goals try (go_ret; exact ⟨isBool _, rfl⟩)
      go_loop [15, 17] (fun t i => ∃ (k : Nat) (m : Int), k ≤ n2 ∧ i = .int .i64 k ∧ t = .int .i64 m) (fun _ i => n2 - (intOf i).toNat)
      case atStart => exact ⟨0, _, by omega, rfl, rfl⟩
      case round =>
        obtain ⟨k2, m2, hk2, rfl, rfl⟩ := hrel
        by_cases hlt2 : k2 < n2
        · obtain ⟨b, off, x, ea, hc, HX⟩ := H2.out.at k2 hlt2
          subst ea
          go_wp2
          · go_ret; exact ⟨isBool _, rfl⟩
          · go_ret; exact ⟨isBool _, rfl⟩
          · go_round
            case rel => exact ⟨k2 + 1, _, by omega, by go_num, rfl⟩
            case measure => simp [intOf]; omega
        · go_wp2
          all_goals try (go_ret; exact ⟨isBool _, rfl⟩)
          go_loop [15, 18] (fun t i => ∃ (k : Nat) (m : Int), k ≤ n5 ∧ i = .int .i64 k ∧ t = .int .i64 m) (fun _ i => n5 - (intOf i).toNat)
          case atStart => exact ⟨0, _, by omega, rfl, rfl⟩
          case round =>
            obtain ⟨k5, m5, hk5, rfl, rfl⟩ := hrel
            by_cases hlt5 : k5 < n5
            · obtain ⟨b, off, x, ea, hc, HX⟩ := H5.out.at k5 hlt5
              subst ea
              go_wp2
              · go_ret; exact ⟨isBool _, rfl⟩
              · go_ret; exact ⟨isBool _, rfl⟩
              · go_round
                case rel => exact ⟨k5 + 1, _, by omega, by go_num, rfl⟩
                case measure => simp [intOf]; omega
            · go_wp2
              all_goals try (go_ret; exact ⟨isBool _, rfl⟩)
              go_loop [15, 19] (fun t i => ∃ (k : Nat) (m : Int), k ≤ n6 ∧ i = .int .i64 k ∧ t = .int .i64 m) (fun _ i => n6 - (intOf i).toNat)
              case atStart => exact ⟨0, _, by omega, rfl, rfl⟩
              case round =>
                obtain ⟨k6, m6, hk6, rfl, rfl⟩ := hrel
                by_cases hlt6 : k6 < n6
                · obtain ⟨b, off, x, ea, hc, HX⟩ := H6.out.at k6 hlt6
                  subst ea
                  go_wp2
                  · go_ret; exact ⟨isBool _, rfl⟩
                  · go_ret; exact ⟨isBool _, rfl⟩
                  · go_round
                    case rel => exact ⟨k6 + 1, _, by omega, by go_num, rfl⟩
                    case measure => simp [intOf]; omega
                · go_wp2
                  all_goals (go_ret; exact ⟨isBool _, rfl⟩)

/-- A whole number comes back. -/
def IsInt (e : Ending) : Prop := ∃ r, e = .returned (.int .i64 r)
theorem isInt (r : Int) : IsInt (.returned (.int .i64 r)) := ⟨r, rfl⟩

theorem addCount_any (x y : Int) (w : World) : Calls Try.prog 36 #[.int .i64 x, .int .i64 y] w fun e w' => IsInt e ∧ w' = w := by
  go_enter Try.func36, Try.ntmps36
  go_wp2
  all_goals (go_ret; exact ⟨isInt _, rfl⟩)

set_option maxHeartbeats 1000000 in
theorem addStr_any (x : Int) (a : Option Addr) (n c : Nat) (l : List Tx) (w : World) (h : SV encStr w a n c l) : Calls Try.prog 37 #[.int .i64 x, .slice a n c] w fun e w' => IsInt e ∧ w' = w := by
  have H : Hid (SV encStr w a n c l) := h
  have b1 : n ≤ 9223372036854775807 := by have := h.le; have := h.max; unfold maxLen at this; omega
  clear h
  go_enter Try.func37, Try.ntmps37
  go_wp2
  all_goals try (go_ret; exact ⟨isInt _, rfl⟩)
  go_loop [0, 5] (fun t i => ∃ (k : Nat) (m : Int), k ≤ n ∧ i = .int .i64 k ∧ t = .int .i64 m) (fun _ i => n - (intOf i).toNat)
  case atStart => exact ⟨0, _, by omega, rfl, rfl⟩
  case round =>
    obtain ⟨k, m, hk, rfl, rfl⟩ := hrel
    by_cases hlt : k < n
    · obtain ⟨b, off, x, ea, hc, HX⟩ := H.out.at k hlt
      subst ea
      go_wp2
      all_goals try (go_ret; exact ⟨isInt _, rfl⟩)
      go_round
      case rel => exact ⟨k + 1, _, by omega, by go_num, rfl⟩
      case measure => simp [intOf]; omega
    · go_wp2
      all_goals (go_ret; exact ⟨isInt _, rfl⟩)

set_option maxHeartbeats 1000000 in
theorem treeBytes_any (a0 a1 a2 a3 a5 a6 : Option Addr) (n0 n1 n2 n3 n5 n6 c0 c1 c2 c3 c5 c6 : Nat) (l1 l2 l5 l6 : List Tx) (w : World) (h1 : SV encStr w a1 n1 c1 l1) (h2 : SV encStr w a2 n2 c2 l2) (h5 : SV encStr w a5 n5 c5 l5) (h6 : SV encStr w a6 n6 c6 l6) :
    Calls Try.prog 15 #[.slice a0 n0 c0, .slice a1 n1 c1, .slice a2 n2 c2, .slice a3 n3 c3, .slice a5 n5 c5, .slice a6 n6 c6] w fun e w' => IsInt e ∧ w' = w := by
  go_enter Try.func15, Try.ntmps15
  go_wp2_with fail
  refine (addCount_any _ _ w).mono ?_
  rintro e w' ⟨⟨x1, rfl⟩, hw⟩
  subst w'
  go_wp2_with fail
  refine (addCount_any _ _ w).mono ?_
  rintro e w' ⟨⟨x2, rfl⟩, hw⟩
  subst w'
  go_wp2_with fail
  refine (addStr_any _ _ _ _ _ w h1).mono ?_
  rintro e w' ⟨⟨x3, rfl⟩, hw⟩
  subst w'
  go_wp2_with fail
  refine (addStr_any _ _ _ _ _ w h2).mono ?_
  rintro e w' ⟨⟨x4, rfl⟩, hw⟩
  subst w'
  go_wp2_with fail
  refine (addStr_any _ _ _ _ _ w h5).mono ?_
  rintro e w' ⟨⟨x5, rfl⟩, hw⟩
  subst w'
  go_wp2_with fail
  refine (addStr_any _ _ _ _ _ w h6).mono ?_
  rintro e w' ⟨⟨x6, rfl⟩, hw⟩
  subst w'
  go_wp2
  go_ret
  exact ⟨isInt _, rfl⟩

/-- Element k, or the empty string. -/
def atS (l : List Tx) (k : Nat) : Tx := l.getD k []
/-- Element k, or false. -/
def atB (l : List Bool) (k : Nat) : Bool := l.getD k false

theorem atS_any (a : Option Addr) (n c : Nat) (l : List Tx) (k : Nat) (w : World) (h : SV encStr w a n c l) : Calls Try.prog 18 #[.slice a n c, .int .i64 k] w fun e w' => e = .returned (encStr (atS l k)) ∧ w' = w := by
  by_cases hlt : k < n
  · obtain ⟨b, off, x, ea, hc, HX⟩ := h.at k hlt
    have HX2 : Hid (atS l k = x) := HX
    have hlt' : (k : Int) < (n : Int) := by omega
    clear h HX
    subst ea
    go_enter Try.func18, Try.ntmps18
    go_wp2
    go_ret
    exact ⟨congrArg (fun y => Ending.returned (encStr y)) HX2.out.symm, rfl⟩
  · have HX2 : Hid (atS l k = []) := by
      show l.getD k [] = []
      rw [List.getD_eq_getElem?_getD, List.getElem?_eq_none (by rw [h.len]; omega)]; rfl
    have hlt' : ¬ (k : Int) < (n : Int) := by omega
    clear h
    go_enter Try.func18, Try.ntmps18
    go_wp2
    go_ret
    exact ⟨congrArg (fun y => Ending.returned (encStr y)) HX2.out.symm, rfl⟩

theorem atB_any (a : Option Addr) (n c : Nat) (l : List Bool) (k : Nat) (w : World) (h : SV Value.bool w a n c l) : Calls Try.prog 41 #[.slice a n c, .int .i64 k] w fun e w' => e = .returned (.bool (atB l k)) ∧ w' = w := by
  by_cases hlt : k < n
  · obtain ⟨b, off, x, ea, hc, HX⟩ := h.at k hlt
    have HX2 : Hid (atB l k = x) := HX
    have hlt' : (k : Int) < (n : Int) := by omega
    clear h HX
    subst ea
    go_enter Try.func41, Try.ntmps41
    go_wp2
    go_ret
    exact ⟨congrArg (fun y => Ending.returned (.bool y)) HX2.out.symm, rfl⟩
  · have HX2 : Hid (atB l k = false) := by
      show l.getD k false = false
      rw [List.getD_eq_getElem?_getD, List.getElem?_eq_none (by rw [h.len]; omega)]; rfl
    have hlt' : ¬ (k : Int) < (n : Int) := by omega
    clear h
    go_enter Try.func41, Try.ntmps41
    go_wp2
    go_ret
    exact ⟨congrArg (fun y => Ending.returned (.bool y)) HX2.out.symm, rfl⟩

end Go.Proofs.Qxb6600222a
