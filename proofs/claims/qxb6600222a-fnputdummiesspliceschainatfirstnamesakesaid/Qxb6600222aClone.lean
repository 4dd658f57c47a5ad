import Derived.Test.Qxb6600222aRead
namespace Go.Proofs.Qxb6600222a
open Go.RowKit

theorem Try.info4 : (Try.prog.info? 4).map (fun i => (i.zero, i.size, i.bytes)) = some (some (.bool false), 1, 1) := by kernel_rfl
theorem Try.info9 : (Try.prog.info? 9).map (fun i => (i.zero, i.size, i.bytes)) = some (some (.string ⟨#[]⟩), 1, 16) := by kernel_rfl

set_option linter.unusedSectionVars false
section
variable {α : Type} [Inhabited α]

/-- The row of elements l at block g, of element type e: the call's own. -/
def Row (mk : α → Value) (e : TypeId) (w : World) (base g cap : Nat) (l : List α) : Prop :=
  w.ownsRow base e 1 (.slice (some ⟨g, 0, none⟩) l.length cap) l.length (l.map mk)

variable {mk : α → Value} {e : TypeId} {w : World} {base g cap : Nat} {l : List α}

theorem Row.set (h : Row mk e w base g cap l) (j : Nat) (c : α) : Row mk e (w.setCell ⟨g, j, none⟩ (mk c)) base g cap (l.set j c) := by
  have := (World.ownsRow.stored h j (mk c)).1
  unfold Row
  rw [List.map_set, List.length_set]
  exact this

theorem Row.cell (h : Row mk e w base g cap l) (j : Nat) (hj : j < l.length) : w.cell? ⟨g, j, none⟩ = some (mk (l.getD j default)) := by
  rw [World.ownsRow.cellAt h j (by omega), List.getElem?_map, List.getD_eq_getElem?_getD, List.getElem?_eq_getElem hj]
  rfl

theorem Row.frozen (h : Row mk e w base g cap l) (j : Nat) : w.frozen? ⟨g, j, none⟩ = false := World.ownsRow.frozenAt h j

theorem Row.sv {n : Nat} (h : Row mk e w base g cap l) (hn : l.length = n) (h1 : n ≤ cap) (h2 : cap ≤ maxLen) : SV mk w (some ⟨g, 0, none⟩) n cap l := by
  refine ⟨hn, h1, h2, (fun e => by cases e), fun _ => ⟨g, 0, rfl, fun j hj => ?_⟩⟩
  rw [Nat.zero_add]
  exact h.cell j (by omega)

/-- The first k elements copied, the rest zero. -/
def half (l : List α) (k : Nat) : List α := l.take k ++ List.replicate (l.length - k) default

theorem half_length (l : List α) (k : Nat) (h : k ≤ l.length) : (half l k).length = l.length := by simp [half]; omega

theorem take_succ_getD (l : List α) (k : Nat) (h : k < l.length) : l.take (k + 1) = l.take k ++ [l.getD k default] := by
  rw [List.take_succ_eq_append_getElem h, List.getD_eq_getElem?_getD, List.getElem?_eq_getElem h]
  rfl

theorem half_set (l : List α) (k : Nat) (h : k < l.length) : (half l k).set k (l.getD k default) = half l (k + 1) := by
  unfold half
  rw [List.set_append_right _ _ (by simp; omega)]
  have e1 : (l.take k).length = k := by simp; omega
  have e2 : l.length - k = (l.length - (k + 1)) + 1 := by omega
  rw [e1, Nat.sub_self, take_succ_getD l k h, e2, List.replicate_succ, List.set_cons_zero, List.append_assoc]
  rfl

theorem half_all (l : List α) (k : Nat) (h : l.length ≤ k) : half l k = l := by
  unfold half
  rw [List.take_of_length_le h, show l.length - k = 0 from by omega]
  simp

theorem half_zero (l : List α) : half l 0 = List.replicate l.length default := by simp [half]

theorem made_row {z : Value} (hz : z.cells = #[z]) (hmk : mk default = z) {B n : Nat} (hl : l.length = n) (h : w.ownsRow B e 1 (.slice (some ⟨B, 0, none⟩) n n) n (madeCells z.cells (n * 1)).toList) :
    Row mk e w B B n (half l 0) := by
  unfold Row
  rw [half_length _ _ (Nat.zero_le _), hl, half_zero, hl, List.map_replicate, hmk]
  rw [Nat.mul_one, hz] at h
  rw [toList_madeCells_one] at h
  exact h
end

/-- What a clone leaves. -/
def Cloned {α : Type} [Inhabited α] (mk : α → Value) (te : TypeId) (w : World) (n : Nat) (l : List α) (e : Ending) (w' : World) : Prop :=
  ∃ a, e = .returned (.slice a n n) ∧ Hid (Below w.heap.size w w') ∧ Hid (SV mk w' a n n l) ∧ Hid (0 < n → a = some ⟨w.heap.size, 0, none⟩ ∧ Row mk te w' w.heap.size w.heap.size n l)

set_option maxHeartbeats 1000000 in
theorem cloneS_any (a : Option Addr) (n cap : Nat) (l : List Tx) (w : World) (h : SV encStr w a n cap l) (hsm : n ≤ 65536) :
    Calls Try.prog 17 #[.slice a n cap] w (Cloned encStr 9 w n l) := by
  have q29 : ∀ (w : World) (a : Option Addr) (n c n' c' : Nat), (binOp .eql 29 (.slice a n c) (.slice none n' c')).run Try.prog w = .ok (.bool a.isNone) w := fun w a n c n' c' => Lib.run_eql_slice_nil w _ _ a n c n' c' Try.underlying29
  cases a with
  | none =>
    obtain ⟨rfl, rfl⟩ := h.nil rfl
    go_enter Try.func17, Try.ntmps17
    go_wp2
    go_ret
    exact ⟨none, rfl, Below.refl _ _, h, fun h0 => absurd h0 (by omega)⟩
  | some x =>
    have HS : Hid (SV encStr w (some x) n cap l) := h
    have hmx : n ≤ maxLen := by unfold maxLen; omega
    have HL : Hid (l.length = n) := h.len
    have hle := h.le
    have hcm : cap ≤ 9223372036854775807 := h.max
    clear h
    obtain ⟨i0, hi, hz0, hz1, hz2⟩ := info_parts Try.info9
    go_enter Try.func17, Try.ntmps17
    go_wp2_with (at_make; refine wpList_make_full _ rfl (.tmp 8) (.tmp 8) 29 rfl w.heap.size 9 i0 (.string ⟨#[]⟩) 1 Try.underlying29 hi hz0 hz1 .i64 .i64 _ _ n rfl rfl rfl rfl (by rw [hz2]; omega) hmx (Nat.le_refl _) ?_; intro w1 hown hgrow)
    have hrow : Row encStr 9 w1 w.heap.size w.heap.size n (half l 0) := made_row rfl rfl HL.out hown
    have hbel : Below w.heap.size w w1 := (Below.refl _ w).grown hgrow (Nat.le_refl _) (by intro k h; cases h)
    clear hown hgrow hi hz0 hz1 hz2
    go_loopw [4] (fun i wr => ∃ k : Nat, k ≤ n ∧ i = .int .i64 k ∧ Row encStr 9 wr w.heap.size w.heap.size n (half l k) ∧ Below w.heap.size w wr) (fun i _ => n - (intOf i).toNat)
    case atStart => exact ⟨0, Nat.zero_le _, rfl, hrow, hbel⟩
    case round =>
      clear hrow hbel
      obtain ⟨k, hk, rfl, hrow, hbel⟩ := hrel
      by_cases hlt : k < n
      · have hkl : k < l.length := by rw [HL.out]; exact hlt
        obtain ⟨b, o, c, ea, hca, HC⟩ := HS.out.at k hlt
        have hlt' : (k : Int) < (n : Int) := by omega
        have hc := hrow.cell k (by rw [half_length _ _ (by omega)]; exact hkl)
        have hf := hrow.frozen k
        have hcx : wr.cell? ⟨b, o + k, none⟩ = some (encStr c) := (hbel.cell (World.block_lt_of_cell? _ _ hca)).trans hca
        obtain rfl := Option.some.inj ea
        have hrow' : Hid (Row encStr 9 (wr.setCell ⟨w.heap.size, k, none⟩ (encStr c)) w.heap.size w.heap.size n (half l (k + 1))) := by
          rw [← half_set _ k hkl, HC.out]; exact hrow.set k c
        have hbel' : Hid (Below w.heap.size w (wr.setCell ⟨w.heap.size, k, none⟩ (encStr c))) := hbel.setCell (Nat.le_refl _) _
        generalize (half l k).getD k default = old at hc
        clear hrow hbel ea hca HC
        go_wp2
        go_roundw
        case rel => exact ⟨k + 1, by omega, by go_num, hrow'.out, hbel'.out⟩
        case measure => simp [intOf]; omega
      · rw [half_all _ _ (by rw [HL.out]; omega)] at hrow
        have HR : Hid (Row encStr 9 wr w.heap.size w.heap.size n l) := hrow
        have HB : Hid (Below w.heap.size w wr) := hbel
        clear hrow hbel
        go_wp2
        go_ret
        exact ⟨_, rfl, HB, HR.out.sv HL.out (Nat.le_refl _) hmx, fun _ => ⟨rfl, HR.out⟩⟩

set_option maxHeartbeats 1000000 in
theorem cloneB_any (a : Option Addr) (n cap : Nat) (l : List Bool) (w : World) (h : SV Value.bool w a n cap l) (hsm : n ≤ 65536) :
    Calls Try.prog 16 #[.slice a n cap] w (Cloned Value.bool 4 w n l) := by
  have q28 : ∀ (w : World) (a : Option Addr) (n c n' c' : Nat), (binOp .eql 28 (.slice a n c) (.slice none n' c')).run Try.prog w = .ok (.bool a.isNone) w := fun w a n c n' c' => Lib.run_eql_slice_nil w _ _ a n c n' c' Try.underlying28
  cases a with
  | none =>
    obtain ⟨rfl, rfl⟩ := h.nil rfl
    go_enter Try.func16, Try.ntmps16
    go_wp2
    go_ret
    exact ⟨none, rfl, Below.refl _ _, h, fun h0 => absurd h0 (by omega)⟩
  | some x =>
    have HS : Hid (SV Value.bool w (some x) n cap l) := h
    have hmx : n ≤ maxLen := by unfold maxLen; omega
    have HL : Hid (l.length = n) := h.len
    have hle := h.le
    have hcm : cap ≤ 9223372036854775807 := h.max
    clear h
    obtain ⟨i0, hi, hz0, hz1, hz2⟩ := info_parts Try.info4
    go_enter Try.func16, Try.ntmps16
    go_wp2_with (at_make; refine wpList_make_full _ rfl (.tmp 8) (.tmp 8) 28 rfl w.heap.size 4 i0 (.bool false) 1 Try.underlying28 hi hz0 hz1 .i64 .i64 _ _ n rfl rfl rfl rfl (by rw [hz2]; omega) hmx (Nat.le_refl _) ?_; intro w1 hown hgrow)
    have hrow : Row Value.bool 4 w1 w.heap.size w.heap.size n (half l 0) := made_row rfl rfl HL.out hown
    have hbel : Below w.heap.size w w1 := (Below.refl _ w).grown hgrow (Nat.le_refl _) (by intro k h; cases h)
    clear hown hgrow hi hz0 hz1 hz2
    go_loopw [4] (fun i wr => ∃ k : Nat, k ≤ n ∧ i = .int .i64 k ∧ Row Value.bool 4 wr w.heap.size w.heap.size n (half l k) ∧ Below w.heap.size w wr) (fun i _ => n - (intOf i).toNat)
    case atStart => exact ⟨0, Nat.zero_le _, rfl, hrow, hbel⟩
    case round =>
      clear hrow hbel
      obtain ⟨k, hk, rfl, hrow, hbel⟩ := hrel
      by_cases hlt : k < n
      · have hkl : k < l.length := by rw [HL.out]; exact hlt
        obtain ⟨b, o, c, ea, hca, HC⟩ := HS.out.at k hlt
        have hlt' : (k : Int) < (n : Int) := by omega
        have hc := hrow.cell k (by rw [half_length _ _ (by omega)]; exact hkl)
        have hf := hrow.frozen k
        have hcx : wr.cell? ⟨b, o + k, none⟩ = some (.bool c) := (hbel.cell (World.block_lt_of_cell? _ _ hca)).trans hca
        obtain rfl := Option.some.inj ea
        have hrow' : Hid (Row Value.bool 4 (wr.setCell ⟨w.heap.size, k, none⟩ (.bool c)) w.heap.size w.heap.size n (half l (k + 1))) := by
          rw [← half_set _ k hkl, HC.out]; exact hrow.set k c
        have hbel' : Hid (Below w.heap.size w (wr.setCell ⟨w.heap.size, k, none⟩ (.bool c))) := hbel.setCell (Nat.le_refl _) _
        generalize (half l k).getD k default = old at hc
        clear hrow hbel ea hca HC
        go_wp2
        go_roundw
        case rel => exact ⟨k + 1, by omega, by go_num, hrow'.out, hbel'.out⟩
        case measure => simp [intOf]; omega
      · rw [half_all _ _ (by rw [HL.out]; omega)] at hrow
        have HR : Hid (Row Value.bool 4 wr w.heap.size w.heap.size n l) := hrow
        have HB : Hid (Below w.heap.size w wr) := hbel
        clear hrow hbel
        go_wp2
        go_ret
        exact ⟨_, rfl, HB, HR.out.sv HL.out (Nat.le_refl _) hmx, fun _ => ⟨rfl, HR.out⟩⟩
end Go.Proofs.Qxb6600222a
