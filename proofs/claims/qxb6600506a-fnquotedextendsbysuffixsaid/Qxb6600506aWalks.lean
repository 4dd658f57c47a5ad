import Derived.Test.Qxb6600506aRows
import Derived.Test.Qxb6600506aPlain
import Derived.WalkKit
import Derived.WalkLawsBesides
import Derived.Deep.QuietTactic
import Derived.BigQuiet
import Derived.OpenShut
import Derived.WalkSpells
import Derived.Lib.SliceRun
namespace Go.Proofs.Qxb6600506a
open Go.RowKit
open Go.Proofs.Qxb6600506a.Plain

/-- WHAT A SLICE OF BYTES HOLDS: the numbers l, in the world w. -/
structure SV (w : World) (a : Option Addr) (n cap : Nat) (l : List Int) : Prop where
  len : l.length = n
  le : n ≤ cap
  max : cap ≤ maxLen
  nil : a = none → n = 0 ∧ cap = 0
  cells : 0 < n → ∃ b off, a = some ⟨b, off, none⟩ ∧ ∀ j, j < n → w.cell? ⟨b, off + j, none⟩ = some (.int .u8 (l.getD j 0))

theorem SV.below {w w' : World} {a : Option Addr} {n cap : Nat} {l : List Int} (h : SV w a n cap l) (hb : Below w.heap.size w w') : SV w' a n cap l := by
  refine ⟨h.len, h.le, h.max, h.nil, fun hn => ?_⟩
  obtain ⟨b, off, rfl, hc⟩ := h.cells hn
  refine ⟨b, off, rfl, fun j hj => ?_⟩
  have := hc j hj
  rw [← this]
  exact hb.cell (World.block_lt_of_cell? _ _ this)

theorem SV.drewN {w : World} {a : Option Addr} {n cap : Nat} {l : List Int} (h : SV w a n cap l) (k : Nat) : SV (w.drewN k) a n cap l :=
  h.below (below_drewN (Below.refl _ _) _)

/-- The slice from place j on. -/
theorem SV.drop {w : World} {a : Option Addr} {n cap : Nat} {l : List Int} (h : SV w a n cap l) (j : Nat) (hj : j ≤ n) :
    SV w (if cap = j then a else a.map (·.add (j * 1))) (n - j) (cap - j) (l.drop j) := by
  refine ⟨by rw [List.length_drop, h.len], by have := h.le; omega, by have := h.max; omega, ?_, fun hn => ?_⟩
  · intro e
    split at e
    · obtain ⟨h1, h2⟩ := h.nil e; omega
    · cases a with
      | none => obtain ⟨h1, h2⟩ := h.nil rfl; omega
      | some x => simp at e
  · obtain ⟨b, off, rfl, hc⟩ := h.cells (by omega)
    rw [if_neg (by have := h.le; omega)]
    refine ⟨b, off + j, ?_, fun i hi => ?_⟩
    · by_cases h0 : j = 0
      · subst h0; rfl
      · simp [Addr.add, h0]
    · rw [Nat.add_assoc, hc (j + i) (by omega)]
      rw [List.getD_eq_getElem?_getD, List.getD_eq_getElem?_getD, List.getElem?_drop]

/-- The slice up to place j. -/
theorem SV.take {w : World} {a : Option Addr} {n cap : Nat} {l : List Int} (h : SV w a n cap l) (j : Nat) (hj : j ≤ n) : SV w a j cap (l.take j) := by
  refine ⟨by rw [List.length_take, h.len]; omega, by have := h.le; omega, h.max, fun e => ?_, fun hn => ?_⟩
  · obtain ⟨h1, h2⟩ := h.nil e; omega
  · obtain ⟨b, off, rfl, hc⟩ := h.cells (by omega)
    refine ⟨b, off, rfl, fun i hi => ?_⟩
    rw [hc i (by omega), List.getD_eq_getElem?_getD, List.getD_eq_getElem?_getD, List.getElem?_take, if_pos hi]

/-- What 'quoted' leaves. -/
def Quoted (w : World) (n cap : Nat) (l : List Int) (e : Ending) (w' : World) : Prop :=
  w' = w ∧ ((q l = none ∧ e = .returned (.tuple #[.slice none 0 0, .bool false])) ∨
    ∃ j a', q l = some j ∧ j ≤ n ∧ e = .returned (.tuple #[.slice a' (n - j) (cap - j), .bool true]) ∧ SV w a' (n - j) (cap - j) (l.drop j))

set_option maxHeartbeats 1000000 in
theorem quoted_any (a : Option Addr) (n cap : Nat) (l : List Int) (w : World) (h : SV w a n cap l) (hsm : n ≤ 1048576) :
    Calls Try.prog 29 #[.slice a n cap] w (Quoted w n cap l) := by
  by_cases hn : n = 0
  · subst hn
    go_enter Try.func29, Try.ntmps29
    go_wp2
    go_ret2
    exact ⟨rfl, .inl ⟨by rw [q, if_pos h.len], rfl⟩⟩
  · have hlen := h.len
    obtain ⟨b, off, rfl, hc⟩ := h.cells (by omega)
    have h0 : ((n : Int) == 0) = false := beq_eq_false_iff_ne.2 (by omega)
    have hmx := h.max
    have hle := h.le
    unfold maxLen at hmx
    have HS : Hid (SV w (some ⟨b, off, none⟩) n cap l) := h
    have HL : Hid (l.length = n) := hlen
    have HC : Hid (∀ j, j < n → w.cell? ⟨b, off + j, none⟩ = some (.int .u8 (l.getD j 0))) := hc
    clear hlen h hc
    obtain ⟨c0, hc0, HC0⟩ : ∃ c0, w.cell? ⟨b, off, none⟩ = some (.int .u8 c0) ∧ Hid (l.getD 0 0 = c0) := ⟨_, by have := HC.out 0 (by omega); simpa only [Nat.add_zero] using this, rfl⟩
    by_cases h34 : c0 = 34
    · have hne : (c0 != 34) = false := by simp [h34]
      have HQ : Hid (q l = qf l n 1) := by
        show q l = qf l n 1
        rw [q, if_neg (by rw [HL.out]; exact hn), if_pos (by rw [HC0.out]; exact h34), HL.out]
      clear HC0 h34
      go_enter Try.func29, Try.ntmps29
      go_wp2
      go_loop [4] (fun i => ∃ k f : Nat, 1 ≤ k ∧ k ≤ n + 1 ∧ n ≤ f + k ∧ i = .int .i64 k ∧ Hid (q l = qf l f k)) (fun i => n + 1 - (intOf i).toNat)
      case atStart => exact ⟨1, n, by omega, by omega, by omega, rfl, HQ⟩
      case round =>
        obtain ⟨k, f, hk1, hk2, hkf, rfl, HK⟩ := hrel
        clear HQ hc0 hne
        by_cases hlt : k < n
        · obtain ⟨f, rfl⟩ : ∃ g, f = g + 1 := ⟨f - 1, by omega⟩
          obtain ⟨c, hc, HC1⟩ : ∃ c, w.cell? ⟨b, off + k, none⟩ = some (.int .u8 c) ∧ Hid (l.getD k 0 = c) := ⟨_, HC.out k hlt, rfl⟩
          have hkl : k < l.length := by rw [HL.out]; exact hlt
          by_cases h92 : c = 92
          · have e92 : (c == 92) = true := by simp [h92]
            have HK' : Hid (q l = qf l f (k + 2)) := by
              show q l = _
              rw [HK.out, qf_esc l f k hkl (by rw [HC1.out]; exact h92)]
            clear h92 HK HC1
            go_wp2
            go_round
            case rel => exact ⟨k + 2, f, by omega, by omega, by omega, by go_num, HK'⟩
            case measure => simp [intOf]; omega
          · have e92 : (c == 92) = false := by simp [h92]
            by_cases h34 : c = 34
            · have e34 : (c == 34) = true := by simp [h34]
              have HK' : Hid (q l = some (k + 1)) := by
                show q l = _
                rw [HK.out, qf_hit l f k hkl (by rw [HC1.out]; exact h34)]
              clear h92 h34 HK HC1
              go_wp2
              · go_ret2
                have hd := HS.out.drop (k + 1) (by omega)
                have ek : cap = k + 1 := by assumption
                rw [if_pos ek, ek] at hd
                refine ⟨rfl, .inr ⟨k + 1, some ⟨b, off, none⟩, HK'.out, by omega, ?_, hd⟩⟩
                rw [Nat.sub_self]
                rfl
              · go_ret2
                have hd := HS.out.drop (k + 1) (by omega)
                rw [if_neg (by assumption), Option.map_some, Nat.mul_one, Addr.add_lit] at hd
                exact ⟨rfl, .inr ⟨k + 1, _, HK'.out, by omega, rfl, hd⟩⟩
            · have e34 : (c == 34) = false := by simp [h34]
              have HK' : Hid (q l = qf l f (k + 1)) := by
                show q l = _
                rw [HK.out, qf_on l f k hkl (by rw [HC1.out]; exact h92) (by rw [HC1.out]; exact h34)]
              clear h92 h34 HK HC1
              go_wp2
              go_round
              case rel => exact ⟨k + 1, f, by omega, by omega, by omega, by go_num, HK'⟩
              case measure => simp [intOf]; omega
        · go_wp2
          go_ret2
          exact ⟨rfl, .inl ⟨by rw [HK.out]; exact qf_end l f k (by rw [HL.out]; omega), rfl⟩⟩
    · have hne : (c0 != 34) = true := by simp [h34]
      go_enter Try.func29, Try.ntmps29
      go_wp2
      go_ret2
      exact ⟨rfl, .inl ⟨by rw [q, if_neg (by rw [HL.out]; exact hn), if_neg (by rw [HC0.out]; exact h34)], rfl⟩⟩

theorem zzquoted_any (a : Option Addr) (n cap : Nat) (l : List Int) (w : World) (h : SV w a n cap l) (hsm : n ≤ 1048576) :
    Calls Try.prog 13 #[.slice a n cap] w (Quoted w n cap l) := by
  have H : Hid (SV w a n cap l) := h
  clear h
  go_enter Try.func13, Try.ntmps13
  go_wp2_with fail
  refine (quoted_any a n cap l w H.out hsm).mono ?_
  rintro e w' ⟨hw, ⟨hq, rfl⟩ | ⟨j, a', hq, hj, rfl, hd⟩⟩
  · subst w'
    have HQ : Hid (q l = none) := hq
    clear hq
    go_wp2
    go_ret2
    exact ⟨rfl, .inl ⟨HQ.out, rfl⟩⟩
  · subst w'
    have HQ : Hid (q l = some j) := hq
    have HD : Hid (SV w a' (n - j) (cap - j) (l.drop j)) := hd
    clear hq hd
    go_wp2
    go_ret2
    exact ⟨rfl, .inr ⟨j, a', HQ.out, hj, rfl, HD.out⟩⟩

theorem ret_bool {a b : Bool} (h : a = b) : Ending.returned (.bool a) = .returned (.bool b) := by rw [h]

theorem take_succ_getD (l : List Int) (k : Nat) (h : k < l.length) : l.take (k + 1) = l.take k ++ [l.getD k 0] := by
  rw [List.take_succ_eq_append_getElem h, List.getD_eq_getElem?_getD, List.getElem?_eq_getElem h]
  rfl

/-- 'zzSame': do the two slices hold the same numbers? -/
theorem same_any (a b : Option Addr) (n m ca cb : Nat) (la lb : List Int) (w : World) (ha : SV w a n ca la) (hb : SV w b m cb lb) :
    Calls Try.prog 15 #[.slice a n ca, .slice b m cb] w fun e w' => e = .returned (.bool (decide (la = lb))) ∧ ∃ k, w' = w.drewN k := by
  by_cases hnm : n = m
  · subst hnm
    have hmx := ha.max
    have hle := ha.le
    unfold maxLen at hmx
    have hnn : ((n : Int) != (n : Int)) = false := by simp
    have HA : Hid (SV w a n ca la) := ha
    have HB : Hid (SV w b n cb lb) := hb
    clear ha hb
    go_enter Try.func15, Try.ntmps15
    go_wp2
    go_loopw [5] (fun i wr => ∃ k x : Nat, k ≤ n ∧ i = .int .i64 k ∧ wr = w.drewN x ∧ Hid (la.take k = lb.take k)) (fun i _ => n - (intOf i).toNat)
    case atStart => exact ⟨0, 0, by omega, rfl, rfl, rfl⟩
    case round =>
      obtain ⟨k, x, hk, rfl, rfl, HK⟩ := hrel
      by_cases hlt : k < n
      · obtain ⟨b1, o1, ea, hca⟩ := HA.out.cells (by omega)
        obtain ⟨b2, o2, eb, hcb⟩ := HB.out.cells (by omega)
        have hla := HA.out.len
        have hlb := HB.out.len
        obtain ⟨c, hc, HC⟩ : ∃ c, w.cell? ⟨b1, o1 + k, none⟩ = some (.int .u8 c) ∧ Hid (la.getD k 0 = c) := ⟨_, hca k hlt, rfl⟩
        obtain ⟨d, hd, HD⟩ : ∃ d, w.cell? ⟨b2, o2 + k, none⟩ = some (.int .u8 d) ∧ Hid (lb.getD k 0 = d) := ⟨_, hcb k hlt, rfl⟩
        have HTA : Hid (la.take (k + 1) = la.take k ++ [c]) := by rw [← HC.out]; exact take_succ_getD la k (by omega)
        have HTB : Hid (lb.take (k + 1) = lb.take k ++ [d]) := by rw [← HD.out]; exact take_succ_getD lb k (by omega)
        clear hca hcb hla hlb HC HD
        subst ea eb
        have hlt' : (k : Int) < (n : Int) := by omega
        by_cases hcd : c = d
        · have hcd' : (c != d) = false := by simp [hcd]
          have HK' : Hid (la.take (k + 1) = lb.take (k + 1)) := by
            show la.take (k + 1) = _
            rw [HTA.out, HTB.out, HK.out, hcd]
          clear hcd HK HTA HTB
          go_wp2
          go_quiet (fail)
          go_wp2
          go_roundw
          case rel => exact ⟨k + 1, _, by omega, by go_num, rfl, HK'⟩
          case measure => simp [intOf]; omega
        · have hcd' : (c != d) = true := by simp [hcd]
          have HF : Hid (¬ la = lb) := by
            intro e
            subst e
            have e1 := HTA.out
            rw [HTB.out] at e1
            exact hcd (by simpa using e1.symm)
          clear hcd HK HTA HTB
          go_wp2
          go_quiet (fail)
          go_wp2
          go_ret
          exact ⟨ret_bool (decide_eq_false HF.out).symm, _, World.drewN_drewN _ _ _⟩
      · have hla := HA.out.len
        have hlb := HB.out.len
        have HE : Hid (la = lb) := by
          have e := HK.out
          rw [List.take_of_length_le (by omega), List.take_of_length_le (by omega)] at e
          exact e
        clear hla hlb
        go_wp2
        go_ret
        exact ⟨ret_bool (decide_eq_true HE.out).symm, _, rfl⟩
  · have hnn : ((n : Int) != (m : Int)) = true := by simp; omega
    go_enter Try.func15, Try.ntmps15
    go_wp2
    go_ret
    refine ⟨ret_bool (decide_eq_false fun e => ?_).symm, 0, rfl⟩
    subst e
    exact hnm (ha.len.symm.trans hb.len)

theorem Try.info5 : (Try.prog.info? 5).map (fun i => (i.zero, i.size, i.bytes)) = some (some (.int .u8 0), 1, 1) := by kernel_rfl

/-- The row of numbers l at block g: the call's own. -/
def BRow (w : World) (base g : Nat) (cap : Nat) (l : List Int) : Prop :=
  w.ownsRow base 5 1 (.slice (some ⟨g, 0, none⟩) l.length cap) l.length (l.map (Value.int .u8))

theorem BRow.set {w : World} {base g cap : Nat} {l : List Int} (h : BRow w base g cap l) (j : Nat) (c : Int) :
    BRow (w.setCell ⟨g, j, none⟩ (.int .u8 c)) base g cap (l.set j c) := by
  have := (h.stored j (.int .u8 c)).1
  unfold BRow
  rw [List.map_set, List.length_set]
  exact this

theorem BRow.cell {w : World} {base g cap : Nat} {l : List Int} (h : BRow w base g cap l) (j : Nat) (hj : j < l.length) : w.cell? ⟨g, j, none⟩ = some (.int .u8 (l.getD j 0)) := by
  rw [World.ownsRow.cellAt h j (by omega), List.getElem?_map, List.getD_eq_getElem?_getD, List.getElem?_eq_getElem hj]
  rfl

theorem BRow.frozen {w : World} {base g cap : Nat} {l : List Int} (h : BRow w base g cap l) (j : Nat) : w.frozen? ⟨g, j, none⟩ = false := World.ownsRow.frozenAt h j

theorem BRow.sv {w : World} {base g cap n : Nat} {l : List Int} (h : BRow w base g cap l) (hn : l.length = n) (h1 : n ≤ cap) (h2 : cap ≤ maxLen) : SV w (some ⟨g, 0, none⟩) n cap l := by
  refine ⟨hn, h1, h2, (fun e => by cases e), fun _ => ⟨g, 0, rfl, fun j hj => ?_⟩⟩
  rw [Nat.zero_add]
  exact h.cell j (by omega)

/-- The first k numbers copied, the rest zero. -/
def half (l : List Int) (k : Nat) : List Int := l.take k ++ List.replicate (l.length - k) 0

theorem half_length (l : List Int) (k : Nat) (h : k ≤ l.length) : (half l k).length = l.length := by simp [half]; omega

theorem half_set (l : List Int) (k : Nat) (h : k < l.length) : (half l k).set k (l.getD k 0) = half l (k + 1) := by
  unfold half
  rw [List.set_append_right _ _ (by simp; omega)]
  have e1 : (l.take k).length = k := by simp; omega
  have e2 : l.length - k = (l.length - (k + 1)) + 1 := by omega
  rw [e1, Nat.sub_self, take_succ_getD l k h, e2, List.replicate_succ, List.set_cons_zero, List.append_assoc]
  rfl

theorem half_all (l : List Int) (k : Nat) (h : l.length ≤ k) : half l k = l := by
  unfold half
  rw [List.take_of_length_le h, show l.length - k = 0 from by omega]
  simp

theorem half_zero (l : List Int) : half l 0 = List.replicate l.length 0 := by simp [half]

theorem made_row {w : World} {B n : Nat} {l : List Int} (hl : l.length = n) (h : w.ownsRow B 5 1 (.slice (some ⟨B, 0, none⟩) n n) n (madeCells (Value.int .u8 0).cells (n * 1)).toList) :
    BRow w B B n (half l 0) := by
  unfold BRow
  rw [half_length _ _ (Nat.zero_le _), hl, half_zero, hl, List.map_replicate]
  rw [Nat.mul_one] at h
  have e2 : (madeCells (Value.int .u8 0).cells n).toList = List.replicate n (.int .u8 0) := toList_madeCells_one _ _
  rw [e2] at h
  exact h

/-- What 'zzCopy' leaves. -/
def Copied (w : World) (n : Nat) (l : List Int) (e : Ending) (w' : World) : Prop :=
  Below w.heap.size w w' ∧ ∃ a, e = .returned (.slice a n n) ∧ SV w' a n n l

set_option maxHeartbeats 1000000 in
theorem copy_any (a : Option Addr) (n cap : Nat) (l : List Int) (w : World) (h : SV w a n cap l) (hsm : n ≤ 1048576) :
    Calls Try.prog 12 #[.slice a n cap] w (Copied w n l) := by
  have q22 : ∀ (w : World) (a : Option Addr) (n c n' c' : Nat), (binOp .eql 22 (.slice a n c) (.slice none n' c')).run Try.prog w = .ok (.bool a.isNone) w := fun w a n c n' c' => Lib.run_eql_slice_nil w _ _ a n c n' c' Try.underlying22
  cases a with
  | none =>
    obtain ⟨rfl, rfl⟩ := h.nil rfl
    go_enter Try.func12, Try.ntmps12
    go_wp2
    go_ret
    exact ⟨Below.refl _ _, none, rfl, h⟩
  | some x =>
    have HS : Hid (SV w (some x) n cap l) := h
    have hmx : n ≤ maxLen := by unfold maxLen; omega
    have HL : Hid (l.length = n) := h.len
    have hle := h.le
    have hcm : cap ≤ 9223372036854775807 := h.max
    clear h
    obtain ⟨i0, hi, hz0, hz1, hz2⟩ := info_parts Try.info5
    go_enter Try.func12, Try.ntmps12
    go_wp2_with (at_make; refine wpList_make_full _ rfl (.tmp 8) (.tmp 8) 22 rfl w.heap.size 5 i0 (.int .u8 0) 1 Try.underlying22 hi hz0 hz1 .i64 .i64 _ _ n rfl rfl rfl rfl (by rw [hz2]; omega) hmx (Nat.le_refl _) ?_; intro w1 hown hgrow)
    have hrow : BRow w1 w.heap.size w.heap.size n (half l 0) := made_row HL.out hown
    have hbel : Below w.heap.size w w1 := (Below.refl _ w).grown hgrow (Nat.le_refl _) (by intro k h; cases h)
    clear hown hgrow hi hz0 hz1 hz2
    go_loopw [4] (fun i wr => ∃ k : Nat, k ≤ n ∧ i = .int .i64 k ∧ BRow wr w.heap.size w.heap.size n (half l k) ∧ Below w.heap.size w wr) (fun i _ => n - (intOf i).toNat)
    case atStart => exact ⟨0, Nat.zero_le _, rfl, hrow, hbel⟩
    case round =>
      clear hrow hbel
      obtain ⟨k, hk, rfl, hrow, hbel⟩ := hrel
      by_cases hlt : k < n
      · have hkl : k < l.length := by rw [HL.out]; exact hlt
        obtain ⟨b, o, ea, hca⟩ := HS.out.cells (by omega)
        have hlt' : (k : Int) < (n : Int) := by omega
        have hc := hrow.cell k (by rw [half_length _ _ (by omega)]; exact hkl)
        have hf := hrow.frozen k
        obtain ⟨c, hcx, HC⟩ : ∃ c, wr.cell? ⟨b, o + k, none⟩ = some (.int .u8 c) ∧ Hid (l.getD k 0 = c) := ⟨_, (hbel.cell (World.block_lt_of_cell? _ _ (hca k hlt))).trans (hca k hlt), rfl⟩
        obtain rfl := Option.some.inj ea
        have hrow' : Hid (BRow (wr.setCell ⟨w.heap.size, k, none⟩ (.int .u8 c)) w.heap.size w.heap.size n (half l (k + 1))) := by
          rw [← half_set _ k hkl, HC.out]; exact hrow.set k c
        have hbel' : Hid (Below w.heap.size w (wr.setCell ⟨w.heap.size, k, none⟩ (.int .u8 c))) := hbel.setCell (Nat.le_refl _) _
        generalize (half l k).getD k 0 = old at hc
        clear hrow hbel ea hca HC
        go_wp2
        go_roundw
        case rel => exact ⟨k + 1, by omega, by go_num, hrow'.out, hbel'.out⟩
        case measure => simp [intOf]; omega
      · rw [half_all _ _ (by rw [HL.out]; omega)] at hrow
        have HR : Hid (BRow wr w.heap.size w.heap.size n l) := hrow
        have HB : Hid (Below w.heap.size w wr) := hbel
        clear hrow hbel
        go_wp2
        go_ret
        exact ⟨HB.out, _, rfl, HR.out.sv HL.out (Nat.le_refl _) hmx⟩
end Go.Proofs.Qxb6600506a
