import Derived.Test.Qxb6003669aSorts
import Derived.Maps.RangeWalk
namespace Go.Proofs.Qxb6003669a
open Go.RowKit Go.Maps
open Go.Proofs.Qxb6003669a.Plain

/-- The mode that the holders' map has for x. -/
def valAt (D : DataW Unit) (x : Tx) : Int := match D.atKey (.string x) (.lit (.int .i64 0)) with
  | .lit (.int _ c) => c
  | _ => 0

/-- x holds, in a mode that conflicts with a request of t in mode m. -/
def HC (D : DataW Unit) (t : Tx) (m : Int) (x : Tx) : Prop := Maps.has D (.string x) = true ∧ x ≠ t ∧ compat (valAt D x) m = false

/-- Gathered while the map is ranged over. -/
def Gath (D : DataW Unit) (left : Lit → Bool) (t : Tx) (m : Int) (base ss : List Tx) : Prop := ∀ x, x ∈ ss ↔ (x ∈ base ∨ (HC D t m x ∧ left (.string x) = false))

theorem Gath.start (D : DataW Unit) (t : Tx) (m : Int) (base : List Tx) : Gath D (Maps.has D) t m base base := by
  intro x
  constructor
  · exact .inl
  · rintro (h | ⟨h1, h2⟩)
    · exact h
    · rw [h1.1] at h2; cases h2

theorem Gath.keep {D : DataW Unit} {left : Lit → Bool} {t : Tx} {m : Int} {base ss : List Tx} (h : Gath D left t m base ss) {x : Tx} {c : Int} (hat : ∀ zd, D.atKey (.string x) zd = .lit (.int .i64 c)) (hxt : x ≠ t) (hc : compat c m = false) :
    Gath D (fun z => left z && !z.sameKey (.string x)) t m base (ss ++ [x]) := by
  have hhas : Maps.has D (.string x) = true := has_true_of_atKey hat
  have hv : valAt D x = c := by unfold valAt; rw [hat]
  intro y
  rw [List.mem_append, List.mem_singleton, h y]
  by_cases hy : y = x
  · subst hy
    constructor
    · intro _; exact .inr ⟨⟨hhas, hxt, by rw [hv]; exact hc⟩, by simp [Lit.sameKey]⟩
    · intro _; exact .inr rfl
  · simp [hy, Lit.sameKey]

theorem Gath.drop {D : DataW Unit} {left : Lit → Bool} {t : Tx} {m : Int} {base ss : List Tx} (h : Gath D left t m base ss) {x : Tx} {c : Int} (hlk : left (.string x) = true) (hat : ∀ zd, D.atKey (.string x) zd = .lit (.int .i64 c)) (hn : x = t ∨ compat c m = true) :
    Gath D (fun z => left z && !z.sameKey (.string x)) t m base ss := by
  have hv : valAt D x = c := by unfold valAt; rw [hat]
  intro y
  rw [h y]
  by_cases hy : y = x
  · subst hy
    constructor
    · rintro (h1 | ⟨_, h2⟩)
      · exact .inl h1
      · rw [hlk] at h2; cases h2
    · rintro (h1 | ⟨⟨_, h2, h3⟩, _⟩)
      · exact .inl h1
      · rcases hn with rfl | hn
        · exact absurd rfl h2
        · rw [hv, hn] at h3; cases h3
  · simp [hy, Lit.sameKey]

theorem Gath.done {D : DataW Unit} {left : Lit → Bool} {t : Tx} {m : Int} {base ss : List Tx} (h : Gath D left t m base ss) (hl : ∀ kl, left kl = false) : ∀ x, x ∈ ss ↔ (x ∈ base ∨ HC D t m x) := by
  intro x
  rw [h x, hl]
  simp

theorem owns_size {w : World} {b n : Nat} {D : DataW Unit} (h : w.ownsMap Try.prog 9 (plainElem Try.prog 44) b n D) : Maps.size D ≤ n := by
  obtain ⟨es, clock, _, _, hs, rfl⟩ := h
  rw [Maps.size_eq, length_sorted]
  simpa using hs

theorem neq_str (x t : Tx) : ((⟨x.toArray⟩ : ByteArray).toList == (⟨t.toArray⟩ : ByteArray).toList) = decide (x = t) := by
  rw [Lib.toList_data, Lib.toList_data]
  show (x == t) = decide (x = t)
  by_cases h : x = t
  · subst h; simp
  · rw [decide_eq_false h, beq_eq_false_iff_ne.2 h]

theorem Own.drewN {B : Nat} {w : World} {v : Value} {ss : List Tx} (h : Own B w v ss) (k : Nat) : Own B (w.drewN k) v ss := by
  refine ⟨h.1, ?_⟩
  rcases h.2 with h0 | h0
  · exact .inl h0
  · exact .inr h0

/-- The append of one id, at a list of operations. -/
theorem app_law {ops : Array Oper} {rest : List Oper} {o : Oper} {a : Act} {Q : Exit → Act → World → Prop} (w0 w : World) (B g : Nat) (hg : o.guard = none) (s x : Operand)
    (hop : o.op = Op.call { callee := Callee.builtin Builtin.append, args := #[s, x], argTypes := #[22, 22] }) (v : Value) (ss : List Tx) (u : Tx)
    (hs : a.eval s = v) (hx : a.eval x = .slice (some ⟨g, 0, none⟩) 1 1) (hgv : w.heap.size = g) (h : Own B w v ss) (hl : ss.length ≤ 1000000) (hB : Below B w0 w) (hB2 : B ≤ w0.heap.size)
    (hK : ∀ v' w', Hid (Own B w' v' (ss ++ [u])) → Hid (Below B w0 w') → wpList Try.prog ops Q rest (a.put o.dst v') w') : wpList Try.prog ops Q (o :: rest) a (w.alloc (.cells #[encStr u] 9)) := by
  obtain ⟨i0, hi0, hz0, hz1, hz2⟩ := info_parts Try.info9
  have hsz := hB.size
  refine wpList_append_own _ hg s x 22 hop B 9 i0 (.string ⟨#[]⟩) 1 16 Try.underlying22 hi0 hz0 hz1 hz2 rfl (by decide) v ss.length _ hs (World.ownsRow.alloc h _) ⟨g, 0, none⟩ 1 1 [encStr u] hx rfl ?_ (by simp [Value.oneCell']) (by unfold maxLen; omega) (by omega) (by simp; omega) ?_
  · subst hgv; exact cell_one_new _ _ _
  · intro v' w' hown hgr _
    refine hK v' w' ?_ ?_
    · unfold Hid Own; simpa using hown
    · exact (hB.alloc (by omega) _).grown hgr (by simp; omega) (fun j hj => (World.ownsRow.lt h j hj).1)

/-- What a request waits for. -/
def Blocks (D : DataW Unit) (qs : List (Tx × Bool)) (i : Nat) (x : Tx) : Prop :=
  HC D (qs.getD i default).1 (modeOf (qs.getD i default).2) x ∨ ∃ j, j < i ∧ (qs.getD j default).1 = x ∧ compat (modeOf (qs.getD j default).2) (modeOf (qs.getD i default).2) = false

/-- ids that answer to a condition. -/
def Answer (w : World) (C : Tx → Prop) (e : Ending) (w' : World) : Prop := ∃ ss, (∀ x, x ∈ ss ↔ C x) ∧ Ids w (uniq ss) e w'

set_option maxHeartbeats 2000000 in
set_option maxRecDepth 100000 in
theorem blockers_any (w : World) (p bm mn : Nat) (D : DataW Unit) (a : Option Addr) (cap : Nat) (rb : List Nat) (qs : List (Tx × Bool)) (h : Res w p bm mn D a cap rb qs) (i : Nat) (hi : i < qs.length) (hq : qs.length ≤ 65536) (hmn : mn ≤ 65536) :
    Calls Try.prog 26 #[ptr p, ptr (rb.getD i default)] w (Answer w (Blocks D qs i)) := by
  have HR : Hid (Res w p bm mn D a cap rb qs) := h
  have c0 := h.c0
  have c1 := h.c1
  obtain ⟨r, hr⟩ : ∃ r, rb.getD i default = r := ⟨_, rfl⟩
  obtain ⟨t, ht⟩ : ∃ t, (qs.getD i default).1 = t := ⟨_, rfl⟩
  obtain ⟨m, hm⟩ : ∃ m, modeOf (qs.getD i default).2 = m := ⟨_, rfl⟩
  have x0 := h.txn i hi
  have x2 := h.mode i hi
  have x7 := h.at_ i hi
  rw [hr] at x0 x2 x7
  rw [ht] at x0
  rw [hm] at x2
  have hown := h.map
  have hsz := owns_size hown
  have HC0 : Hid (Blocks D qs i = fun x => HC D t m x ∨ ∃ j, j < i ∧ (qs.getD j default).1 = x ∧ compat (modeOf (qs.getD j default).2) m = false) := by
    unfold Blocks Hid
    rw [ht, hm]
  rw [hr]
  clear h hr ht hm
  unfold ptr
  obtain ⟨i0, hi0, hz0, hz1, hz2⟩ := info_parts Try.info9
  have hbl := hown.lt
  go_enter Try.func26, Try.ntmps26
  go_wp2_with (at_range; refine wpList_range_own _ rfl _ 40 rfl 9 44 law9 Try.underlying40 _ bm mn _ rfl hown ?_; intro w0 hrg0 hg0 hs0)
  go_frame
  go_loopw [5] (fun v wr => ∃ (left : Lit → Bool) (cnt : Nat) (ss : List Tx), wr.ranges Try.prog 9 (plainElem Try.prog 44) bm w.heap.size mn D left cnt ∧ ss.length + cnt ≤ Maps.size D ∧ Own w.heap.size wr v ss ∧ Gath D left t m [] ss ∧ Below w.heap.size w wr)
    (fun _ wr => wr.rangeLeft bm w.heap.size)
  case atStart => exact ⟨_, _, [], hrg0, by simp, World.ownsRow_nil _ _ _ _, Gath.start D t m [], (Below.refl _ w).grown hg0 (Nat.le_refl _) (fun j hj => by cases hj)⟩
  case round =>
    obtain ⟨left, cnt, ss, hrg, hcs, hrow, hG, hnx⟩ := hrel
    have HG : Hid (Gath D left t m [] ss) := hG
    have HX : Hid (Below w.heap.size w wr) := hnx
    have HO : Hid (Own w.heap.size wr _ ss) := hrow
    clear hG hnx hrow
    go_wp2_with (at_next; refine wpList_next_ranges _ rfl _ rfl 9 law9 (plainElem Try.prog 44) encStr (Value.int .i64) (fun key kl hk => by obtain ⟨x, hx, _⟩ := Maps.keyOf_str Try.underlying9 hk; exact ⟨x, hx⟩) (fun v y hv => by obtain ⟨c, rfl, _⟩ := plainElem_int_inv Try.underlying44 hv; exact ⟨c, rfl⟩) bm w.heap.size mn _ _ _ rfl hrg ?_ ?_)
    · intro hc0 hl0
      have HD : Hid (∀ x, x ∈ ss ↔ (x ∈ [] ∨ HC D t m x)) := HG.out.done hl0
      have hss : ss.length ≤ 65536 := by omega
      obtain ⟨av, cv, hv⟩ := HO.out.form
      clear HG hrg hcs hc0 hl0 hrg0 hg0 hs0
      subst hv
      have d1 : wr.cell? ⟨p, 1, none⟩ = some (.slice a qs.length cap) := later HX.out c1
      have d7 : wr.cell? ⟨r, 7, none⟩ = some (.int .i64 (i : Int)) := later HX.out x7
      have hiq : (i : Int) ≤ (qs.length : Int) := by omega
      have hcap : qs.length ≤ cap := HR.out.queue.le
      have hcap2 : (i : Int) ≤ (cap : Int) := by omega
      clear c0 c1 x0 x7
      go_wp2
      go_quiet (fail)
      go_wp2
      go_loopw [5, 49] (fun v ix wx => ∃ (k : Nat) (tt : List Tx), k ≤ i ∧ ix = .int .i64 k ∧ tt.length ≤ 65536 + k ∧ Own w.heap.size wx v tt ∧ Hid (∀ x, x ∈ tt ↔ (HC D t m x ∨ ∃ j, j < k ∧ (qs.getD j default).1 = x ∧ compat (modeOf (qs.getD j default).2) m = false)) ∧ Below w.heap.size w wx) (fun _ ix _ => i - (intOf ix).toNat)
      case atStart => exact ⟨0, ss, by omega, rfl, by omega, HO.out, (fun x => by rw [HD.out x]; simp), below_drewN HX.out nq⟩
      case round =>
        obtain ⟨k, tt, hk, rfl, htl, hrow, hT, hnx⟩ := hrel
        have HO3 : Hid (Own w.heap.size _ _ tt) := hrow
        have HX3 : Hid (Below w.heap.size w _) := hnx
        clear hrow hnx HO HX HD hss d1 d7
        by_cases hlt : k < i
        · obtain ⟨g, o, y, ea, hcx, HY⟩ := (HR.out.queue.below HX3.out).at k (by omega)
          have hy0 := later HX3.out (HR.out.txn k (by omega))
          have hy2 := later HX3.out (HR.out.mode k (by omega))
          have e2 := later HX3.out x2
          rw [HY.out] at hy0 hy2
          obtain ⟨u, hu⟩ : ∃ u, (qs.getD k default).1 = u := ⟨_, rfl⟩
          obtain ⟨c, hc⟩ : ∃ c, modeOf (qs.getD k default).2 = c := ⟨_, rfl⟩
          rw [hu] at hy0
          rw [hc] at hy2
          unfold ptr at hcx
          have hlt' : (k : Int) < (i : Int) := by omega
          subst ea
          cases hcp : compat c m with
          | true =>
            have HCp : Hid (compat c m = true) := hcp
            have HT2 : Hid (∀ x, x ∈ tt ↔ (HC D t m x ∨ ∃ j, j < k + 1 ∧ (qs.getD j default).1 = x ∧ compat (modeOf (qs.getD j default).2) m = false)) := by
              intro x
              rw [hT.out x]
              constructor
              · rintro (h1 | ⟨j, hj, h1⟩)
                · exact .inl h1
                · exact .inr ⟨j, by omega, h1⟩
              · rintro (h1 | ⟨j, hj, h1, h2⟩)
                · exact .inl h1
                · by_cases ej : j = k
                  · subst ej; rw [hc, hcp] at h2; cases h2
                  · exact .inr ⟨j, by omega, h1, h2⟩
            clear hT hu hc HY
            go_wp2
            go_quiet ((go_at_call 29; exact Calls.quiet_of_same (compat_any _ _ _)))
            go_wp2
            go_roundw
            case rel => exact ⟨k + 1, tt, by omega, by go_num, by omega, HO3.out, HT2, below_drewN HX3.out _⟩
            case measure => simp [intOf]; omega
          | false =>
            have HCp : Hid (compat c m = false) := hcp
            have HT2 : Hid (∀ x, x ∈ tt ++ [u] ↔ (HC D t m x ∨ ∃ j, j < k + 1 ∧ (qs.getD j default).1 = x ∧ compat (modeOf (qs.getD j default).2) m = false)) := by
              intro x
              rw [List.mem_append, List.mem_singleton, hT.out x]
              constructor
              · rintro ((h1 | ⟨j, hj, h1⟩) | rfl)
                · exact .inl h1
                · exact .inr ⟨j, by omega, h1⟩
                · exact .inr ⟨k, by omega, hu, by rw [hc]; exact hcp⟩
              · rintro (h1 | ⟨j, hj, h1, h2⟩)
                · exact .inl (.inl h1)
                · by_cases ej : j = k
                  · subst ej; exact .inr (by rw [← h1, hu])
                  · exact .inl (.inr ⟨j, by omega, h1, h2⟩)
            clear hT hu hc HY
            go_wp2
            go_quiet ((go_at_call 29; exact Calls.quiet_of_same (compat_any _ _ _)))
            go_wp2_with (at_builtin; refine app_law w (wr.drewN nq) w.heap.size _ rfl (.tmp 63) (.tmp 68) rfl _ tt u rfl rfl rfl (HO3.out.drewN nq) (by omega) (below_drewN HX3.out nq) (Nat.le_refl _) ?_; intro v' w3 HO4 HX4; go_frame)
            go_roundw
            case rel => exact ⟨k + 1, tt ++ [u], by omega, by go_num, by simp; omega, HO4.out, HT2, HX4.out⟩
            case measure => simp [intOf]; omega
        · have HT2 : Hid (∀ x, x ∈ tt ↔ Blocks D qs i x) := by
            have e : k = i := by omega
            subst e
            intro x
            rw [hT.out x, HC0.out]
          obtain ⟨at_, ct, hvt⟩ := HO3.out.form
          clear hT
          subst hvt
          have HL2 : Hid ((tt.mergeSort fun x y => decide (x ≤ y)).length = tt.length) := List.length_mergeSort tt
          have htl2 : tt.length ≤ 1048576 := by omega
          go_wp2_with (first
            | (go_at_call 30; refine (sort_any w.heap.size w _ _ _ tt HO3.out htl2 HX3.out (Nat.le_refl _)).mono ?_; rintro e w4 ⟨rfl, HO4, HX4⟩)
            | (go_at_call 31; refine (compact_any w _ _ _ _ _ HL2.out HO4.out htl2 HX4.out).mono ?_; rintro e w5 ⟨a5, c5, rfl, HX5, HV5⟩))
          go_ret
          exact ⟨tt, HT2.out, a5, c5, rfl, HX5, HV5⟩
    · intro x c kl yd yp w2 cnt2 hkey hlk hv hat hrg2 hlt hg2 hs2 hen
      obtain ⟨x', ex, rfl, _⟩ := Maps.keyOf_str Try.underlying9 hkey
      obtain rfl : x = x' := encStr_inj ex
      obtain ⟨c', ec, ey, _⟩ := plainElem_int_inv Try.underlying44 hv
      simp only [Value.int.injEq, true_and] at ec
      subst ec
      simp only [Prod.mk.injEq] at ey
      obtain ⟨rfl, rfl⟩ := ey
      have HX2 : Hid (Below w.heap.size w w2) := HX.out.grown hg2 HX.out.size (fun j hj => by cases hj; exact Nat.le_refl _)
      have HO2 : Hid (Own w.heap.size w2 _ ss) := HO.out.kept hg2 (Or.inr (row_ne_iter HO.out hrg).symm)
      have HAt : Hid (∀ zd, D.atKey (.string x) zd = .lit (.int .i64 c)) := hat
      have HLk : Hid (left (.string x) = true) := hlk
      have HLt : Hid (cnt2 < cnt) := hlt
      have d0 : w2.cell? ⟨r, 0, none⟩ = some (encStr t) := later HX2.out x0
      have d2 : w2.cell? ⟨r, 2, none⟩ = some (.int .i64 m) := later HX2.out x2
      have HRg : Hid (w2.ranges Try.prog 9 (plainElem Try.prog 44) bm w.heap.size mn D (fun z => left z && !z.sameKey (.string x)) cnt2) := hrg2
      have HRo : Hid (wr.ranges Try.prog 9 (plainElem Try.prog 44) bm w.heap.size mn D left cnt) := hrg
      clear ex hkey hv hat hs2 hg2 HX HO hlk hlt hrg2 hrg hrg0 hg0 hs0 c0 c1 x0 x7 x2
      by_cases hxt : x = t
      · have e1 : (x == t) = true := beq_iff_eq.2 hxt
        have HG2 : Hid (Gath D (fun z => left z && !z.sameKey (.string x)) t m [] ss) := HG.out.drop HLk.out HAt.out (.inl hxt)
        clear hxt HG
        go_wp2
        go_roundw
        case rel => exact ⟨_, cnt2, ss, HRg.out, by have := HLt.out; omega, HO2.out, HG2.out, HX2.out⟩
        case measure => rw [HRg.out.left_eq, HRo.out.left_eq]; exact HLt.out
      · have e1 : (x == t) = false := beq_eq_false_iff_ne.2 hxt
        cases hcp : compat c m with
        | true =>
          have HCp : Hid (compat c m = true) := hcp
          have HG2 : Hid (Gath D (fun z => left z && !z.sameKey (.string x)) t m [] ss) := HG.out.drop HLk.out HAt.out (.inr hcp)
          clear hxt HG hcp
          go_wp2_with (go_at_call 29; refine (compat_any _ _ _).mono ?_; rintro e w' ⟨rfl, hw⟩; subst w'; rw [HCp.out])
          go_roundw
          case rel => exact ⟨_, cnt2, ss, HRg.out, by have := HLt.out; omega, HO2.out, HG2.out, HX2.out⟩
          case measure => rw [HRg.out.left_eq, HRo.out.left_eq]; exact HLt.out
        | false =>
          have HCp : Hid (compat c m = false) := hcp
          have HG2 : Hid (Gath D (fun z => left z && !z.sameKey (.string x)) t m [] (ss ++ [x])) := HG.out.keep HAt.out hxt hcp
          clear hxt HG hcp
          have hss : ss.length ≤ 65536 := by omega
          go_wp2_with (first
            | (go_at_call 29; refine (compat_any _ _ _).mono ?_; rintro e w' ⟨rfl, hw⟩; subst w'; rw [HCp.out])
            | (at_builtin; refine wpList_append_own _ rfl (.tmp 35) (.tmp 37) 22 rfl w.heap.size 9 i0 (.string ⟨#[]⟩) 1 16 Try.underlying22 hi0 hz0 hz1 hz2 rfl (by decide) _ _ _ rfl (World.ownsRow.alloc HO2.out _) ⟨w2.heap.size, 0, none⟩ 1 1 [encStr x] rfl rfl (cell_one_new _ _ _) (by simp [Value.oneCell', encStr]) (by unfold maxLen; omega) (by omega) (by have := HX2.out.size; simp; omega) ?_; intro v' w3 hown' hg3 hnil3; go_frame))
          have hrg3 := (HRg.out.alloc _).kept hg3 (row_ne_low HO2.out hbl) (row_ne_iter HO2.out HRg.out)
          go_roundw
          case rel =>
            refine ⟨_, cnt2, ss ++ [x], hrg3, by have := HLt.out; simp; omega, by unfold Own; simpa using hown', HG2.out, ?_⟩
            exact (HX2.out.alloc HX2.out.size _).grown hg3 (by have := HX2.out.size; simp; omega) (fun j hj => (World.ownsRow.lt HO2.out j hj).1)
          case measure => rw [hrg3.left_eq, HRo.out.left_eq]; exact HLt.out
end Go.Proofs.Qxb6003669a
