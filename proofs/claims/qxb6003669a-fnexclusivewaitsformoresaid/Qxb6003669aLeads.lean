import Derived.Test.Qxb6003669aBlock
namespace Go.Proofs.Qxb6003669a
open Go.RowKit Go.Maps
open Go.Proofs.Qxb6003669a.Plain

/-- What 'leadsAt' names: lo - 1 is the place of the nearest exclusive request ahead, 0 for lo: there is none. -/
def Leads (D : DataW Unit) (qs : List (Tx × Bool)) (i lo : Nat) (x : Tx) : Prop :=
  (modeOf (qs.getD i default).2 = 0 ∧ ∃ j, lo ≤ j ∧ j < i ∧ (qs.getD j default).1 = x) ∨
  (if lo = 0 then HC D (qs.getD i default).1 (modeOf (qs.getD i default).2) x else (qs.getD (lo - 1) default).1 = x)

theorem leads_zero {D : DataW Unit} {qs : List (Tx × Bool)} {i : Nat} {t : Tx} {m : Int} {x : Tx} :
    ((m = 0 ∧ ∃ j, 0 ≤ j ∧ j < i ∧ (qs.getD j default).1 = x) ∨ HC D t m x) ↔ (fun (lo : Nat) x => (m = 0 ∧ ∃ j, lo ≤ j ∧ j < i ∧ (qs.getD j default).1 = x) ∨ (if lo = 0 then HC D t m x else (qs.getD (lo - 1) default).1 = x)) 0 x := by
  simp only [if_true]

theorem leads_succ {D : DataW Unit} {qs : List (Tx × Bool)} {i l1 : Nat} {t : Tx} {m : Int} {x u : Tx} (hu : (qs.getD l1 default).1 = u) :
    ((m = 0 ∧ ∃ j, l1 + 1 ≤ j ∧ j < i ∧ (qs.getD j default).1 = x) ∨ x = u) ↔ (fun (lo : Nat) x => (m = 0 ∧ ∃ j, lo ≤ j ∧ j < i ∧ (qs.getD j default).1 = x) ∨ (if lo = 0 then HC D t m x else (qs.getD (lo - 1) default).1 = x)) (l1 + 1) x := by
  have e : (qs.getD (l1 + 1 - 1) default).1 = u := hu
  simp only [if_neg (Nat.succ_ne_zero l1), e]
  constructor
  · rintro (h | h)
    · exact .inl h
    · exact .inr h.symm
  · rintro (h | h)
    · exact .inl h
    · exact .inr h.symm

theorem Own.kept0 {B : Nat} {w w' : World} {v : Value} {ss : List Tx} (h : Own B w v ss) (hg : w.grownBy w' none) : Own B w' v ss := by
  refine World.ownsRow.kept h hg ?_
  cases v.ownBlock with
  | none => exact .inl rfl
  | some k => exact .inr (fun e => by cases e)

theorem mode_two (s : Bool) : modeOf s = 0 ∨ modeOf s = 1 := by cases s <;> simp [modeOf]

set_option maxHeartbeats 4000000 in
set_option maxRecDepth 100000 in
theorem leadsAt_any (w : World) (p bm mn : Nat) (D : DataW Unit) (a : Option Addr) (cap : Nat) (rb : List Nat) (qs : List (Tx × Bool)) (h : Res w p bm mn D a cap rb qs) (i lo : Nat) (hi : i < qs.length) (hlo0 : lo ≤ i) (hq : qs.length ≤ 65536) (hmn : mn ≤ 65536) :
    Calls Try.prog 28 #[ptr p, .int .i64 i, .int .i64 ((lo : Int) - 1)] w (Answer w (Leads D qs i lo)) := by
  have HR0 : Hid (Res w p bm mn D a cap rb qs) := h
  obtain ⟨g, o, r, ea, hcx, HXr0⟩ := h.queue.at i hi
  subst ea
  have HR : Hid (Res w p bm mn D (some ⟨g, o, none⟩) cap rb qs) := h
  have c0 := h.c0
  have c1 := h.c1
  obtain ⟨t, ht⟩ : ∃ t, (qs.getD i default).1 = t := ⟨_, rfl⟩
  obtain ⟨m, hm⟩ : ∃ m, modeOf (qs.getD i default).2 = m := ⟨_, rfl⟩
  have x0 := h.txn i hi
  have x2 := h.mode i hi
  rw [HXr0.out] at x0 x2
  rw [ht] at x0
  rw [hm] at x2
  have hown := h.map
  have hsz := owns_size hown
  have hbl := hown.lt
  have HL0 : Hid (Leads D qs i = fun lo x => (m = 0 ∧ ∃ j, lo ≤ j ∧ j < i ∧ (qs.getD j default).1 = x) ∨ (if lo = 0 then HC D t m x else (qs.getD (lo - 1) default).1 = x)) := by
    unfold Leads Hid
    rw [ht, hm]
  have hm01 : m = 0 ∨ m = 1 := by rw [← hm]; exact mode_two _
  have hcap : qs.length ≤ cap := h.queue.le
  have hcm : cap ≤ 9223372036854775807 := h.queue.max
  clear h ht hm hown HR0 HXr0
  unfold ptr at hcx ⊢
  obtain ⟨i0, hi0, hz0, hz1, hz2⟩ := info_parts Try.info9
  have hi' : (i : Int) < (qs.length : Int) := by omega
  rcases hm01 with hm0 | hm1
  · -- exclusive: the requests between
    have e0 : (m == 0) = true := beq_iff_eq.2 hm0
    have HM0 : Hid (m = 0) := hm0
    have hb1 : (0 : Int) ≤ (lo : Int) ∧ (lo : Int) ≤ (i : Int) := by omega
    have hb2 : (i : Int) ≤ (cap : Int) := by omega
    have hb3 : ¬ cap = lo := by omega
    have HOn : Hid (Own w.heap.size w (.slice none 0 0) []) := World.ownsRow_nil _ _ _ _
    clear hm0
    go_enter Try.func28, Try.ntmps28
    go_wp2
    go_loopw [8, 34] (fun v ix wx => ∃ (k : Nat) (tt : List Tx), k ≤ i - lo ∧ ix = .int .i64 k ∧ tt.length ≤ k ∧ Own w.heap.size wx v tt ∧ Hid (∀ x, x ∈ tt ↔ ∃ j, lo ≤ j ∧ j < lo + k ∧ (qs.getD j default).1 = x) ∧ Below w.heap.size w wx) (fun _ ix _ => i - lo - (intOf ix).toNat)
    case atStart => exact ⟨0, [], by omega, rfl, by simp, HOn.out, (fun x => ⟨(fun h => by cases h), (fun ⟨j, h1, h2, _⟩ => by omega)⟩), Below.refl _ _⟩
    case round =>
      obtain ⟨k, tt, hk, rfl, htl, hrow, hT, hnx⟩ := hrel
      have HO3 : Hid (Own w.heap.size _ _ tt) := hrow
      have HX3 : Hid (Below w.heap.size w _) := hnx
      clear hrow hnx HOn
      by_cases hlt : k < i - lo
      · obtain ⟨g1, o1, y, ea1, hcy, HY⟩ := (HR.out.queue.below HX3.out).at (lo + k) (by omega)
        have hy0 := later HX3.out (HR.out.txn (lo + k) (by omega))
        rw [HY.out] at hy0
        obtain ⟨u, hu⟩ : ∃ u, (qs.getD (lo + k) default).1 = u := ⟨_, rfl⟩
        rw [hu] at hy0
        have hgo := Option.some.inj ea1
        simp only [Addr.mk.injEq, and_true] at hgo
        obtain ⟨rfl, rfl⟩ := hgo
        unfold ptr at hcy
        rw [← Nat.add_assoc] at hcy
        have hlt' : (k : Int) < ((i - lo : Nat) : Int) := by omega
        have HT2 : Hid (∀ x, x ∈ tt ++ [u] ↔ ∃ j, lo ≤ j ∧ j < lo + (k + 1) ∧ (qs.getD j default).1 = x) := by
          intro x
          rw [List.mem_append, List.mem_singleton, hT.out x]
          constructor
          · rintro (⟨j, h1, h2, h3⟩ | rfl)
            · exact ⟨j, h1, by omega, h3⟩
            · exact ⟨lo + k, by omega, by omega, hu⟩
          · rintro ⟨j, h1, h2, h3⟩
            by_cases ej : j = lo + k
            · subst ej; exact .inr (by rw [← h3, hu])
            · exact .inl ⟨j, h1, by omega, h3⟩
        clear hT hu HY ea1
        go_wp2_with (at_builtin; refine app_law w wr w.heap.size _ rfl (.tmp 38) (.tmp 43) rfl _ tt u rfl rfl rfl HO3.out (by omega) HX3.out (Nat.le_refl _) ?_; intro v' w3 HO4 HX4; try go_frame)
        go_roundw
        case rel => exact ⟨k + 1, tt ++ [u], by omega, by go_num, by simp; omega, HO4.out, HT2, HX4.out⟩
        case measure => simp [intOf]; omega
      · have HT : Hid (∀ x, x ∈ tt ↔ (m = 0 ∧ ∃ j, lo ≤ j ∧ j < i ∧ (qs.getD j default).1 = x)) := by
          intro x
          rw [hT.out x]
          constructor
          · rintro ⟨j, h1, h2, h3⟩; exact ⟨HM0.out, j, h1, by omega, h3⟩
          · rintro ⟨_, j, h1, h2, h3⟩; exact ⟨j, h1, by omega, h3⟩
        have htl0 : tt.length ≤ 65536 := by omega
        clear hT
        -- where an exclusive request stands ahead: its id; else the holders that conflict
        by_cases hlo : lo = 0
        · subst hlo
          have hge : ¬ (0 : Int) ≤ ((0 : Nat) : Int) - 1 := by omega
          have HMp : Hid (wr.ownsMap Try.prog 9 (plainElem Try.prog 44) bm mn D) := (HR.out.below HX3.out).map
          have d0' : wr.cell? ⟨p, 0, none⟩ = some (.map (some bm)) := later HX3.out c0
          have HWz : Hid (w.heap.size ≤ wr.heap.size) := HX3.out.size
          go_wp2_with (at_range; refine wpList_range_own _ rfl _ 40 rfl 9 44 law9 Try.underlying40 _ bm mn _ rfl HMp.out ?_; intro w0 hrg0 hg0 hs0)
          try go_frame
          go_loopw [8] (fun v wx => ∃ (left : Lit → Bool) (cnt : Nat) (ss : List Tx), wx.ranges Try.prog 9 (plainElem Try.prog 44) bm wr.heap.size mn D left cnt ∧ ss.length + cnt ≤ 65536 + Maps.size D ∧ Own w.heap.size wx v ss ∧ Gath D left t m tt ss ∧ Below w.heap.size w wx)
            (fun _ wx => wx.rangeLeft bm wr.heap.size)
          case atStart => exact ⟨_, _, tt, hrg0, by have := htl0; omega, HO3.out.kept0 hg0, Gath.start D t m tt, HX3.out.grown hg0 HX3.out.size (fun j hj => by cases hj)⟩
          case round =>
            obtain ⟨left, cnt, ss, hrg, hcs, hrow, hG, hnx⟩ := hrel
            have HG : Hid (Gath D left t m tt ss) := hG
            have HXr : Hid (Below w.heap.size w wr) := hnx
            have HOr : Hid (Own w.heap.size wr _ ss) := hrow
            clear hG hnx hrow hrg0 hg0 hs0
            go_wp2_with (at_next; refine wpList_next_ranges _ rfl _ rfl 9 law9 (plainElem Try.prog 44) encStr (Value.int .i64) (fun key kl hk => by obtain ⟨x, hx, _⟩ := Maps.keyOf_str Try.underlying9 hk; exact ⟨x, hx⟩) (fun v y hv => by obtain ⟨c, rfl, _⟩ := plainElem_int_inv Try.underlying44 hv; exact ⟨c, rfl⟩) bm _ mn _ _ _ rfl hrg ?_ ?_)
            · intro hc0 hl0
              have HD2 : Hid (∀ x, x ∈ ss ↔ Leads D qs i 0 x) := by
                have h1 := HG.out.done hl0
                intro x
                rw [h1 x, HT.out x, HL0.out]
                exact leads_zero
              have hss : ss.length ≤ 1048576 := by omega
              obtain ⟨av, cv, hv⟩ := HOr.out.form
              clear HG hrg hcs hc0 hl0
              subst hv
              have HL2 : Hid ((ss.mergeSort fun x y => decide (x ≤ y)).length = ss.length) := List.length_mergeSort ss
              go_wp2_with (first
                | (go_at_call 30; refine (sort_any w.heap.size w _ _ _ ss HOr.out hss HXr.out (Nat.le_refl _)).mono ?_; rintro e w4 ⟨rfl, HO4, HX4⟩)
                | (go_at_call 31; refine (compact_any w _ _ _ _ _ HL2.out HO4.out hss HX4.out).mono ?_; rintro e w5 ⟨a5, c5, rfl, HX5, HV5⟩))
              go_ret
              exact ⟨ss, HD2.out, a5, c5, rfl, HX5, HV5⟩
            · intro x c kl yd yp w2 cnt2 hkey hlk hv hat hrg2 hlt hg2 hs2 hen
              obtain ⟨x', ex, rfl, _⟩ := Maps.keyOf_str Try.underlying9 hkey
              obtain rfl : x = x' := encStr_inj ex
              obtain ⟨c', ec, ey, _⟩ := plainElem_int_inv Try.underlying44 hv
              simp only [Value.int.injEq, true_and] at ec
              subst ec
              simp only [Prod.mk.injEq] at ey
              obtain ⟨rfl, rfl⟩ := ey
              have HX2 : Hid (Below w.heap.size w w2) := HXr.out.grown hg2 HXr.out.size (fun j hj => by cases hj; exact HWz.out)
              have HO2 : Hid (Own w.heap.size w2 _ ss) := HOr.out.kept hg2 (Or.inr (row_ne_iter HOr.out hrg).symm)
              have HAt : Hid (∀ zd, D.atKey (.string x) zd = .lit (.int .i64 c)) := hat
              have HLk : Hid (left (.string x) = true) := hlk
              have HLt : Hid (cnt2 < cnt) := hlt
              have d0 : w2.cell? ⟨r, 0, none⟩ = some (encStr t) := later HX2.out x0
              have d2 : w2.cell? ⟨r, 2, none⟩ = some (.int .i64 m) := later HX2.out x2
              have HRg : Hid (w2.ranges Try.prog 9 (plainElem Try.prog 44) bm _ mn D (fun z => left z && !z.sameKey (.string x)) cnt2) := hrg2
              have HRo : Hid (wr.ranges Try.prog 9 (plainElem Try.prog 44) bm _ mn D left cnt) := hrg
              clear ex hkey hv hat hs2 hg2 HXr HOr hlk hlt hrg2 hrg
              by_cases hxt : x = t
              · have e1 : (x == t) = true := beq_iff_eq.2 hxt
                have HG2 : Hid (Gath D (fun z => left z && !z.sameKey (.string x)) t m tt ss) := HG.out.drop HLk.out HAt.out (.inl hxt)
                clear hxt HG
                go_wp2
                go_roundw
                case rel => exact ⟨_, cnt2, ss, HRg.out, by have := HLt.out; omega, HO2.out, HG2.out, HX2.out⟩
                case measure => rw [HRg.out.left_eq, HRo.out.left_eq]; exact HLt.out
              · have e1 : (x == t) = false := beq_eq_false_iff_ne.2 hxt
                cases hcp : compat c m with
                | true =>
                  have HCp : Hid (compat c m = true) := hcp
                  have HG2 : Hid (Gath D (fun z => left z && !z.sameKey (.string x)) t m tt ss) := HG.out.drop HLk.out HAt.out (.inr hcp)
                  clear hxt HG hcp
                  go_wp2_with (go_at_call 29; refine (compat_any _ _ _).mono ?_; rintro e w' ⟨rfl, hw⟩; subst w'; rw [HCp.out])
                  go_roundw
                  case rel => exact ⟨_, cnt2, ss, HRg.out, by have := HLt.out; omega, HO2.out, HG2.out, HX2.out⟩
                  case measure => rw [HRg.out.left_eq, HRo.out.left_eq]; exact HLt.out
                | false =>
                  have HCp : Hid (compat c m = false) := hcp
                  have HG2 : Hid (Gath D (fun z => left z && !z.sameKey (.string x)) t m tt (ss ++ [x])) := HG.out.keep HAt.out hxt hcp
                  clear hxt HG hcp
                  have hss : ss.length ≤ 131072 := by omega
                  go_wp2_with (first
                    | (go_at_call 29; refine (compat_any _ _ _).mono ?_; rintro e w' ⟨rfl, hw⟩; subst w'; rw [HCp.out])
                    | (at_builtin; refine wpList_append_own _ rfl (.tmp 86) (.tmp 88) 22 rfl w.heap.size 9 i0 (.string ⟨#[]⟩) 1 16 Try.underlying22 hi0 hz0 hz1 hz2 rfl (by decide) _ _ _ rfl (World.ownsRow.alloc HO2.out _) ⟨w2.heap.size, 0, none⟩ 1 1 [encStr x] rfl rfl (cell_one_new _ _ _) (by simp [Value.oneCell', encStr]) (by unfold maxLen; omega) (by omega) (by have := HX2.out.size; simp; omega) ?_; intro v' w3 hown' hg3 hnil3; go_frame))
                  have hrg3 := (HRg.out.alloc _).kept hg3 (row_ne_low HO2.out hbl) (row_ne_iter HO2.out HRg.out)
                  go_roundw
                  case rel =>
                    refine ⟨_, cnt2, ss ++ [x], hrg3, by have := HLt.out; simp; omega, by unfold Own; simpa using hown', HG2.out, ?_⟩
                    exact (HX2.out.alloc HX2.out.size _).grown hg3 (by have := HX2.out.size; simp; omega) (fun j hj => (World.ownsRow.lt HO2.out j hj).1)
                  case measure => rw [hrg3.left_eq, HRo.out.left_eq]; exact HLt.out
        · obtain ⟨l1, rfl⟩ : ∃ l1, lo = l1 + 1 := ⟨lo - 1, by omega⟩
          have hge : (0 : Int) ≤ (((l1 + 1 : Nat) : Int)) - 1 := by omega
          have hl1 : (((l1 + 1 : Nat) : Int)) - 1 = (l1 : Int) := by omega
          obtain ⟨g1, o1, y, ea1, hcy, HY⟩ := (HR.out.queue.below HX3.out).at l1 (by omega)
          have hy0 := later HX3.out (HR.out.txn l1 (by omega))
          rw [HY.out] at hy0
          obtain ⟨u, hu⟩ : ∃ u, (qs.getD l1 default).1 = u := ⟨_, rfl⟩
          rw [hu] at hy0
          have hgo := Option.some.inj ea1
          simp only [Addr.mk.injEq, and_true] at hgo
          obtain ⟨rfl, rfl⟩ := hgo
          unfold ptr at hcy
          have d1' : wr.cell? ⟨p, 1, none⟩ = some (.slice (some ⟨g, o, none⟩) qs.length cap) := later HX3.out c1
          obtain ⟨ts, hts⟩ : ∃ ts : List Tx, ts = tt ++ [u] := ⟨_, rfl⟩
          have HD2 : Hid (∀ x, x ∈ ts ↔ Leads D qs i (l1 + 1) x) := by
            intro x
            rw [hts, List.mem_append, List.mem_singleton, HT.out x, HL0.out]
            exact leads_succ hu
          have hl1q : (l1 : Int) < (qs.length : Int) := by omega
          have hss : ts.length ≤ 1048576 := by have := htl0; rw [hts, List.length_append]; simp only [List.length_singleton]; omega
          have HL2 : Hid ((ts.mergeSort fun x y => decide (x ≤ y)).length = ts.length) := List.length_mergeSort _
          have HTS : Hid (ts = tt ++ [u]) := hts
          clear hu HY ea1 hts
          go_wp2_with (at_builtin; refine app_law w wr w.heap.size _ rfl (.tmp 48) (.tmp 59) rfl _ tt u rfl rfl rfl HO3.out (by have := htl0; omega) HX3.out (Nat.le_refl _) ?_; intro v' w3 HO4 HX4; rw [← HTS.out] at HO4)
          obtain ⟨av, cv, hv⟩ := HO4.out.form
          subst hv
          go_wp2_with (first
            | (go_at_call 30; refine (sort_any w.heap.size w _ _ _ ts HO4.out hss HX4.out (Nat.le_refl _)).mono ?_; rintro e w4 ⟨rfl, HO5, HX5⟩)
            | (go_at_call 31; refine (compact_any w _ _ _ _ _ HL2.out HO5.out hss HX5.out).mono ?_; rintro e w5 ⟨a5, c5, rfl, HX6, HV6⟩))
          go_ret
          exact ⟨ts, HD2.out, a5, c5, rfl, HX6, HV6⟩
  · have e0 : (m == 0) = false := beq_eq_false_iff_ne.2 (by omega)
    obtain ⟨t0, ht0⟩ : ∃ t0 : List Tx, t0 = [] := ⟨_, rfl⟩
    have HT : Hid (∀ x, x ∈ t0 ↔ (m = 0 ∧ ∃ j, lo ≤ j ∧ j < i ∧ (qs.getD j default).1 = x)) := by
      intro x
      subst ht0
      constructor
      · intro h; cases h
      · rintro ⟨h, _⟩; omega
    have HOn : Hid (Own w.heap.size w (.slice none 0 0) t0) := by subst ht0; exact World.ownsRow_nil _ _ _ _
    have HXn : Hid (Below w.heap.size w w) := Below.refl _ _
    have htl0 : t0.length ≤ 65536 := by subst ht0; simp
    clear hm1 ht0
    go_enter Try.func28, Try.ntmps28
    -- where an exclusive request stands ahead: its id; else the holders that conflict
    by_cases hlo : lo = 0
    · subst hlo
      have hge : ¬ (0 : Int) ≤ ((0 : Nat) : Int) - 1 := by omega
      have HMp : Hid (w.ownsMap Try.prog 9 (plainElem Try.prog 44) bm mn D) := (HR.out.below HXn.out).map
      have d0' : w.cell? ⟨p, 0, none⟩ = some (.map (some bm)) := later HXn.out c0
      have HWz : Hid (w.heap.size ≤ w.heap.size) := HXn.out.size
      go_wp2_with (at_range; refine wpList_range_own _ rfl _ 40 rfl 9 44 law9 Try.underlying40 _ bm mn _ rfl HMp.out ?_; intro w0 hrg0 hg0 hs0)
      try go_frame
      go_loopw [8] (fun v wx => ∃ (left : Lit → Bool) (cnt : Nat) (ss : List Tx), wx.ranges Try.prog 9 (plainElem Try.prog 44) bm w.heap.size mn D left cnt ∧ ss.length + cnt ≤ 65536 + Maps.size D ∧ Own w.heap.size wx v ss ∧ Gath D left t m t0 ss ∧ Below w.heap.size w wx)
        (fun _ wx => wx.rangeLeft bm w.heap.size)
      case atStart => exact ⟨_, _, t0, hrg0, by have := htl0; omega, HOn.out.kept0 hg0, Gath.start D t m t0, HXn.out.grown hg0 HXn.out.size (fun j hj => by cases hj)⟩
      case round =>
        obtain ⟨left, cnt, ss, hrg, hcs, hrow, hG, hnx⟩ := hrel
        have HG : Hid (Gath D left t m t0 ss) := hG
        have HXr : Hid (Below w.heap.size w wr) := hnx
        have HOr : Hid (Own w.heap.size wr _ ss) := hrow
        clear hG hnx hrow hrg0 hg0 hs0
        go_wp2_with (at_next; refine wpList_next_ranges _ rfl _ rfl 9 law9 (plainElem Try.prog 44) encStr (Value.int .i64) (fun key kl hk => by obtain ⟨x, hx, _⟩ := Maps.keyOf_str Try.underlying9 hk; exact ⟨x, hx⟩) (fun v y hv => by obtain ⟨c, rfl, _⟩ := plainElem_int_inv Try.underlying44 hv; exact ⟨c, rfl⟩) bm _ mn _ _ _ rfl hrg ?_ ?_)
        · intro hc0 hl0
          have HD2 : Hid (∀ x, x ∈ ss ↔ Leads D qs i 0 x) := by
            have h1 := HG.out.done hl0
            intro x
            rw [h1 x, HT.out x, HL0.out]
            exact leads_zero
          have hss : ss.length ≤ 1048576 := by omega
          obtain ⟨av, cv, hv⟩ := HOr.out.form
          clear HG hrg hcs hc0 hl0
          subst hv
          have HL2 : Hid ((ss.mergeSort fun x y => decide (x ≤ y)).length = ss.length) := List.length_mergeSort ss
          go_wp2_with (first
            | (go_at_call 30; refine (sort_any w.heap.size w _ _ _ ss HOr.out hss HXr.out (Nat.le_refl _)).mono ?_; rintro e w4 ⟨rfl, HO4, HX4⟩)
            | (go_at_call 31; refine (compact_any w _ _ _ _ _ HL2.out HO4.out hss HX4.out).mono ?_; rintro e w5 ⟨a5, c5, rfl, HX5, HV5⟩))
          go_ret
          exact ⟨ss, HD2.out, a5, c5, rfl, HX5, HV5⟩
        · intro x c kl yd yp w2 cnt2 hkey hlk hv hat hrg2 hlt hg2 hs2 hen
          obtain ⟨x', ex, rfl, _⟩ := Maps.keyOf_str Try.underlying9 hkey
          obtain rfl : x = x' := encStr_inj ex
          obtain ⟨c', ec, ey, _⟩ := plainElem_int_inv Try.underlying44 hv
          simp only [Value.int.injEq, true_and] at ec
          subst ec
          simp only [Prod.mk.injEq] at ey
          obtain ⟨rfl, rfl⟩ := ey
          have HX2 : Hid (Below w.heap.size w w2) := HXr.out.grown hg2 HXr.out.size (fun j hj => by cases hj; exact HWz.out)
          have HO2 : Hid (Own w.heap.size w2 _ ss) := HOr.out.kept hg2 (Or.inr (row_ne_iter HOr.out hrg).symm)
          have HAt : Hid (∀ zd, D.atKey (.string x) zd = .lit (.int .i64 c)) := hat
          have HLk : Hid (left (.string x) = true) := hlk
          have HLt : Hid (cnt2 < cnt) := hlt
          have d0 : w2.cell? ⟨r, 0, none⟩ = some (encStr t) := later HX2.out x0
          have d2 : w2.cell? ⟨r, 2, none⟩ = some (.int .i64 m) := later HX2.out x2
          have HRg : Hid (w2.ranges Try.prog 9 (plainElem Try.prog 44) bm _ mn D (fun z => left z && !z.sameKey (.string x)) cnt2) := hrg2
          have HRo : Hid (wr.ranges Try.prog 9 (plainElem Try.prog 44) bm _ mn D left cnt) := hrg
          clear ex hkey hv hat hs2 hg2 HXr HOr hlk hlt hrg2 hrg
          by_cases hxt : x = t
          · have e1 : (x == t) = true := beq_iff_eq.2 hxt
            have HG2 : Hid (Gath D (fun z => left z && !z.sameKey (.string x)) t m t0 ss) := HG.out.drop HLk.out HAt.out (.inl hxt)
            clear hxt HG
            go_wp2
            go_roundw
            case rel => exact ⟨_, cnt2, ss, HRg.out, by have := HLt.out; omega, HO2.out, HG2.out, HX2.out⟩
            case measure => rw [HRg.out.left_eq, HRo.out.left_eq]; exact HLt.out
          · have e1 : (x == t) = false := beq_eq_false_iff_ne.2 hxt
            cases hcp : compat c m with
            | true =>
              have HCp : Hid (compat c m = true) := hcp
              have HG2 : Hid (Gath D (fun z => left z && !z.sameKey (.string x)) t m t0 ss) := HG.out.drop HLk.out HAt.out (.inr hcp)
              clear hxt HG hcp
              go_wp2_with (go_at_call 29; refine (compat_any _ _ _).mono ?_; rintro e w' ⟨rfl, hw⟩; subst w'; rw [HCp.out])
              go_roundw
              case rel => exact ⟨_, cnt2, ss, HRg.out, by have := HLt.out; omega, HO2.out, HG2.out, HX2.out⟩
              case measure => rw [HRg.out.left_eq, HRo.out.left_eq]; exact HLt.out
            | false =>
              have HCp : Hid (compat c m = false) := hcp
              have HG2 : Hid (Gath D (fun z => left z && !z.sameKey (.string x)) t m t0 (ss ++ [x])) := HG.out.keep HAt.out hxt hcp
              clear hxt HG hcp
              have hss : ss.length ≤ 131072 := by omega
              go_wp2_with (first
                | (go_at_call 29; refine (compat_any _ _ _).mono ?_; rintro e w' ⟨rfl, hw⟩; subst w'; rw [HCp.out])
                | (at_builtin; refine wpList_append_own _ rfl (.tmp 86) (.tmp 88) 22 rfl w.heap.size 9 i0 (.string ⟨#[]⟩) 1 16 Try.underlying22 hi0 hz0 hz1 hz2 rfl (by decide) _ _ _ rfl (World.ownsRow.alloc HO2.out _) ⟨w2.heap.size, 0, none⟩ 1 1 [encStr x] rfl rfl (cell_one_new _ _ _) (by simp [Value.oneCell', encStr]) (by unfold maxLen; omega) (by omega) (by have := HX2.out.size; simp; omega) ?_; intro v' w3 hown' hg3 hnil3; go_frame))
              have hrg3 := (HRg.out.alloc _).kept hg3 (row_ne_low HO2.out hbl) (row_ne_iter HO2.out HRg.out)
              go_roundw
              case rel =>
                refine ⟨_, cnt2, ss ++ [x], hrg3, by have := HLt.out; simp; omega, by unfold Own; simpa using hown', HG2.out, ?_⟩
                exact (HX2.out.alloc HX2.out.size _).grown hg3 (by have := HX2.out.size; simp; omega) (fun j hj => (World.ownsRow.lt HO2.out j hj).1)
              case measure => rw [hrg3.left_eq, HRo.out.left_eq]; exact HLt.out
    · obtain ⟨l1, rfl⟩ : ∃ l1, lo = l1 + 1 := ⟨lo - 1, by omega⟩
      have hge : (0 : Int) ≤ (((l1 + 1 : Nat) : Int)) - 1 := by omega
      have hl1 : (((l1 + 1 : Nat) : Int)) - 1 = (l1 : Int) := by omega
      obtain ⟨g1, o1, y, ea1, hcy, HY⟩ := (HR.out.queue.below HXn.out).at l1 (by omega)
      have hy0 := later HXn.out (HR.out.txn l1 (by omega))
      rw [HY.out] at hy0
      obtain ⟨u, hu⟩ : ∃ u, (qs.getD l1 default).1 = u := ⟨_, rfl⟩
      rw [hu] at hy0
      have hgo := Option.some.inj ea1
      simp only [Addr.mk.injEq, and_true] at hgo
      obtain ⟨rfl, rfl⟩ := hgo
      unfold ptr at hcy
      have d1' : w.cell? ⟨p, 1, none⟩ = some (.slice (some ⟨g, o, none⟩) qs.length cap) := later HXn.out c1
      obtain ⟨ts, hts⟩ : ∃ ts : List Tx, ts = t0 ++ [u] := ⟨_, rfl⟩
      have HD2 : Hid (∀ x, x ∈ ts ↔ Leads D qs i (l1 + 1) x) := by
        intro x
        rw [hts, List.mem_append, List.mem_singleton, HT.out x, HL0.out]
        exact leads_succ hu
      have hl1q : (l1 : Int) < (qs.length : Int) := by omega
      have hss : ts.length ≤ 1048576 := by have := htl0; rw [hts, List.length_append]; simp only [List.length_singleton]; omega
      have HL2 : Hid ((ts.mergeSort fun x y => decide (x ≤ y)).length = ts.length) := List.length_mergeSort _
      have HTS : Hid (ts = t0 ++ [u]) := hts
      clear hu HY ea1 hts
      go_wp2_with (at_builtin; refine app_law w w w.heap.size _ rfl (.tmp 48) (.tmp 59) rfl _ t0 u rfl rfl rfl HOn.out (by have := htl0; omega) HXn.out (Nat.le_refl _) ?_; intro v' w3 HO4 HX4; rw [← HTS.out] at HO4)
      obtain ⟨av, cv, hv⟩ := HO4.out.form
      subst hv
      go_wp2_with (first
        | (go_at_call 30; refine (sort_any w.heap.size w _ _ _ ts HO4.out hss HX4.out (Nat.le_refl _)).mono ?_; rintro e w4 ⟨rfl, HO5, HX5⟩)
        | (go_at_call 31; refine (compact_any w _ _ _ _ _ HL2.out HO5.out hss HX5.out).mono ?_; rintro e w5 ⟨a5, c5, rfl, HX6, HV6⟩))
      go_ret
      exact ⟨ts, HD2.out, a5, c5, rfl, HX6, HV6⟩
end Go.Proofs.Qxb6003669a
