import Derived.Test.Qxb6003669aLeads
namespace Go.Proofs.Qxb6003669a
open Go.RowKit Go.Maps
open Go.Proofs.Qxb6003669a.Plain

/-- One more than the place of the nearest exclusive request below k; 0: there is none. -/
def nearest (qs : List (Tx × Bool)) : Nat → Nat
  | 0 => 0
  | k + 1 => if (qs.getD k default).2 then nearest qs k else k + 1

theorem nearest_le (qs : List (Tx × Bool)) : ∀ k, nearest qs k ≤ k
  | 0 => Nat.le_refl _
  | k + 1 => by
    unfold nearest
    split
    · have := nearest_le qs k; omega
    · exact Nat.le_refl _

set_option maxHeartbeats 2000000 in
theorem leads_any (w : World) (p bm mn : Nat) (D : DataW Unit) (a : Option Addr) (cap : Nat) (rb : List Nat) (qs : List (Tx × Bool)) (h : Res w p bm mn D a cap rb qs) (i : Nat) (hi : i < qs.length) (hq : qs.length ≤ 65536) (hmn : mn ≤ 65536) :
    Calls Try.prog 27 #[ptr p, ptr (rb.getD i default)] w (Answer w (Leads D qs i (nearest qs i))) := by
  have HR0 : Hid (Res w p bm mn D a cap rb qs) := h
  obtain ⟨g, o, r, ea, hcx, HXr0⟩ := h.queue.at i hi
  subst ea
  have HR : Hid (Res w p bm mn D (some ⟨g, o, none⟩) cap rb qs) := h
  have c1 := h.c1
  have x7 := h.at_ i hi
  rw [HXr0.out] at x7
  rw [HXr0.out]
  have HN : Hid (nearest qs i ≤ i) := nearest_le qs i
  clear h HR0 HXr0 hcx
  unfold ptr
  go_enter Try.func27, Try.ntmps27
  go_wp2
  go_loop [5] (fun e => ∃ lo : Nat, lo ≤ i ∧ e = .int .i64 ((lo : Int) - 1) ∧ Hid (nearest qs lo = nearest qs i)) (fun e => (intOf e + 1).toNat)
  case atStart => exact ⟨i, Nat.le_refl _, rfl, rfl⟩
  case round =>
    obtain ⟨lo, hlo, rfl, HE⟩ := hrel
    cases lo with
    | zero =>
      have HE0 : Hid (0 = nearest qs i) := HE.out
      clear HE
      go_wp2_with (go_at_call 28; refine (leadsAt_any w p bm mn D _ cap rb qs HR.out i 0 hi (by omega) hq hmn).mono ?_; rintro e w' ⟨ss, hss, a5, c5, rfl, HX5, HV5⟩; have HS : Hid (∀ x, x ∈ ss ↔ Leads D qs i 0 x) := hss; clear hss)
      go_ret
      exact ⟨ss, by rw [← HE0.out]; exact HS.out, a5, c5, rfl, HX5, HV5⟩
    | succ k =>
      obtain ⟨g1, o1, y, ea1, hcy, HY⟩ := HR.out.queue.at k (by omega)
      have hy2 := HR.out.mode k (by omega)
      rw [HY.out] at hy2
      have hgo := Option.some.inj ea1
      simp only [Addr.mk.injEq, and_true] at hgo
      obtain ⟨rfl, rfl⟩ := hgo
      unfold ptr at hcy
      have hkq : (k : Int) < (qs.length : Int) := by omega
      have hk0 : (0 : Int) ≤ ((k + 1 : Nat) : Int) - 1 := by omega
      clear ea1
      cases hs : (qs.getD k default).2 with
      | true =>
        rw [hs] at hy2
        have hy2' : w.cell? ⟨y, 2, none⟩ = some (.int .i64 1) := hy2
        have HE2 : Hid (nearest qs k = nearest qs i) := by
          show nearest qs k = _
          rw [← HE.out, nearest, hs]
          rfl
        clear HE hs HY hy2
        go_wp2
        go_round
        case rel => exact ⟨k, by omega, by go_num, HE2⟩
        case measure => simp [intOf]
      | false =>
        rw [hs] at hy2
        have hy2' : w.cell? ⟨y, 2, none⟩ = some (.int .i64 0) := hy2
        have HE2 : Hid (k + 1 = nearest qs i) := by
          show k + 1 = _
          rw [← HE.out, nearest, hs]
          rfl
        have HCall : Hid (Calls Try.prog 28 #[ptr p, .int .i64 i, .int .i64 (k : Int)] w (Answer w (Leads D qs i (k + 1)))) := by
          have hcall := leadsAt_any w p bm mn D _ cap rb qs HR.out i (k + 1) hi (by omega) hq hmn
          rw [show (((k + 1 : Nat) : Int)) - 1 = (k : Int) from by omega] at hcall
          exact hcall
        clear HE hs HY hy2
        go_wp2_with (go_at_call 28; refine HCall.out.mono ?_; rintro e w' ⟨ss, hss, a5, c5, rfl, HX5, HV5⟩; have HS : Hid (∀ x, x ∈ ss ↔ Leads D qs i (k + 1) x) := hss; clear hss)
        go_ret
        exact ⟨ss, by rw [← HE2.out]; exact HS.out, a5, c5, rfl, HX5, HV5⟩

/-- 'ZZBlockers'. -/
theorem zzblockers_any (w : World) (p bm mn : Nat) (D : DataW Unit) (a : Option Addr) (cap : Nat) (rb : List Nat) (qs : List (Tx × Bool)) (h : Res w p bm mn D a cap rb qs) (i : Nat) (hi : i < qs.length) (hq : qs.length ≤ 65536) (hmn : mn ≤ 65536) :
    Calls Try.prog 15 #[ptr p, ptr (rb.getD i default)] w (Answer w (Blocks D qs i)) := by
  have HR : Hid (Res w p bm mn D a cap rb qs) := h
  clear h
  go_enter Try.func15, Try.ntmps15
  go_wp2_with (go_at_call 26; refine (blockers_any w p bm mn D a cap rb qs HR.out i hi hq hmn).mono ?_; rintro e w' ⟨ss, hss, a5, c5, rfl, HX5, HV5⟩; have HS : Hid (∀ x, x ∈ ss ↔ Blocks D qs i x) := hss; clear hss)
  go_ret
  exact ⟨ss, HS.out, a5, c5, rfl, HX5, HV5⟩

/-- 'ZZLeads'. -/
theorem zzleads_any (w : World) (p bm mn : Nat) (D : DataW Unit) (a : Option Addr) (cap : Nat) (rb : List Nat) (qs : List (Tx × Bool)) (h : Res w p bm mn D a cap rb qs) (i : Nat) (hi : i < qs.length) (hq : qs.length ≤ 65536) (hmn : mn ≤ 65536) :
    Calls Try.prog 16 #[ptr p, ptr (rb.getD i default)] w (Answer w (Leads D qs i (nearest qs i))) := by
  have HR : Hid (Res w p bm mn D a cap rb qs) := h
  clear h
  go_enter Try.func16, Try.ntmps16
  go_wp2_with (go_at_call 27; refine (leads_any w p bm mn D a cap rb qs HR.out i hi hq hmn).mono ?_; rintro e w' ⟨ss, hss, a5, c5, rfl, HX5, HV5⟩; have HS : Hid (∀ x, x ∈ ss ↔ Leads D qs i (nearest qs i) x) := hss; clear hss)
  go_ret
  exact ⟨ss, HS.out, a5, c5, rfl, HX5, HV5⟩

/-- 'sameList'. -/
theorem same_any (a b : Option Addr) (n m ca cb : Nat) (la lb : List Tx) (w : World) (ha : SV encStr w a n ca la) (hb : SV encStr w b m cb lb) (he : la = lb) :
    Calls Try.prog 24 #[.slice a n ca, .slice b m cb] w fun e w' => e = .returned (.bool true) ∧ ∃ k, w' = w.drewN k := by
  subst he
  obtain rfl : n = m := by rw [← ha.len, ← hb.len]
  have hmx := ha.max
  have hle := ha.le
  unfold maxLen at hmx
  have hnn : ((n : Int) != (n : Int)) = false := by simp
  have HA : Hid (SV encStr w a n ca la) := ha
  have HB : Hid (SV encStr w b n cb la) := hb
  clear ha hb
  go_enter Try.func24, Try.ntmps24
  go_wp2
  go_loopw [5] (fun i wr => ∃ k x : Nat, k ≤ n ∧ i = .int .i64 k ∧ wr = w.drewN x) (fun i _ => n - (intOf i).toNat)
  case atStart => exact ⟨0, 0, by omega, rfl, rfl⟩
  case round =>
    obtain ⟨k, x, hk, rfl, rfl⟩ := hrel
    by_cases hlt : k < n
    · obtain ⟨b1, o1, c, ea, hca, HC1⟩ := HA.out.at k hlt
      obtain ⟨b2, o2, d, eb, hcb, HC2⟩ := HB.out.at k hlt
      have hcd : c = d := by rw [← HC1.out, ← HC2.out]
      subst ea eb hcd
      have hlt' : (k : Int) < (n : Int) := by omega
      go_wp2
      go_quiet (fail)
      go_wp2
      go_roundw
      case rel => exact ⟨k + 1, _, by omega, by go_num, rfl⟩
      case measure => simp [intOf]; omega
    · go_wp2
      go_ret
      exact ⟨rfl, _, rfl⟩
end Go.Proofs.Qxb6003669a
