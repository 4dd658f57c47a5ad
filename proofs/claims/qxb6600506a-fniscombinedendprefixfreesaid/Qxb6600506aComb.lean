import Derived.Test.Qxb6600506aWalks
namespace Go.Proofs.Qxb6600506a
open Go.RowKit
open Go.Proofs.Qxb6600506a.Plain

def combFrom : Nat → List Int → Bool
  | 0, l => l.length == 0
  | u + 1, l => match field l with
    | none => false
    | some r => combFrom u r

theorem comb_eq (l : List Int) : comb l = combFrom 2 l := by
  cases h : field l with
  | none => simp only [comb, combFrom, h]
  | some r =>
    cases h2 : field r with
    | none => simp only [comb, combFrom, h, h2]
    | some r2 => simp only [comb, combFrom, h, h2]

theorem combFrom_none (u : Nat) {l : List Int} (h : field l = none) : combFrom (u + 1) l = false := by rw [combFrom, h]
theorem combFrom_some (u : Nat) {l r : List Int} (h : field l = some r) : combFrom (u + 1) l = combFrom u r := by rw [combFrom, h]

theorem field_nil {l : List Int} (h : l.length = 0) : field l = none := by rw [field, if_pos h]
theorem field_ne {l : List Int} (h : l.getD 0 0 ≠ 32) : field l = none := by rw [field]; split <;> first | rfl | rw [if_neg h]
theorem field_q {l : List Int} (h0 : l.length ≠ 0) (h : l.getD 0 0 = 32) : field l = (q (l.drop 1)).map (fun j => (l.drop 1).drop j) := by rw [field, if_neg h0, if_pos h]

/-- b[1:], as the walk writes it. -/
theorem SV.tail {w : World} {b off n cap : Nat} {l : List Int} (h : SV w (some ⟨b, off, none⟩) n cap l) (hn : 1 ≤ n) :
    SV w (some ⟨b, if cap = 1 then off else off + 1, none⟩) (n - 1) (cap - 1) (l.drop 1) := by
  have hd := h.drop 1 hn
  by_cases hc : cap = 1
  · rw [if_pos hc] at hd ⊢
    exact hd
  · rw [if_neg hc] at hd ⊢
    rw [Option.map_some, Nat.mul_one, Addr.add_lit] at hd
    exact hd

theorem quoted_none (a : Option Addr) (n cap : Nat) (l : List Int) (w : World) (h : SV w a n cap l) (hsm : n ≤ 1048576) (hq : q l = none) :
    Calls Try.prog 29 #[.slice a n cap] w fun e w' => e = .returned (.tuple #[.slice none 0 0, .bool false]) ∧ w' = w := by
  refine (quoted_any a n cap l w h hsm).mono ?_
  rintro e w' ⟨hw, ⟨_, he⟩ | ⟨j, _, hj, _⟩⟩
  · exact ⟨he, hw⟩
  · rw [hq] at hj; cases hj

theorem quoted_some (a : Option Addr) (n cap : Nat) (l : List Int) (w : World) (h : SV w a n cap l) (hsm : n ≤ 1048576) (j : Nat) (hq : q l = some j) :
    Calls Try.prog 29 #[.slice a n cap] w fun e w' => w' = w ∧ ∃ a', e = .returned (.tuple #[.slice a' (n - j) (cap - j), .bool true]) ∧ Hid (SV w a' (n - j) (cap - j) (l.drop j)) := by
  refine (quoted_any a n cap l w h hsm).mono ?_
  rintro e w' ⟨hw, ⟨hn, _⟩ | ⟨j', a', hj, _, he, hd⟩⟩
  · rw [hq] at hn; cases hn
  · rw [hq] at hj
    obtain rfl := Option.some.inj hj
    exact ⟨hw, a', he, hd⟩

set_option maxHeartbeats 2000000 in
theorem comb_any (a : Option Addr) (n cap : Nat) (l : List Int) (w : World) (h : SV w a n cap l) (hsm : n ≤ 1048576) :
    Calls Try.prog 30 #[.slice a n cap] w fun e w' => e = .returned (.bool (comb l)) ∧ w' = w := by
  have H : Hid (SV w a n cap l) := h
  have HC : Hid (comb l = combFrom 2 l) := comb_eq l
  clear h
  go_enter Try.func30, Try.ntmps30
  go_wp2
  go_loop [0, 4] (fun v i => ∃ (t u : Nat) (a : Option Addr) (n cap : Nat) (r : List Int), t + u = 2 ∧ i = .int .i64 t ∧ v = .slice a n cap ∧ n ≤ 1048576 ∧ Hid (SV w a n cap r) ∧ Hid (comb l = combFrom u r)) (fun _ i => 2 - (intOf i).toNat)
  case atStart => exact ⟨0, 2, a, n, cap, l, rfl, rfl, rfl, hsm, H, HC⟩
  case round =>
    clear H HC hsm
    obtain ⟨t, u, a, n, cap, r, htu, rfl, rfl, hsm, H, HC⟩ := hrel
    cases u with
    | zero =>
      have ht : ¬ (t : Int) < 2 := by omega
      have HE : Hid (comb l = ((n : Int) == 0)) := by
        show comb l = _
        rw [HC.out, combFrom, H.out.len]
        by_cases h0 : n = 0
        · subst h0; rfl
        · rw [beq_eq_false_iff_ne.2 h0, beq_eq_false_iff_ne.2 (by omega)]
      clear htu HC
      go_wp2
      go_ret
      exact ⟨ret_bool HE.out.symm, rfl⟩
    | succ u =>
      have ht : (t : Int) < 2 := by omega
      have htu' : t + 1 + u = 2 := by omega
      have HT : Hid (t + 1 + u = 2) := htu'
      clear htu htu'
      by_cases hn : n = 0
      · subst hn
        have HE : Hid (comb l = false) := by
          show comb l = _
          rw [HC.out, combFrom_none u (field_nil H.out.len)]
        go_wp2
        go_ret
        exact ⟨ret_bool HE.out.symm, rfl⟩
      · have hlen := H.out.len
        obtain ⟨b, off, ea, hc⟩ := H.out.cells (by omega)
        subst ea
        have h0 : ((n : Int) == 0) = false := beq_eq_false_iff_ne.2 (by omega)
        have hni : (0 : Int) < (n : Int) := by omega
        obtain ⟨c0, hc0, HC0⟩ : ∃ c0, w.cell? ⟨b, off, none⟩ = some (.int .u8 c0) ∧ Hid (r.getD 0 0 = c0) := ⟨_, by have := hc 0 (by omega); simpa only [Nat.add_zero] using this, rfl⟩
        have hle := H.out.le
        have hcm : cap ≤ 9223372036854775807 := H.out.max
        have HLen : Hid (r.length = n) := hlen
        clear hc hlen
        by_cases h32 : c0 = 32
        · have hne : (c0 != 32) = false := by simp [h32]
          have HF : Hid (field r = (q (r.drop 1)).map (fun j => (r.drop 1).drop j)) := field_q (by rw [HLen.out]; exact hn) (by rw [HC0.out]; exact h32)
          have HD : Hid (SV w (some ⟨b, if cap = 1 then off else off + 1, none⟩) (n - 1) (cap - 1) (r.drop 1)) := H.out.tail (by omega)
          clear HC0 h32
          cases hq : q (r.drop 1) with
          | none =>
            have HQ : Hid (q (r.drop 1) = none) := hq
            have HE : Hid (comb l = false) := by
              show comb l = _
              rw [HC.out, combFrom_none u (by rw [HF.out, hq]; rfl)]
            clear HF HC hq
            by_cases hcap : cap = 1
            · obtain rfl : n = 1 := by omega
              subst hcap
              have HD0 : Hid (SV w (some ⟨b, off, none⟩) 0 0 (r.drop 1)) := HD
              clear HD HLen hle h0 hn H
              go_wp2_with (go_at_call 29; refine (quoted_none _ _ _ _ _ HD0.out (by omega) HQ.out).mono ?_; rintro e w' ⟨rfl, hw⟩; subst w')
              go_ret
              exact ⟨ret_bool HE.out.symm, rfl⟩
            · rw [if_neg hcap] at HD
              go_wp2_with (go_at_call 29; refine (quoted_none _ _ _ _ _ HD.out (by omega) HQ.out).mono ?_; rintro e w' ⟨rfl, hw⟩; subst w')
              go_ret
              exact ⟨ret_bool HE.out.symm, rfl⟩
          | some j =>
            have HQ : Hid (q (r.drop 1) = some j) := hq
            have HE : Hid (comb l = combFrom u ((r.drop 1).drop j)) := by
              show comb l = _
              rw [HC.out, combFrom_some u (by rw [HF.out, hq]; rfl)]
            clear HF HC hq
            have hcap : ¬ cap = 1 := by
              have := q_bd HQ.out
              rw [List.length_drop, HLen.out] at this
              omega
            rw [if_neg hcap] at HD
            go_wp2_with (go_at_call 29; refine (quoted_some _ _ _ _ _ HD.out (by omega) j HQ.out).mono ?_; rintro e w' ⟨hw, a', rfl, HN⟩; subst w')
            go_round
            case rel => exact ⟨t + 1, u, a', _, _, _, HT.out, by go_num, rfl, by omega, HN, HE⟩
            case measure => simp [intOf]; omega
        · have hne : (c0 != 32) = true := by simp [h32]
          have HE : Hid (comb l = false) := by
            show comb l = _
            rw [HC.out, combFrom_none u (field_ne (by rw [HC0.out]; exact h32))]
          clear h32
          go_wp2
          go_ret
          exact ⟨ret_bool HE.out.symm, rfl⟩

theorem zzcomb_any (a : Option Addr) (n cap : Nat) (l : List Int) (w : World) (h : SV w a n cap l) (hsm : n ≤ 1048576) :
    Calls Try.prog 20 #[.slice a n cap] w fun e w' => e = .returned (.bool (comb l)) ∧ w' = w := by
  have H : Hid (SV w a n cap l) := h
  clear h
  go_enter Try.func20, Try.ntmps20
  go_wp2_with (go_at_call 30; refine (comb_any _ _ _ _ _ H.out hsm).mono ?_; rintro e w' ⟨rfl, hw⟩; subst w')
  go_ret
  exact ⟨rfl, rfl⟩

theorem bytes23_any (a : Option Addr) (n cap : Nat) (i : Int) (w : World) :
    Calls Try.prog 23 #[.slice a n cap, .int .i64 i] w fun e w' => e = .returned (.bool (decide ((n : Int) ≤ 1048576))) ∧ w' = w := by
  by_cases h : (n : Int) ≤ 1048576
  · have h' : ¬ (1048576 : Int) < (n : Int) := by omega
    rw [decide_eq_true h]
    go_enter Try.func23, Try.ntmps23
    go_wp2
    go_ret
    exact ⟨rfl, rfl⟩
  · have h' : (1048576 : Int) < (n : Int) := by omega
    rw [decide_eq_false h]
    go_enter Try.func23, Try.ntmps23
    go_wp2
    go_ret
    exact ⟨rfl, rfl⟩

set_option maxHeartbeats 1000000 in
theorem prefix_walk (a : Option Addr) (n cap : Nat) (l : List Int) (i : Int) (w : World) (h : SV w a n cap l) :
    Calls Try.prog 8 #[.slice a n cap, .int .i64 i] w fun e w' => e = .returned (.bool true) ∧ Below w.heap.size w w' := by
  have H : Hid (SV w a n cap l) := h
  clear h
  by_cases hs : (n : Int) ≤ 1048576
  · have h1 : decide ((1048576 : Int) < (n : Int)) = false := decide_eq_false (by omega)
    by_cases h0 : i < 0
    · go_enter Try.func8, Try.ntmps8
      go_wp2_with (go_at_call 23; refine (bytes23_any _ _ _ _ _).mono ?_; rintro e w' ⟨rfl, hw⟩; subst w'; rw [decide_eq_true hs])
      go_ret
      exact ⟨rfl, Below.refl _ _⟩
    · obtain ⟨k, rfl⟩ := Int.eq_ofNat_of_zero_le (show 0 ≤ i by omega)
      have h2 : decide ((k : Int) < 0) = false := decide_eq_false (by omega)
      by_cases hk : (n : Int) ≤ (k : Int)
      · go_enter Try.func8, Try.ntmps8
        go_wp2_with (go_at_call 23; refine (bytes23_any _ _ _ _ _).mono ?_; rintro e w' ⟨rfl, hw⟩; subst w'; rw [decide_eq_true hs])
        go_ret
        exact ⟨rfl, Below.refl _ _⟩
      · have hkn : (k : Int) < (n : Int) := by omega
        have h3 : decide ((n : Int) ≤ (k : Int)) = false := decide_eq_false (by omega)
        clear h0 hk
        cases hl : comb l with
        | false =>
          have HL : Hid (comb l = false) := hl
          clear hl
          go_enter Try.func8, Try.ntmps8
          go_wp2_with (first
            | (go_at_call 23; refine (bytes23_any _ _ _ _ _).mono ?_; rintro e w' ⟨rfl, hw⟩; subst w'; rw [decide_eq_true hs])
            | (go_at_call 12; refine (copy_any _ _ _ _ _ H.out (by omega)).mono ?_; rintro e w1 ⟨hb, a', rfl, hsv⟩; have HB : Hid (Below w.heap.size w w1) := hb; have HV : Hid (SV w1 a' n n l) := hsv; clear hb hsv)
            | (go_at_call 20; refine (zzcomb_any _ _ _ _ _ HV.out (by omega)).mono ?_; rintro e w' ⟨rfl, hw⟩; subst w'; rw [HL.out]))
          go_ret
          exact ⟨rfl, HB.out⟩
        | true =>
          have HL : Hid (comb l = true) := hl
          have HP : Hid (comb (l.take k) = false) := comb_take hl k (by rw [H.out.len]; omega)
          clear hl
          go_enter Try.func8, Try.ntmps8
          go_wp2_with (first
            | (go_at_call 23; refine (bytes23_any _ _ _ _ _).mono ?_; rintro e w' ⟨rfl, hw⟩; subst w'; rw [decide_eq_true hs])
            | (go_at_call 12; refine (copy_any _ _ _ _ _ H.out (by omega)).mono ?_; rintro e w1 ⟨hb, a', rfl, hsv⟩; have HB : Hid (Below w.heap.size w w1) := hb; have HV : Hid (SV w1 a' n n l) := hsv; clear hb hsv)
            | (go_at_call 20; refine (zzcomb_any _ _ _ _ _ HV.out (by omega)).mono ?_; rintro e w' ⟨rfl, hw⟩; subst w'; rw [HL.out])
            | (go_at_call 20; refine (zzcomb_any _ _ _ _ _ (HV.out.take k (by omega)) (by omega)).mono ?_; rintro e w' ⟨rfl, hw⟩; subst w'; rw [HP.out]))
          go_ret
          exact ⟨rfl, HB.out⟩
  · go_enter Try.func8, Try.ntmps8
    go_wp2_with (go_at_call 23; refine (bytes23_any _ _ _ _ _).mono ?_; rintro e w' ⟨rfl, hw⟩; subst w'; rw [decide_eq_false hs])
    go_ret
    exact ⟨rfl, Below.refl _ _⟩
end Go.Proofs.Qxb6600506a
