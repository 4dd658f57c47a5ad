import Derived.Test.Qxb6003669aWaits
namespace Go.Proofs.Qxb6003669a
open Go.RowKit Go.Maps
open Go.Proofs.Qxb6003669a.Plain

/-! ### The plain law: what stands behind the request bears on nothing -/
theorem take_getD (qs : List (Tx × Bool)) (i j : Nat) (h : j ≤ i) : (qs.take (i + 1)).getD j default = qs.getD j default := by
  rw [List.getD_eq_getElem?_getD, List.getD_eq_getElem?_getD, List.getElem?_take, if_pos (by omega)]

theorem blocks_cut (D : DataW Unit) (qs : List (Tx × Bool)) (i : Nat) (x : Tx) : Blocks D (qs.take (i + 1)) i x ↔ Blocks D qs i x := by
  unfold Blocks
  rw [take_getD qs i i (Nat.le_refl _)]
  constructor
  · rintro (h | ⟨j, hj, h⟩)
    · exact .inl h
    · rw [take_getD qs i j (by omega)] at h; exact .inr ⟨j, hj, h⟩
  · rintro (h | ⟨j, hj, h⟩)
    · exact .inl h
    · refine .inr ⟨j, hj, ?_⟩
      rw [take_getD qs i j (by omega)]; exact h

theorem nearest_cut (qs : List (Tx × Bool)) (i : Nat) : ∀ k, k ≤ i → nearest (qs.take (i + 1)) k = nearest qs k
  | 0, _ => rfl
  | k + 1, h => by
    unfold nearest
    rw [take_getD qs i k (by omega), nearest_cut qs i k (by omega)]

theorem leads_cut (D : DataW Unit) (qs : List (Tx × Bool)) (i : Nat) (x : Tx) : Leads D (qs.take (i + 1)) i (nearest (qs.take (i + 1)) i) x ↔ Leads D qs i (nearest qs i) x := by
  have hn := nearest_le qs i
  rw [nearest_cut qs i i (Nat.le_refl _)]
  unfold Leads
  rw [take_getD qs i i (Nat.le_refl _), take_getD qs i (nearest qs i - 1) (by omega)]
  constructor
  · rintro (⟨h1, j, h2, h3, h4⟩ | h)
    · rw [take_getD qs i j (by omega)] at h4; exact .inl ⟨h1, j, h2, h3, h4⟩
    · exact .inr h
  · rintro (⟨h1, j, h2, h3, h4⟩ | h)
    · refine .inl ⟨h1, j, h2, h3, ?_⟩
      rw [take_getD qs i j (by omega)]; exact h4
    · exact .inr h

theorem zip_take : ∀ (l2 : List Tx) (l3 : List Bool) (k : Nat), (l2.zip l3).take k = (l2.take k).zip (l3.take k)
  | _, _, 0 => by simp
  | [], _, k + 1 => by simp
  | _ :: _, [], k + 1 => by simp
  | a :: l2, b :: l3, k + 1 => by simp only [List.zip_cons_cons, List.take_succ_cons]; rw [zip_take l2 l3 k]

theorem bt {a b c : World} (h1 : Below a.heap.size a b) (h2 : Below b.heap.size b c) : Below a.heap.size a c := h1.trans (h2.mono h1.size)

set_option maxHeartbeats 4000000 in
set_option maxRecDepth 100000 in
theorem ignore_main (a0 a1 a2 a3 : Option Addr) (n m c0 c1 c2 c3 : Nat) (l0 l2 : List Tx) (l1 l3 : List Bool) (i : Nat) (w : World)
    (h0 : SV encStr w a0 n c0 l0) (h1 : SV Value.bool w a1 n c1 l1) (h2 : SV encStr w a2 m c2 l2) (h3 : SV Value.bool w a3 m c3 l3) (hi : i < m) (hb : ∀ x ∈ l0, x.length ≤ maxLen) :
    Calls Try.prog 6 #[.slice a0 n c0, .slice a1 n c1, .slice a2 m c2, .slice a3 m c3, .int .i64 i] w fun e w' => e = .returned (.bool true) ∧ Below w.heap.size w w' := by
  have A0 : Hid (SV encStr w a0 n c0 l0) := h0
  have A1 : Hid (SV Value.bool w a1 n c1 l1) := h1
  have A2 : Hid (SV encStr w a2 m c2 l2) := h2
  have A3 : Hid (SV Value.bool w a3 m c3 l3) := h3
  have HBd : Hid (∀ x ∈ l0, x.length ≤ maxLen) := hb
  have en : ((n : Int) != (n : Int)) = false := by simp
  have em : ((m : Int) != (m : Int)) = false := by simp
  have ei : decide ((i : Int) < 0) = false := decide_eq_false (by omega)
  have ei2 : decide ((m : Int) ≤ (i : Int)) = false := decide_eq_false (by omega)
  clear h0 h1 h2 h3 hb
  go_enter Try.func6, Try.ntmps6
  go_wp2_with fail
  refine (bytes23_any _ _ _ _ _ _ _ _ _ _ _ _ _ _ _ _ A0.out A2.out).mono ?_
  rintro e w' ⟨⟨r, rfl⟩, hw⟩
  subst w'
  cases r with
  | false =>
    go_wp2
    go_ret
    exact ⟨rfl, Below.refl _ _⟩
  | true =>
  go_wp2_with fail
  refine (tooBig_any _ _ _ _ _ _ _ _ _ _ _ _ _ _ _ A0.out A2.out).mono ?_
  rintro e w' ⟨⟨r, rfl, hsm⟩, hw⟩
  subst w'
  cases r with
  | true =>
    go_wp2
    go_ret
    exact ⟨rfl, Below.refl _ _⟩
  | false =>
  obtain ⟨hn, hm, _, _⟩ := hsm rfl
  clear hsm
  go_wp2_with fail
  refine (cloneS_any _ _ _ _ _ A0.out hn).mono ?_
  rintro e w1 ⟨b0, rfl, X1, V0, _⟩
  go_wp2_with fail
  refine (cloneB_any _ _ _ _ _ (A1.out.below X1.out) hn).mono ?_
  rintro e w2 ⟨b1, rfl, X2, V1, _⟩
  go_wp2_with fail
  refine (cloneS_any _ _ _ _ _ (A2.out.below (bt X1.out X2.out)) hm).mono ?_
  rintro e w3 ⟨b2, rfl, X3, V2, _⟩
  go_wp2_with fail
  refine (cloneB_any _ _ _ _ _ (A3.out.below (bt (bt X1.out X2.out) X3.out)) hm).mono ?_
  rintro e w4 ⟨b3, rfl, X4, V3, _⟩
  have hi1 : (0 : Int) ≤ (i : Int) + 1 ∧ (i : Int) + 1 ≤ (m : Int) := by omega
  go_wp2_with fail
  refine (cloneS_any _ _ _ _ _ ((V2.out.below X4.out).take (i + 1) (by omega)) (by omega)).mono ?_
  rintro e w5 ⟨b4, rfl, X5, V4, _⟩
  go_wp2_with fail
  refine (cloneB_any _ _ _ _ _ ((V3.out.below X5.out).take (i + 1) (by omega)) (by omega)).mono ?_
  rintro e w6 ⟨b5, rfl, X6, V5, _⟩
  have S0 : Hid (SV encStr w6 b0 n n l0) := V0.out.below (bt (bt (bt (bt X2.out X3.out) X4.out) X5.out) X6.out)
  have S1 : Hid (SV Value.bool w6 b1 n n l1) := V1.out.below (bt (bt (bt X3.out X4.out) X5.out) X6.out)
  have S2 : Hid (SV encStr w6 b2 m m l2) := V2.out.below (bt (bt X4.out X5.out) X6.out)
  have S3 : Hid (SV Value.bool w6 b3 m m l3) := V3.out.below (bt X5.out X6.out)
  have S4 : Hid (SV encStr w6 b4 (i + 1) (i + 1) (l2.take (i + 1))) := V4.out.below X6.out
  have S5 : Hid (SV Value.bool w6 b5 (i + 1) (i + 1) (l3.take (i + 1))) := V5.out
  have X06 : Hid (Below w.heap.size w w6) := bt (bt (bt (bt (bt X1.out X2.out) X3.out) X4.out) X5.out) X6.out
  have HLen : Hid (l2.length = m ∧ l3.length = m) := ⟨A2.out.len, A3.out.len⟩
  clear V0 V1 V2 V3 V4 V5 A0 A1 A2 A3 X1 X2 X3 X4 X5 X6
  go_wp2_with fail
  refine (new_any _ _ _ _ n m _ _ _ _ l0 l2 l1 l3 _ S0.out S1.out S2.out S3.out hn hm HBd.out).mono ?_
  rintro e w7 ⟨rfl, M7⟩
  have M7' : Hid (Made w6 w7 n (holders (l0.zip l1)) (l2.zip l3)) := M7
  clear M7
  have hzl : (l2.zip l3).length = m := by rw [List.length_zip, HLen.out.1, HLen.out.2]; omega
  have HZL : Hid ((l2.zip l3).length = m) := hzl
  clear hzl
  go_wp2_with fail
  refine (zznumber_any w6 w7 _ _ _ M7'.out (by rw [HZL.out]; exact hm)).mono ?_
  rintro e w8 ⟨rfl, X8, aF, cF, rF, RF⟩
  have X8' : Hid (Below w6.heap.size w6 w8) := X8
  have RF' : Hid (Res w8 (w6.heap.size + 1) w6.heap.size n (holders (l0.zip l1)) aF cF rF (l2.zip l3)) := RF
  clear X8 RF
  go_wp2_with fail
  refine (new_any _ _ _ _ n (i + 1) _ _ _ _ l0 (l2.take (i + 1)) l1 (l3.take (i + 1)) _ (S0.out.below X8'.out) (S1.out.below X8'.out) (S4.out.below X8'.out) (S5.out.below X8'.out) hn (by omega) HBd.out).mono ?_
  rintro e w9 ⟨rfl, M9⟩
  have M9' : Hid (Made w8 w9 n (holders (l0.zip l1)) ((l2.zip l3).take (i + 1))) := by rw [zip_take]; exact M9
  clear M9
  have HZC : Hid (((l2.zip l3).take (i + 1)).length = i + 1) := by
    show _ = _
    rw [List.length_take, HZL.out]; omega
  go_wp2_with fail
  refine (zznumber_any w8 w9 _ _ _ M9'.out (by rw [HZC.out]; omega)).mono ?_
  rintro e w10 ⟨rfl, X10, aC, cC, rC, RC⟩
  have X10' : Hid (Below w8.heap.size w8 w10) := X10
  have RC' : Hid (Res w10 (w8.heap.size + 1) w8.heap.size n (holders (l0.zip l1)) aC cC rC ((l2.zip l3).take (i + 1))) := RC
  have RF2 : Hid (Res w10 (w6.heap.size + 1) w6.heap.size n (holders (l0.zip l1)) aF cF rF (l2.zip l3)) := RF'.out.below X10
  clear X10 RC RF' M7' M9' S0 S1 S2 S3 S4 S5
  generalize hqs : l2.zip l3 = qs at *
  have HQs : Hid (l2.zip l3 = qs) := hqs
  clear hqs
  generalize holders (l0.zip l1) = D at *
  go_wp2_with fail
  refine (queueAt_any w10 _ _ _ _ _ _ _ _ RF2.out i (by rw [HZL.out]; exact hi)).mono ?_
  rintro e w' ⟨rfl, hw⟩
  subst w'
  go_wp2_with fail
  refine (zzblockers_any w10 _ _ _ _ _ _ _ _ RF2.out i (by rw [HZL.out]; exact hi) (by rw [HZL.out]; exact hm) hn).mono ?_
  rintro e w11 ⟨sF, hsF, aBF, cBF, rfl, X11, VBF⟩
  have HsF : Hid (∀ x, x ∈ sF ↔ Blocks D qs i x) := hsF
  have RC2 : Hid (Res w11 (w8.heap.size + 1) w8.heap.size n D aC cC rC (qs.take (i + 1))) := RC'.out.below X11.out
  have RF3 : Hid (Res w11 (w6.heap.size + 1) w6.heap.size n D aF cF rF qs) := RF2.out.below X11.out
  clear hsF RC' RF2
  go_wp2_with fail
  refine (queueAt_any w11 _ _ _ _ _ _ _ _ RC2.out i (by rw [HZC.out]; omega)).mono ?_
  rintro e w' ⟨rfl, hw⟩
  subst w'
  go_wp2_with fail
  refine (zzblockers_any w11 _ _ _ _ _ _ _ _ RC2.out i (by rw [HZC.out]; omega) (by rw [HZC.out]; omega) hn).mono ?_
  rintro e w12 ⟨sC, hsC, aBC, cBC, rfl, X12, VBC⟩
  have HBeq : Hid (uniq sF = uniq sC) := uniq_ext fun x => by rw [HsF.out x, hsC x, blocks_cut]
  have RC3 : Hid (Res w12 (w8.heap.size + 1) w8.heap.size n D aC cC rC (qs.take (i + 1))) := RC2.out.below X12.out
  have RF4 : Hid (Res w12 (w6.heap.size + 1) w6.heap.size n D aF cF rF qs) := RF3.out.below X12.out
  clear hsC RC2 RF3 HsF
  go_wp2_with fail
  refine (queueAt_any w12 _ _ _ _ _ _ _ _ RF4.out i (by rw [HZL.out]; exact hi)).mono ?_
  rintro e w' ⟨rfl, hw⟩
  subst w'
  go_wp2_with fail
  refine (zzleads_any w12 _ _ _ _ _ _ _ _ RF4.out i (by rw [HZL.out]; exact hi) (by rw [HZL.out]; exact hm) hn).mono ?_
  rintro e w13 ⟨tF, htF, aLF, cLF, rfl, X13, VLF⟩
  have HtF : Hid (∀ x, x ∈ tF ↔ Leads D qs i (nearest qs i) x) := htF
  have RC4 : Hid (Res w13 (w8.heap.size + 1) w8.heap.size n D aC cC rC (qs.take (i + 1))) := RC3.out.below X13.out
  clear htF RC3 RF4
  go_wp2_with fail
  refine (queueAt_any w13 _ _ _ _ _ _ _ _ RC4.out i (by rw [HZC.out]; omega)).mono ?_
  rintro e w' ⟨rfl, hw⟩
  subst w'
  go_wp2_with fail
  refine (zzleads_any w13 _ _ _ _ _ _ _ _ RC4.out i (by rw [HZC.out]; omega) (by rw [HZC.out]; omega) hn).mono ?_
  rintro e w14 ⟨tC, htC, aLC, cLC, rfl, X14, VLC⟩
  have HLeq : Hid (uniq tF = uniq tC) := uniq_ext fun x => by rw [HtF.out x, htC x, leads_cut]
  clear htC HtF
  have X1014 : Hid (Below w10.heap.size w10 w14) := bt (bt (bt X11.out X12.out) X13.out) X14.out
  have T1 : Hid (SV encStr w14 aBF (uniq sF).length cBF (uniq sF)) := VBF.out.below (bt (bt X12.out X13.out) X14.out)
  have T2 : Hid (SV encStr w14 aBC (uniq sC).length cBC (uniq sC)) := VBC.out.below (bt X13.out X14.out)
  have T3 : Hid (SV encStr w14 aLF (uniq tF).length cLF (uniq tF)) := VLF.out.below X14.out
  have T4 : Hid (SV encStr w14 aLC (uniq tC).length cLC (uniq tC)) := VLC.out
  clear VBF VBC VLF VLC X11 X12 X13 X14 RC4
  go_wp2_with fail
  refine (same_any _ _ _ _ _ _ _ _ w14 T1.out T2.out HBeq.out).mono ?_
  rintro e w' ⟨rfl, k1, hw⟩
  subst w'
  go_wp2_with fail
  refine (same_any _ _ _ _ _ _ _ _ _ (T3.out.drewN k1) (T4.out.drewN k1) HLeq.out).mono ?_
  rintro e w' ⟨rfl, k2, hw⟩
  subst w'
  go_wp2_with fail
  go_ret
  exact ⟨rfl, below_drewN (bt (bt (bt X06.out X8'.out) X10'.out) X1014.out) _⟩

set_option maxHeartbeats 4000000 in
set_option maxRecDepth 100000 in
theorem ignore_walk (a0 a1 a2 a3 : Option Addr) (n0 n1 n2 n3 c0 c1 c2 c3 : Nat) (l0 l2 : List Tx) (l1 l3 : List Bool) (i : Int) (w : World)
    (h0 : SV encStr w a0 n0 c0 l0) (h1 : SV Value.bool w a1 n1 c1 l1) (h2 : SV encStr w a2 n2 c2 l2) (h3 : SV Value.bool w a3 n3 c3 l3) (hb : ∀ x ∈ l0, x.length ≤ maxLen) :
    Calls Try.prog 6 #[.slice a0 n0 c0, .slice a1 n1 c1, .slice a2 n2 c2, .slice a3 n3 c3, .int .i64 i] w fun e w' => e = .returned (.bool true) ∧ Below w.heap.size w w' := by
  by_cases e1 : n0 = n1
  · subst e1
    by_cases e2 : n2 = n3
    · subst e2
      by_cases e3 : i < 0
      · have A0 : Hid (SV encStr w a0 n0 c0 l0) := h0
        have A2 : Hid (SV encStr w a2 n2 c2 l2) := h2
        have en : ((n0 : Int) != (n0 : Int)) = false := by simp
        have em : ((n2 : Int) != (n2 : Int)) = false := by simp
        have ei : decide (i < 0) = true := decide_eq_true e3
        clear h0 h1 h2 h3 hb e3
        go_enter Try.func6, Try.ntmps6
        go_wp2_with fail
        refine (bytes23_any _ _ _ _ _ _ _ _ _ _ _ _ _ _ _ _ A0.out A2.out).mono ?_
        rintro e w' ⟨⟨r, rfl⟩, hw⟩
        subst w'
        cases r with
        | false => go_wp2; go_ret; exact ⟨rfl, Below.refl _ _⟩
        | true =>
        go_wp2_with fail
        refine (tooBig_any _ _ _ _ _ _ _ _ _ _ _ _ _ _ _ A0.out A2.out).mono ?_
        rintro e w' ⟨⟨r, rfl, hsm⟩, hw⟩
        subst w'
        clear hsm
        cases r with
        | true => go_wp2; go_ret; exact ⟨rfl, Below.refl _ _⟩
        | false => go_wp2; go_ret; exact ⟨rfl, Below.refl _ _⟩
      · obtain ⟨k, rfl⟩ := Int.eq_ofNat_of_zero_le (show 0 ≤ i by omega)
        by_cases e4 : k < n2
        · exact ignore_main a0 a1 a2 a3 n0 n2 c0 c1 c2 c3 l0 l2 l1 l3 k w h0 h1 h2 h3 e4 hb
        · have A0 : Hid (SV encStr w a0 n0 c0 l0) := h0
          have A2 : Hid (SV encStr w a2 n2 c2 l2) := h2
          have en : ((n0 : Int) != (n0 : Int)) = false := by simp
          have em : ((n2 : Int) != (n2 : Int)) = false := by simp
          have ei : decide ((k : Int) < 0) = false := decide_eq_false (by omega)
          have ei2 : n2 ≤ k := by omega
          clear h0 h1 h2 h3 hb e3 e4
          go_enter Try.func6, Try.ntmps6
          go_wp2_with fail
          refine (bytes23_any _ _ _ _ _ _ _ _ _ _ _ _ _ _ _ _ A0.out A2.out).mono ?_
          rintro e w' ⟨⟨r, rfl⟩, hw⟩
          subst w'
          cases r with
          | false => go_wp2; go_ret; exact ⟨rfl, Below.refl _ _⟩
          | true =>
          go_wp2_with fail
          refine (tooBig_any _ _ _ _ _ _ _ _ _ _ _ _ _ _ _ A0.out A2.out).mono ?_
          rintro e w' ⟨⟨r, rfl, hsm⟩, hw⟩
          subst w'
          clear hsm
          cases r with
          | true => go_wp2; go_ret; exact ⟨rfl, Below.refl _ _⟩
          | false => go_wp2; go_ret; exact ⟨rfl, Below.refl _ _⟩
    · have A0 : Hid (SV encStr w a0 n0 c0 l0) := h0
      have A2 : Hid (SV encStr w a2 n2 c2 l2) := h2
      have en : ((n0 : Int) != (n0 : Int)) = false := by simp
      have em : ((n2 : Int) != (n3 : Int)) = true := by simp; omega
      clear h0 h1 h2 h3 hb e2
      go_enter Try.func6, Try.ntmps6
      go_wp2_with fail
      refine (bytes23_any _ _ _ _ _ _ _ _ _ _ _ _ _ _ _ _ A0.out A2.out).mono ?_
      rintro e w' ⟨⟨r, rfl⟩, hw⟩
      subst w'
      cases r with
      | false => go_wp2; go_ret; exact ⟨rfl, Below.refl _ _⟩
      | true =>
      go_wp2_with fail
      refine (tooBig_any _ _ _ _ _ _ _ _ _ _ _ _ _ _ _ A0.out A2.out).mono ?_
      rintro e w' ⟨⟨r, rfl, hsm⟩, hw⟩
      subst w'
      clear hsm
      cases r with
      | true => go_wp2; go_ret; exact ⟨rfl, Below.refl _ _⟩
      | false => go_wp2; go_ret; exact ⟨rfl, Below.refl _ _⟩
  · have A0 : Hid (SV encStr w a0 n0 c0 l0) := h0
    have A2 : Hid (SV encStr w a2 n2 c2 l2) := h2
    have en : ((n0 : Int) != (n1 : Int)) = true := by simp; omega
    clear h0 h1 h2 h3 hb e1
    go_enter Try.func6, Try.ntmps6
    go_wp2_with fail
    refine (bytes23_any _ _ _ _ _ _ _ _ _ _ _ _ _ _ _ _ A0.out A2.out).mono ?_
    rintro e w' ⟨⟨r, rfl⟩, hw⟩
    subst w'
    cases r with
    | false => go_wp2; go_ret; exact ⟨rfl, Below.refl _ _⟩
    | true =>
    go_wp2_with fail
    refine (tooBig_any _ _ _ _ _ _ _ _ _ _ _ _ _ _ _ A0.out A2.out).mono ?_
    rintro e w' ⟨⟨r, rfl, hsm⟩, hw⟩
    subst w'
    clear hsm
    cases r with
    | true => go_wp2; go_ret; exact ⟨rfl, Below.refl _ _⟩
    | false => go_wp2; go_ret; exact ⟨rfl, Below.refl _ _⟩
end Go.Proofs.Qxb6003669a
