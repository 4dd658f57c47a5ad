import Derived.Test.Qxb6000940aSub
namespace Go.Proofs.Qxb6000940a
open Go.RowKit
open Go.Proofs.Qxb6000940a.Plain

set_option maxHeartbeats 1000000 in
theorem swap_main (s : ByteArray) (n : Nat) (w : World) (hs : (s.size : Int) ≤ 1048576) (hn : n + 1 < s.size) (hl : lei s.data.toList = true)
    (hne : ((s[n].toNat : Int) == (s[n + 1].toNat : Int)) = false) (hcl : cls (s[n].toNat : Int) = cls (s[n + 1].toNat : Int)) :
    Calls Try.prog 5 #[.string s, .int .i64 n] w fun e w' => e = .returned (.bool true) ∧ Below w.heap.size w w' := by
  have HC : Hid (cls (s[n].toNat : Int) = cls (s[n + 1].toNat : Int)) := hcl
  have hcl' : (cls (s[n].toNat : Int) != cls (s[n + 1].toNat : Int)) = false := by simp [hcl]
  clear hcl
  have HL : Hid (lei s.data.toList = true) := hl
  clear hl
  have hmx : s.size ≤ maxLen := by unfold maxLen; omega
  have h1 : decide ((1048576 : Int) < (s.size : Int)) = false := decide_eq_false (by omega)
  have h2 : decide ((n : Int) < 0) = false := decide_eq_false (by omega)
  have h3 : decide ((s.size : Int) - 1 ≤ (n : Int)) = false := decide_eq_false (by omega)
  have hni : (n : Int) < (s.size : Int) := by omega
  have hni1 : (n : Int) + 1 < (s.size : Int) := by omega
  have hnn : (0 : Int) ≤ (n : Int) + 1 := by omega
  go_enter Try.func5, Try.ntmps5
  go_wp2_with (first
    | (go_at_call 13; refine (bytes13_any _ _ _).mono ?_; rintro e w' ⟨rfl, hw⟩; subst w'; rw [decide_eq_true hs])
    | (go_at_call 11; refine (zzIsLEI_any _ _ hmx).mono ?_; rintro e w' ⟨rfl, hw⟩; subst w'; rw [HL.out]))
  go_quiet ((go_at_call 10; exact Calls.quiet_of_same (kind_any _ _)))
  obtain ⟨i0, hi, hz0, hz1, hz2⟩ := info_parts Try.info5
  go_wp2_with (at_make; refine wpList_make_full _ rfl (.tmp 49) (.tmp 49) 24 rfl w.heap.size 5 i0 (.int .u8 0) 1 Try.underlying24 hi hz0 hz1 .i64 .i64 _ _ s.size rfl rfl rfl rfl (by rw [hz2]; omega) hmx (Nat.le_refl _) ?_; intro w1 hown hgrow)
  have hrow := made_row hown
  have hbel : Below w.heap.size w w1 := (below_drewN (Below.refl _ w) nq).grown hgrow (by simp) (by intro k h; cases h)
  clear hown hgrow hi hz0 hz1 hz2
  have hsl : s.data.toList.length = s.size := by simp
  have HSL : Hid (s.data.toList.length = s.size) := hsl
  clear hsl
  go_loopw [6] (fun i wr => ∃ k : Nat, k ≤ s.size ∧ i = .int .i64 k ∧ BRow wr w.heap.size w.heap.size (half s.data.toList k) ∧ Below w.heap.size w wr) (fun i _ => s.size - (intOf i).toNat)
  case atStart => exact ⟨0, Nat.zero_le _, rfl, hrow, hbel⟩
  case round =>
    clear hrow hbel
    obtain ⟨k, hk, rfl, hrow, hbel⟩ := hrel
    by_cases hlt : k < s.size
    · have hkl : k < s.data.toList.length := by rw [HSL.out]; exact hlt
      have hc := hrow.cell k (by rw [half_length _ _ (by omega)]; exact hkl)
      have hf := hrow.frozen k
      have hrow' : Hid (BRow (wr.setCell ⟨w.heap.size, k, none⟩ (.int .u8 (s[k].toNat : Int))) w.heap.size w.heap.size (half s.data.toList (k + 1))) := by
        rw [← half_set _ k hkl]; exact hrow.set k s[k]
      have hbel' : Hid (Below w.heap.size w (wr.setCell ⟨w.heap.size, k, none⟩ (.int .u8 (s[k].toNat : Int)))) := hbel.setCell (Nat.le_refl _) _
      clear hrow hbel
      go_wp2
      go_roundw
      case rel => exact ⟨k + 1, by omega, by go_num, hrow'.out, hbel'.out⟩
      case measure => simp [intOf]; omega
    · have hk' : s.data.toList.length ≤ k := by rw [HSL.out]; omega
      rw [half_all _ _ hk'] at hrow
      have hnl : n + 1 < s.data.toList.length := by rw [HSL.out]; exact hn
      have hc := hrow.cell n (by omega)
      have hf := hrow.frozen n
      have hc1 := hrow.cell (n + 1) hnl
      have hf1 := hrow.frozen (n + 1)
      have hrow' := (hrow.set n s[n + 1]).set (n + 1) s[n]
      have hconv := hrow'.convert s.size (by rw [List.length_set, List.length_set]; exact HSL.out)
      have hbel' : Hid (Below w.heap.size w ((wr.setCell ⟨w.heap.size, n, none⟩ (.int .u8 (s[n + 1].toNat : Int))).setCell ⟨w.heap.size, n + 1, none⟩ (.int .u8 (s[n].toNat : Int)))) :=
        (hbel.setCell (Nat.le_refl _) _).setCell (Nat.le_refl _) _
      have hz : (⟨((s.data.toList.set n s[n + 1]).set (n + 1) s[n]).toArray⟩ : ByteArray).size ≤ maxLen := by
        have e : (⟨((s.data.toList.set n s[n + 1]).set (n + 1) s[n]).toArray⟩ : ByteArray).size = s.data.toList.length := by
          show ((s.data.toList.set n s[n + 1]).set (n + 1) s[n]).toArray.size = _
          rw [List.size_toArray, List.length_set, List.length_set]
        rw [e, HSL.out]; exact hmx
      have HF : Hid (lei (⟨((s.data.toList.set n s[n + 1]).set (n + 1) s[n]).toArray⟩ : ByteArray).data.toList = false) := by
        refine swap_refused s.data.toList n hnl HL.out HC.out ?_
        exact beq_eq_false_iff_ne.1 hne
      clear hrow hbel hrow'
      go_wp2_with (go_at_call 11; refine (zzIsLEI_any _ _ hz).mono ?_; rintro e w' ⟨rfl, hw⟩; subst w'; rw [HF.out])
      go_ret
      exact ⟨rfl, hbel'.out⟩

set_option maxHeartbeats 1000000 in
theorem swap_walk (s : ByteArray) (i : Int) (hmx : s.size ≤ maxLen) (hi : (Lit.int .i64 i).wf = true) (w : World) :
    Calls Try.prog 5 #[.string s, .int .i64 i] w fun e w' => e = .returned (.bool true) ∧ Below w.heap.size w w' := by
  by_cases hs : (s.size : Int) ≤ 1048576
  · have h1 : decide ((1048576 : Int) < (s.size : Int)) = false := decide_eq_false (by omega)
    by_cases h0 : i < 0
    · go_enter Try.func5, Try.ntmps5
      go_wp2_with (go_at_call 13; refine (bytes13_any _ _ _).mono ?_; rintro e w' ⟨rfl, hw⟩; subst w'; rw [decide_eq_true hs])
      go_ret
      exact ⟨rfl, Below.refl _ _⟩
    · obtain ⟨n, rfl⟩ := Int.eq_ofNat_of_zero_le (show 0 ≤ i by omega)
      have h2 : decide ((n : Int) < 0) = false := decide_eq_false (by omega)
      by_cases hn : (s.size : Int) - 1 ≤ (n : Int)
      · go_enter Try.func5, Try.ntmps5
        go_wp2_with (go_at_call 13; refine (bytes13_any _ _ _).mono ?_; rintro e w' ⟨rfl, hw⟩; subst w'; rw [decide_eq_true hs])
        go_ret
        exact ⟨rfl, Below.refl _ _⟩
      · have hni : (n : Int) < (s.size : Int) := by omega
        have hni1 : (n : Int) + 1 < (s.size : Int) := by omega
        have hnn : (0 : Int) ≤ (n : Int) + 1 := by omega
        have hn' : n + 1 < s.size := by omega
        have h3 : decide ((s.size : Int) - 1 ≤ (n : Int)) = false := decide_eq_false (by omega)
        clear h0 hn
        cases hl : lei s.data.toList with
        | false =>
          have HL : Hid (lei s.data.toList = false) := hl
          clear hl
          go_enter Try.func5, Try.ntmps5
          go_wp2_with (first
            | (go_at_call 13; refine (bytes13_any _ _ _).mono ?_; rintro e w' ⟨rfl, hw⟩; subst w'; rw [decide_eq_true hs])
            | (go_at_call 11; refine (zzIsLEI_any _ _ hmx).mono ?_; rintro e w' ⟨rfl, hw⟩; subst w'; rw [HL.out]))
          go_ret
          exact ⟨rfl, Below.refl _ _⟩
        | true =>
          by_cases hne : (s[n].toNat : Int) = (s[n + 1].toNat : Int)
          · have hne' : ((s[n].toNat : Int) == (s[n + 1].toNat : Int)) = true := beq_iff_eq.2 hne
            have HL : Hid (lei s.data.toList = true) := hl
            clear hl hne
            go_enter Try.func5, Try.ntmps5
            go_wp2_with (first
              | (go_at_call 13; refine (bytes13_any _ _ _).mono ?_; rintro e w' ⟨rfl, hw⟩; subst w'; rw [decide_eq_true hs])
              | (go_at_call 11; refine (zzIsLEI_any _ _ hmx).mono ?_; rintro e w' ⟨rfl, hw⟩; subst w'; rw [HL.out]))
            go_quiet (fail)
            go_wp2
            go_ret
            exact ⟨rfl, below_drewN (Below.refl _ _) _⟩
          · have hne' : ((s[n].toNat : Int) == (s[n + 1].toNat : Int)) = false := beq_eq_false_iff_ne.2 hne
            by_cases hcl : cls (s[n].toNat : Int) = cls (s[n + 1].toNat : Int)
            · exact swap_main s n w hs hn' hl hne' hcl
            · have hcl' : (cls (s[n].toNat : Int) != cls (s[n + 1].toNat : Int)) = true := by simp [hcl]
              have HL : Hid (lei s.data.toList = true) := hl
              clear hl hne hcl
              go_enter Try.func5, Try.ntmps5
              go_wp2_with (first
                | (go_at_call 13; refine (bytes13_any _ _ _).mono ?_; rintro e w' ⟨rfl, hw⟩; subst w'; rw [decide_eq_true hs])
                | (go_at_call 11; refine (zzIsLEI_any _ _ hmx).mono ?_; rintro e w' ⟨rfl, hw⟩; subst w'; rw [HL.out]))
              go_quiet ((go_at_call 10; exact Calls.quiet_of_same (kind_any _ _)))
              go_wp2
              go_ret
              exact ⟨rfl, below_drewN (Below.refl _ _) _⟩
  · go_enter Try.func5, Try.ntmps5
    go_wp2_with (go_at_call 13; refine (bytes13_any _ _ _).mono ?_; rintro e w' ⟨rfl, hw⟩; subst w'; rw [decide_eq_false hs])
    go_ret
    exact ⟨rfl, Below.refl _ _⟩
end Go.Proofs.Qxb6000940a
