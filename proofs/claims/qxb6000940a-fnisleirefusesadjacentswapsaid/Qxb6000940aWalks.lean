import Derived.Test.Qxb6000940aRows
import Derived.Test.Qxb6000940aPlain
import Derived.WalkKit
import Derived.WalkLawsBesides
namespace Go.Proofs.Qxb6000940a
open Go.RowKit
open Go.Proofs.Qxb6000940a.Plain

theorem ret_bool {a b : Bool} (h : a = b) : Ending.returned (.bool a) = .returned (.bool b) := by rw [h]

theorem lei_len (l : List UInt8) (h : l.length ≠ 20) : lei l = false := by
  unfold lei
  rw [beq_eq_false_iff_ne.2 h]
  rfl

theorem lei_end (l : List UInt8) (h : l.length = 20) (hg : good l = true) : lei l = (rest l 0 == 1) := by
  unfold lei
  rw [beq_iff_eq.2 h, hg]
  simp

set_option maxHeartbeats 1000000 in
theorem isLEI_any (s : ByteArray) (w : World) (hs : s.size ≤ maxLen) :
    Calls Try.prog 19 #[.string s] w fun e w' => e = .returned (.bool (lei s.data.toList)) ∧ w' = w := by
  unfold maxLen at hs
  by_cases h20 : (s.size : Int) = 20
  · have H20 : Hid ((s.size : Int) = 20) := h20
    have hne : ((s.size : Int) != 20) = false := by simp [h20]
    have hlen : s.data.toList.length = 20 := by simp; exact Int.ofNat.inj h20
    have HL : Hid (s.data.toList.length = 20) := hlen
    clear h20 hlen
    go_enter Try.func19, Try.ntmps19
    go_wp2
    go_loop [3, 4] (fun n i => ∃ k : Nat, k ≤ s.size ∧ i = .int .i64 k ∧ n = .int .i64 (rest (s.data.toList.take k) 0) ∧ good (s.data.toList.take k) = true) (fun _ i => s.size - (intOf i).toNat)
    case atStart => exact ⟨0, Nat.zero_le _, rfl, rfl, rfl⟩
    case round =>
      obtain ⟨k, hk, rfl, rfl, hg⟩ := hrel
      have HG : Hid (good (s.data.toList.take k) = true) := hg
      clear hg
      obtain ⟨hb1, hb2⟩ := rest_bd (s.data.toList.take k) 0 (by omega) (by omega)
      generalize hr : rest (s.data.toList.take k) 0 = r at *
      have HR : Hid (rest (s.data.toList.take k) 0 = r) := hr
      clear hr
      by_cases hlt : k < s.size
      · have hkl : k < s.data.toList.length := by simpa using hlt
        have e0 : s.data.toList[k]'hkl = s[k] := rfl
        have HS : Hid (rest (s.data.toList.take (k + 1)) 0 = Plain.step r (s[k].toNat : Int)) := by rw [← HR.out, ← e0]; exact rest_take_succ _ k hkl
        have HT : Hid (cls (s[k].toNat : Int) ≠ 2 → good (s.data.toList.take (k + 1)) = true) := by intro h; rw [good_take_succ _ k hkl, HG.out, e0]; simp [h]
        have HF : Hid (cls (s[k].toNat : Int) = 2 → lei s.data.toList = false) := fun h => good_of_take hkl (by rw [e0]; exact h)
        clear e0
        go_wp2
        · go_round
          case rel => exact ⟨k + 1, by omega, by go_num, by rw [HS.out]; unfold Plain.step; rw [if_pos ⟨‹_›, ‹_›⟩], HT.out (by unfold cls; rw [if_pos ⟨‹_›, ‹_›⟩]; omega)⟩
          case measure => simp [intOf]; omega
        · go_round
          case rel => exact ⟨k + 1, by omega, by go_num, by rw [HS.out]; unfold Plain.step; rw [if_neg (by omega)], HT.out (by unfold cls; rw [if_neg (by omega), if_pos ⟨‹_›, ‹_›⟩]; omega)⟩
          case measure => simp [intOf]; omega
        all_goals
          go_ret
          exact ⟨ret_bool (HF.out (by unfold cls; rw [if_neg (by omega), if_neg (by omega)])).symm, rfl⟩
      · go_wp2
        go_ret
        have e1 : s.data.toList.take k = s.data.toList := List.take_of_length_le (by simp; omega)
        refine ⟨ret_bool ?_, rfl⟩
        rw [lei_end _ HL.out (by rw [← e1]; exact HG.out), ← HR.out, e1]
  · have hne : ((s.size : Int) != 20) = true := by simp [h20]
    go_enter Try.func19, Try.ntmps19
    go_wp2
    go_ret
    exact ⟨ret_bool (lei_len _ (by simp; omega)).symm, rfl⟩

theorem zzIsLEI_any (s : ByteArray) (w : World) (hs : s.size ≤ maxLen) :
    Calls Try.prog 11 #[.string s] w fun e w' => e = .returned (.bool (lei s.data.toList)) ∧ w' = w := by
  go_enter Try.func11, Try.ntmps11
  go_wp2_with (go_at_call 19; refine (isLEI_any _ _ hs).mono ?_; rintro e w' ⟨rfl, rfl⟩)
  go_ret
  exact ⟨rfl, rfl⟩

theorem kind_any (c : Int) (w : World) :
    Calls Try.prog 10 #[.int .u8 c] w fun e w' => e = .returned (.int .i64 (cls c)) ∧ w' = w := by
  unfold cls
  by_cases h1 : 48 ≤ c
  · by_cases h2 : c ≤ 57
    · rw [if_pos ⟨h1, h2⟩]
      go_enter Try.func10, Try.ntmps10
      go_wp2
      go_ret
      exact ⟨rfl, rfl⟩
    · rw [if_neg (by omega)]
      by_cases h3 : 65 ≤ c
      · by_cases h4 : c ≤ 90
        · rw [if_pos ⟨h3, h4⟩]
          go_enter Try.func10, Try.ntmps10
          go_wp2
          go_ret
          exact ⟨rfl, rfl⟩
        · rw [if_neg (by omega)]
          go_enter Try.func10, Try.ntmps10
          go_wp2
          go_ret
          exact ⟨rfl, rfl⟩
      · rw [if_neg (by omega)]
        go_enter Try.func10, Try.ntmps10
        go_wp2
        go_ret
        exact ⟨rfl, rfl⟩
  · rw [if_neg (by omega), if_neg (by omega)]
    go_enter Try.func10, Try.ntmps10
    go_wp2
    go_ret
    exact ⟨rfl, rfl⟩

theorem bytes12_any (s : ByteArray) (i c : Int) (w : World) :
    Calls Try.prog 12 #[.string s, .int .i64 i, .int .u8 c] w fun e w' => e = .returned (.bool (decide ((s.size : Int) ≤ 1048576))) ∧ w' = w := by
  by_cases h : (s.size : Int) ≤ 1048576
  · have h' : ¬ (1048576 : Int) < (s.size : Int) := by omega
    rw [decide_eq_true h]
    go_enter Try.func12, Try.ntmps12
    go_wp2
    go_ret
    exact ⟨rfl, rfl⟩
  · have h' : (1048576 : Int) < (s.size : Int) := by omega
    rw [decide_eq_false h]
    go_enter Try.func12, Try.ntmps12
    go_wp2
    go_ret
    exact ⟨rfl, rfl⟩

theorem bytes13_any (s : ByteArray) (i : Int) (w : World) :
    Calls Try.prog 13 #[.string s, .int .i64 i] w fun e w' => e = .returned (.bool (decide ((s.size : Int) ≤ 1048576))) ∧ w' = w := by
  by_cases h : (s.size : Int) ≤ 1048576
  · have h' : ¬ (1048576 : Int) < (s.size : Int) := by omega
    rw [decide_eq_true h]
    go_enter Try.func13, Try.ntmps13
    go_wp2
    go_ret
    exact ⟨rfl, rfl⟩
  · have h' : (1048576 : Int) < (s.size : Int) := by omega
    rw [decide_eq_false h]
    go_enter Try.func13, Try.ntmps13
    go_wp2
    go_ret
    exact ⟨rfl, rfl⟩
end Go.Proofs.Qxb6000940a
