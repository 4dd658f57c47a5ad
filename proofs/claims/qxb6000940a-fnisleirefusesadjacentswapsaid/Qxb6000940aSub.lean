import Derived.Test.Qxb6000940aWalks
import Derived.Deep.QuietTactic
import Derived.BigQuiet
import Derived.Laws.IdiomStrings
import Derived.OpenShut
namespace Go.Proofs.Qxb6000940a
open Go.RowKit
open Go.Proofs.Qxb6000940a.Plain

theorem Try.info5 : (Try.prog.info? 5).map (fun i => (i.zero, i.size, i.bytes)) = some (some (.int .u8 0), 1, 1) := by kernel_rfl

/-- The row of bytes l at block g: the call's own. -/
def BRow (w : World) (base g : Nat) (l : List UInt8) : Prop :=
  w.ownsRow base 5 1 (.slice (some ⟨g, 0, none⟩) l.length l.length) l.length (l.map fun b => Value.int .u8 (b.toNat : Int))

theorem BRow.set {w : World} {base g : Nat} {l : List UInt8} (h : BRow w base g l) (j : Nat) (c : UInt8) :
    BRow (w.setCell ⟨g, j, none⟩ (.int .u8 (c.toNat : Int))) base g (l.set j c) := by
  have := (h.stored j (.int .u8 (c.toNat : Int))).1
  unfold BRow
  rw [List.map_set, List.length_set]
  exact this

theorem BRow.cell {w : World} {base g : Nat} {l : List UInt8} (h : BRow w base g l) (j : Nat) (hj : j < l.length) : w.cell? ⟨g, j, none⟩ = some (.int .u8 (l[j].toNat : Int)) := by
  rw [World.ownsRow.cellAt h j (by omega)]
  simp [hj]

theorem BRow.frozen {w : World} {base g : Nat} {l : List UInt8} (h : BRow w base g l) (j : Nat) : w.frozen? ⟨g, j, none⟩ = false := World.ownsRow.frozenAt h j

theorem BRow.convert {w : World} {base g : Nat} {l : List UInt8} (h : BRow w base g l) (n : Nat) (hn : l.length = n) :
    (Go.convert 24 9 (.slice (some ⟨g, 0, none⟩) n n)).run Try.prog w = .ok (.string ⟨l.toArray⟩) w := by
  subst hn
  refine run_convert_bytes_back w 24 9 5 ⟨g, 0, none⟩ l.length l Try.underlying24 Try.underlying5 Try.underlying9 fun j hj => ?_
  have := h.cell j hj
  by_cases h0 : j = 0
  · subst h0; simpa [Addr.add] using this
  · simpa [Addr.add, h0] using this

/-- The first k bytes copied, the rest zero. -/
def half (l : List UInt8) (k : Nat) : List UInt8 := l.take k ++ List.replicate (l.length - k) 0

theorem half_length (l : List UInt8) (k : Nat) (h : k ≤ l.length) : (half l k).length = l.length := by simp [half]; omega

theorem half_set (l : List UInt8) (k : Nat) (h : k < l.length) : (half l k).set k l[k] = half l (k + 1) := by
  unfold half
  rw [List.set_append_right _ _ (by simp; omega)]
  have e1 : (l.take k).length = k := by simp; omega
  rw [e1, Nat.sub_self, List.take_succ_eq_append_getElem h]
  have e2 : l.length - k = (l.length - (k + 1)) + 1 := by omega
  rw [e2, List.replicate_succ, List.set_cons_zero, List.append_assoc]
  rfl

theorem half_all (l : List UInt8) (k : Nat) (h : l.length ≤ k) : half l k = l := by
  unfold half
  rw [List.take_of_length_le h, show l.length - k = 0 from by omega]
  simp

theorem byte_of_wf {c : Int} (h : (Lit.int .u8 c).wf = true) : ∃ b : UInt8, c = (b.toNat : Int) := by
  have hb := bounds_u8 h
  refine ⟨UInt8.ofNat c.toNat, ?_⟩
  have : (UInt8.ofNat c.toNat).toNat = c.toNat := by simp; omega
  rw [this]
  omega

theorem half_zero (l : List UInt8) : half l 0 = List.replicate l.length 0 := by simp [half]

/-- What 'make' leaves is the row before the first round. -/
theorem made_row {w : World} {B : Nat} {s : ByteArray} (h : w.ownsRow B 5 1 (.slice (some ⟨B, 0, none⟩) s.size s.size) s.size (madeCells (Value.int .u8 0).cells (s.size * 1)).toList) :
    BRow w B B (half s.data.toList 0) := by
  have e : s.data.toList.length = s.size := by simp
  unfold BRow
  rw [half_length _ _ (Nat.zero_le _), e, half_zero, e, List.map_replicate]
  rw [Nat.mul_one] at h
  have e2 : (madeCells (Value.int .u8 0).cells s.size).toList = List.replicate s.size (.int .u8 0) := toList_madeCells_one _ _
  rw [e2] at h
  exact h

set_option maxHeartbeats 1000000 in
theorem sub_main (s : ByteArray) (n : Nat) (c : UInt8) (w : World) (hs : (s.size : Int) ≤ 1048576) (hn : n < s.size) (hl : lei s.data.toList = true)
    (hne : ((c.toNat : Int) == (s[n].toNat : Int)) = false) (hcl : cls (c.toNat : Int) = cls (s[n].toNat : Int)) :
    Calls Try.prog 4 #[.string s, .int .i64 n, .int .u8 c.toNat] w fun e w' => e = .returned (.bool true) ∧ Below w.heap.size w w' := by
  have HC : Hid (cls (c.toNat : Int) = cls (s[n].toNat : Int)) := hcl
  have hcl' : (cls (c.toNat : Int) != cls (s[n].toNat : Int)) = false := by simp [hcl]
  clear hcl
  have HL : Hid (lei s.data.toList = true) := hl
  clear hl
  have hmx : s.size ≤ maxLen := by unfold maxLen; omega
  have h1 : decide ((1048576 : Int) < (s.size : Int)) = false := decide_eq_false (by omega)
  have h2 : decide ((n : Int) < 0) = false := decide_eq_false (by omega)
  have hni : (n : Int) < (s.size : Int) := by omega
  go_enter Try.func4, Try.ntmps4
  go_wp2_with (first
    | (go_at_call 12; refine (bytes12_any _ _ _ _).mono ?_; rintro e w' ⟨rfl, hw⟩; subst w'; rw [decide_eq_true hs])
    | (go_at_call 11; refine (zzIsLEI_any _ _ hmx).mono ?_; rintro e w' ⟨rfl, hw⟩; subst w'; rw [HL.out]))
  go_quiet ((go_at_call 10; exact Calls.quiet_of_same (kind_any _ _)))
  obtain ⟨i0, hi, hz0, hz1, hz2⟩ := info_parts Try.info5
  go_wp2_with (at_make; refine wpList_make_full _ rfl (.tmp 43) (.tmp 43) 24 rfl w.heap.size 5 i0 (.int .u8 0) 1 Try.underlying24 hi hz0 hz1 .i64 .i64 _ _ s.size rfl rfl rfl rfl (by rw [hz2]; omega) hmx (Nat.le_refl _) ?_; intro w1 hown hgrow)
  have hrow := made_row hown
  have hbel : Below w.heap.size w w1 := (below_drewN (Below.refl _ w) nq).grown hgrow (by simp) (by intro k h; cases h)
  clear hown hgrow hi hz0 hz1 hz2
  have hsl : s.data.toList.length = s.size := by simp
  have HSL : Hid (s.data.toList.length = s.size) := hsl
  clear hsl
  go_loopw [8] (fun i wr => ∃ k : Nat, k ≤ s.size ∧ i = .int .i64 k ∧ BRow wr w.heap.size w.heap.size (half s.data.toList k) ∧ Below w.heap.size w wr) (fun i _ => s.size - (intOf i).toNat)
  case atStart => exact ⟨0, Nat.zero_le _, rfl, hrow, hbel⟩
  case round =>
    clear hrow hbel
    obtain ⟨k, hk, rfl, hrow, hbel⟩ := hrel
    by_cases hlt : k < s.size
    · have hkl : k < s.data.toList.length := by rw [HSL.out]; exact hlt
      have hc := hrow.cell k (by rw [half_length _ _ (by omega)]; exact hkl)
      have hf := hrow.frozen k
      have hrow' : Hid (BRow (wr.setCell ⟨w.heap.size, k, none⟩ (.int .u8 (s[k].toNat : Int))) w.heap.size w.heap.size (half s.data.toList (k + 1))) := by
        rw [← half_set _ k hkl]; exact hrow.set k s[k]
      have hbel' : Hid (Below w.heap.size w (wr.setCell ⟨w.heap.size, k, none⟩ (.int .u8 (s[k].toNat : Int)))) := hbel.setCell (Nat.le_refl _) _
      clear hrow hbel
      go_wp2
      go_roundw
      case rel => exact ⟨k + 1, by omega, by go_num, hrow'.out, hbel'.out⟩
      case measure => simp [intOf]; omega
    · have hk' : s.data.toList.length ≤ k := by rw [HSL.out]; omega
      rw [half_all _ _ hk'] at hrow
      have hnl : n < s.data.toList.length := by rw [HSL.out]; exact hn
      have hc := hrow.cell n hnl
      have hf := hrow.frozen n
      have hrow' := hrow.set n c
      have hconv := hrow'.convert s.size (by rw [List.length_set]; exact HSL.out)
      have hbel' : Hid (Below w.heap.size w (wr.setCell ⟨w.heap.size, n, none⟩ (.int .u8 (c.toNat : Int)))) := hbel.setCell (Nat.le_refl _) _
      have hz : (⟨(s.data.toList.set n c).toArray⟩ : ByteArray).size ≤ maxLen := by
        have e : (⟨(s.data.toList.set n c).toArray⟩ : ByteArray).size = s.data.toList.length := by
          show (s.data.toList.set n c).toArray.size = _
          rw [List.size_toArray, List.length_set]
        rw [e, HSL.out]; exact hmx
      have HF : Hid (lei (⟨(s.data.toList.set n c).toArray⟩ : ByteArray).data.toList = false) := by
        refine sub_refused s.data.toList n hnl c HL.out HC.out ?_
        exact beq_eq_false_iff_ne.1 hne
      clear hrow hbel hrow'
      go_wp2_with (go_at_call 11; refine (zzIsLEI_any _ _ hz).mono ?_; rintro e w' ⟨rfl, hw⟩; subst w'; rw [HF.out])
      go_ret
      exact ⟨rfl, hbel'.out⟩

set_option maxHeartbeats 1000000 in
theorem sub_walk (s : ByteArray) (i c : Int) (hmx : s.size ≤ maxLen) (hc : (Lit.int .u8 c).wf = true) (w : World) :
    Calls Try.prog 4 #[.string s, .int .i64 i, .int .u8 c] w fun e w' => e = .returned (.bool true) ∧ Below w.heap.size w w' := by
  obtain ⟨c, rfl⟩ : ∃ b : UInt8, c = (b.toNat : Int) := byte_of_wf hc
  clear hc
  by_cases hs : (s.size : Int) ≤ 1048576
  · have h1 : decide ((1048576 : Int) < (s.size : Int)) = false := decide_eq_false (by omega)
    by_cases h0 : i < 0
    · go_enter Try.func4, Try.ntmps4
      go_wp2_with (go_at_call 12; refine (bytes12_any _ _ _ _).mono ?_; rintro e w' ⟨rfl, hw⟩; subst w'; rw [decide_eq_true hs])
      go_ret
      exact ⟨rfl, Below.refl _ _⟩
    · obtain ⟨n, rfl⟩ := Int.eq_ofNat_of_zero_le (show 0 ≤ i by omega)
      by_cases hn : (s.size : Int) ≤ (n : Int)
      · go_enter Try.func4, Try.ntmps4
        go_wp2_with (go_at_call 12; refine (bytes12_any _ _ _ _).mono ?_; rintro e w' ⟨rfl, hw⟩; subst w'; rw [decide_eq_true hs])
        go_ret
        exact ⟨rfl, Below.refl _ _⟩
      · have hni : (n : Int) < (s.size : Int) := by omega
        have hn' : n < s.size := by omega
        have h2 : decide ((n : Int) < 0) = false := decide_eq_false (by omega)
        clear h0 hn
        cases hl : lei s.data.toList with
        | false =>
          have HL : Hid (lei s.data.toList = false) := hl
          clear hl
          go_enter Try.func4, Try.ntmps4
          go_wp2_with (first
            | (go_at_call 12; refine (bytes12_any _ _ _ _).mono ?_; rintro e w' ⟨rfl, hw⟩; subst w'; rw [decide_eq_true hs])
            | (go_at_call 11; refine (zzIsLEI_any _ _ hmx).mono ?_; rintro e w' ⟨rfl, hw⟩; subst w'; rw [HL.out]))
          go_ret
          exact ⟨rfl, Below.refl _ _⟩
        | true =>
          by_cases hne : (c.toNat : Int) = (s[n].toNat : Int)
          · have hne' : ((c.toNat : Int) == (s[n].toNat : Int)) = true := beq_iff_eq.2 hne
            have HL : Hid (lei s.data.toList = true) := hl
            clear hl hne
            go_enter Try.func4, Try.ntmps4
            go_wp2_with (first
              | (go_at_call 12; refine (bytes12_any _ _ _ _).mono ?_; rintro e w' ⟨rfl, hw⟩; subst w'; rw [decide_eq_true hs])
              | (go_at_call 11; refine (zzIsLEI_any _ _ hmx).mono ?_; rintro e w' ⟨rfl, hw⟩; subst w'; rw [HL.out]))
            go_quiet (fail)
            go_wp2
            go_ret
            exact ⟨rfl, below_drewN (Below.refl _ _) _⟩
          · have hne' : ((c.toNat : Int) == (s[n].toNat : Int)) = false := beq_eq_false_iff_ne.2 hne
            by_cases hcl : cls (c.toNat : Int) = cls (s[n].toNat : Int)
            · exact sub_main s n c w hs hn' hl hne' hcl
            · have hcl' : (cls (c.toNat : Int) != cls (s[n].toNat : Int)) = true := by simp [hcl]
              have HL : Hid (lei s.data.toList = true) := hl
              clear hl hne hcl
              go_enter Try.func4, Try.ntmps4
              go_wp2_with (first
                | (go_at_call 12; refine (bytes12_any _ _ _ _).mono ?_; rintro e w' ⟨rfl, hw⟩; subst w'; rw [decide_eq_true hs])
                | (go_at_call 11; refine (zzIsLEI_any _ _ hmx).mono ?_; rintro e w' ⟨rfl, hw⟩; subst w'; rw [HL.out]))
              go_quiet ((go_at_call 10; exact Calls.quiet_of_same (kind_any _ _)))
              go_wp2
              go_ret
              exact ⟨rfl, below_drewN (Below.refl _ _) _⟩
  · go_enter Try.func4, Try.ntmps4
    go_wp2_with (go_at_call 12; refine (bytes12_any _ _ _ _).mono ?_; rintro e w' ⟨rfl, hw⟩; subst w'; rw [decide_eq_false hs])
    go_ret
    exact ⟨rfl, Below.refl _ _⟩
end Go.Proofs.Qxb6000940a
