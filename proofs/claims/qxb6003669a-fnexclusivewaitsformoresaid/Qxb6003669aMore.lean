import Derived.Test.Qxb6003669aWaits
namespace Go.Proofs.Qxb6003669a
open Go.RowKit Go.Maps
open Go.Proofs.Qxb6003669a.Plain

/-- 'contains', where it is so. -/
theorem contains_any (a : Option Addr) (n ca : Nat) (l : List Tx) (x : Tx) (w : World) (ha : SV encStr w a n ca l) (hx : x ∈ l) :
    Calls Try.prog 17 #[.slice a n ca, encStr x] w fun e w' => e = .returned (.bool true) ∧ w' = w := by
  have hmx := ha.max
  have hle := ha.le
  unfold maxLen at hmx
  have HA : Hid (SV encStr w a n ca l) := ha
  have HM : Hid (x ∈ l) := hx
  clear ha hx
  go_enter Try.func17, Try.ntmps17
  go_wp2
  go_loop [5] (fun i => ∃ k : Nat, k ≤ n ∧ i = .int .i64 k ∧ Hid (x ∉ l.take k)) (fun i => n - (intOf i).toNat)
  case atStart => exact ⟨0, by omega, rfl, by simp [Hid]⟩
  case round =>
    obtain ⟨k, hk, rfl, HK⟩ := hrel
    by_cases hlt : k < n
    · obtain ⟨b1, o1, c, ea, hca, HC1⟩ := HA.out.at k hlt
      have hlt' : (k : Int) < (n : Int) := by omega
      have HT : Hid (l.take (k + 1) = l.take k ++ [c]) := by rw [← HC1.out]; exact take_succ_getD l k (by rw [HA.out.len]; exact hlt)
      subst ea
      by_cases hcx : c = x
      · have e1 : (c == x) = true := beq_iff_eq.2 hcx
        clear hcx HC1 HK HT
        go_wp2
        go_ret
        exact ⟨rfl, rfl⟩
      · have e1 : (c == x) = false := beq_eq_false_iff_ne.2 hcx
        have HK2 : Hid (x ∉ l.take (k + 1)) := by
          intro h
          rw [HT.out, List.mem_append, List.mem_singleton] at h
          rcases h with h | h
          · exact HK.out h
          · exact hcx h.symm
        clear hcx HC1 HK HT
        go_wp2
        go_round
        case rel => exact ⟨k + 1, by omega, by go_num, HK2⟩
        case measure => simp [intOf]; omega
    · exfalso
      have h1 := HK.out
      rw [List.take_of_length_le (by rw [HA.out.len]; omega)] at h1
      exact h1 HM.out

/-- 'subset', where it is so. -/
theorem subset_any (a b : Option Addr) (n m ca cb : Nat) (la lb : List Tx) (w : World) (ha : SV encStr w a n ca la) (hb : SV encStr w b m cb lb) (hs : ∀ x ∈ la, x ∈ lb) :
    Calls Try.prog 21 #[.slice a n ca, .slice b m cb] w fun e w' => e = .returned (.bool true) ∧ w' = w := by
  have hmx := ha.max
  have hle := ha.le
  unfold maxLen at hmx
  have HA : Hid (SV encStr w a n ca la) := ha
  have HB : Hid (SV encStr w b m cb lb) := hb
  have HS : Hid (∀ x ∈ la, x ∈ lb) := hs
  clear ha hb hs
  go_enter Try.func21, Try.ntmps21
  go_wp2
  go_loop [5] (fun i => ∃ k : Nat, k ≤ n ∧ i = .int .i64 k) (fun i => n - (intOf i).toNat)
  case atStart => exact ⟨0, by omega, rfl⟩
  case round =>
    obtain ⟨k, hk, rfl⟩ := hrel
    by_cases hlt : k < n
    · obtain ⟨b1, o1, c, ea, hca, HC1⟩ := HA.out.at k hlt
      have hlt' : (k : Int) < (n : Int) := by omega
      have HM : Hid (c ∈ lb) := HS.out c (by rw [← HC1.out, List.getD_eq_getElem?_getD, List.getElem?_eq_getElem (by rw [HA.out.len]; exact hlt)]; exact List.getElem_mem _)
      subst ea
      clear HC1
      go_wp2_with (go_at_call 17; refine (contains_any _ _ _ _ _ _ HB.out HM.out).mono ?_; rintro e w' ⟨rfl, hw⟩; subst w')
      go_round
      case rel => exact ⟨k + 1, by omega, by go_num⟩
      case measure => simp [intOf]; omega
    · go_wp2
      go_ret
      exact ⟨rfl, rfl⟩

/-! ### The plain law: asked exclusive it waits for more -/
/-- The same queue up to place i; there the same id, once shared, once exclusive. -/
structure Twin (qS qX : List (Tx × Bool)) (i : Nat) : Prop where
  ahead : ∀ j, j < i → qS.getD j default = qX.getD j default
  id : (qS.getD i default).1 = (qX.getD i default).1
  sh : (qS.getD i default).2 = true
  ex : (qX.getD i default).2 = false

theorem compat_zero (x : Int) : compat x 0 = false := by simp [compat]

theorem hc_more {D : DataW Unit} {t : Tx} {m : Int} {x : Tx} (h : HC D t m x) : HC D t 0 x := ⟨h.1, h.2.1, compat_zero _⟩

theorem blocks_more {D : DataW Unit} {qS qX : List (Tx × Bool)} {i : Nat} (h : Twin qS qX i) {x : Tx} (hx : Blocks D qS i x) : Blocks D qX i x := by
  have e0 : modeOf (qX.getD i default).2 = 0 := by rw [h.ex]; rfl
  rcases hx with hx | ⟨j, hj, h1, _⟩
  · left
    rw [e0, ← h.id]
    exact hc_more hx
  · right
    refine ⟨j, hj, by rw [← h.ahead j hj]; exact h1, ?_⟩
    rw [e0]
    exact compat_zero _

theorem nearest_twin {qS qX : List (Tx × Bool)} {i : Nat} (h : Twin qS qX i) : ∀ k, k ≤ i → nearest qS k = nearest qX k
  | 0, _ => rfl
  | k + 1, hk => by
    unfold nearest
    rw [h.ahead k (by omega), nearest_twin h k (by omega)]

theorem leads_more {D : DataW Unit} {qS qX : List (Tx × Bool)} {i : Nat} (h : Twin qS qX i) {x : Tx} (hx : Leads D qS i (nearest qS i) x) : Leads D qX i (nearest qX i) x := by
  have e0 : modeOf (qX.getD i default).2 = 0 := by rw [h.ex]; rfl
  have e1 : modeOf (qS.getD i default).2 = 1 := by rw [h.sh]; rfl
  have hn := nearest_le qX i
  rw [nearest_twin h i (Nat.le_refl _)] at hx
  rcases hx with ⟨h1, _⟩ | hx
  · rw [e1] at h1; omega
  · right
    by_cases hz : nearest qX i = 0
    · rw [if_pos hz] at hx ⊢
      rw [e0, ← h.id]
      exact hc_more hx
    · rw [if_neg hz] at hx ⊢
      rw [← h.ahead (nearest qX i - 1) (by omega)]
      exact hx

theorem zip_getD (l2 : List Tx) (l3 : List Bool) (j : Nat) (h2 : j < l2.length) (h3 : j < l3.length) : (l2.zip l3).getD j default = (l2.getD j default, l3.getD j default) := by
  rw [List.getD_eq_getElem?_getD, List.getElem?_eq_getElem (by rw [List.length_zip]; omega), List.getD_eq_getElem?_getD, List.getElem?_eq_getElem h2, List.getD_eq_getElem?_getD, List.getElem?_eq_getElem h3]
  simp

theorem twin_of (l2 : List Tx) (l3 : List Bool) (m i : Nat) (h2 : l2.length = m) (h3 : l3.length = m) (hi : i < m) : Twin (l2.zip (l3.set i true)) (l2.zip (l3.set i false)) i := by
  have e : ∀ b j, j < m → (l2.zip (l3.set i b)).getD j default = (l2.getD j default, (l3.set i b).getD j default) := fun b j hj => zip_getD l2 _ j (by omega) (by rw [List.length_set]; omega)
  refine ⟨fun j hj => ?_, ?_, ?_, ?_⟩
  · rw [e true j (by omega), e false j (by omega), List.getD_eq_getElem?_getD (l := l3.set i true), List.getElem?_set_ne (by omega), List.getD_eq_getElem?_getD (l := l3.set i false), List.getElem?_set_ne (by omega)]
  · rw [e true i hi, e false i hi]
  · rw [e true i hi, List.getD_eq_getElem?_getD (l := l3.set i true), List.getElem?_set_self (by omega)]; rfl
  · rw [e false i hi, List.getD_eq_getElem?_getD (l := l3.set i false), List.getElem?_set_self (by omega)]; rfl

theorem bt2 {a b c : World} (h1 : Below a.heap.size a b) (h2 : Below b.heap.size b c) : Below a.heap.size a c := h1.trans (h2.mono h1.size)

/-- The two flags stored: sharedQ[i] = true, exclQ[i] = false. -/
structure Stored (w4 w6 : World) (B5 B6 m i : Nat) (l3 : List Bool) : Prop where
  old5 : ∃ b, w6.cell? ⟨B5, i, none⟩ = some (.bool b)
  free5 : w6.frozen? ⟨B5, i, none⟩ = false
  old6 : ∃ b, (w6.setCell ⟨B5, i, none⟩ (.bool true)).cell? ⟨B6, i, none⟩ = some (.bool b)
  free6 : (w6.setCell ⟨B5, i, none⟩ (.bool true)).frozen? ⟨B6, i, none⟩ = false
  bel : Below w4.heap.size w4 ((w6.setCell ⟨B5, i, none⟩ (.bool true)).setCell ⟨B6, i, none⟩ (.bool false))
  svS : SV Value.bool ((w6.setCell ⟨B5, i, none⟩ (.bool true)).setCell ⟨B6, i, none⟩ (.bool false)) (some ⟨B5, 0, none⟩) m m (l3.set i true)
  svX : SV Value.bool ((w6.setCell ⟨B5, i, none⟩ (.bool true)).setCell ⟨B6, i, none⟩ (.bool false)) (some ⟨B6, 0, none⟩) m m (l3.set i false)

theorem set_grown (w : World) (g i : Nat) (v : Value) : w.grownBy (w.setCell ⟨g, i, none⟩ v) (some g) :=
  ⟨rfl, rfl, rfl, by simp, fun k _ hk => heap_setCell_other w ⟨g, i, none⟩ k v (fun e => hk (by simp [e]))⟩

theorem stored_of {w4 w5 w6 : World} {m i : Nat} {l3 : List Bool} (X5 : Below w4.heap.size w4 w5) (X6 : Below w5.heap.size w5 w6)
    (R5 : Row Value.bool 4 w5 w4.heap.size w4.heap.size m l3) (R6 : Row Value.bool 4 w6 w5.heap.size w5.heap.size m l3) (hl : l3.length = m) (hi : i < m) (hm : m ≤ 65536) (hlt : w4.heap.size < w5.heap.size) :
    Stored w4 w6 w4.heap.size w5.heap.size m i l3 := by
  have hg6 : w5.grownBy w6 none := ⟨X6.os, X6.tape, X6.output, X6.size, fun k hk _ => X6.block k hk⟩
  have R5' : Row Value.bool 4 w6 w4.heap.size w4.heap.size m l3 := World.ownsRow.kept R5 hg6 (.inr (by simp [Value.ownBlock]))
  have S5 := R5'.set i true
  have hne : w5.heap.size ≠ w4.heap.size := by omega
  have R6' : Row Value.bool 4 (w6.setCell ⟨w4.heap.size, i, none⟩ (.bool true)) w5.heap.size w5.heap.size m l3 := World.ownsRow.kept R6 (set_grown w6 _ i _) (.inr (by simp [Value.ownBlock]; omega))
  have S6 := R6'.set i false
  have S5' : Row Value.bool 4 ((w6.setCell ⟨w4.heap.size, i, none⟩ (.bool true)).setCell ⟨w5.heap.size, i, none⟩ (.bool false)) w4.heap.size w4.heap.size m (l3.set i true) := World.ownsRow.kept S5 (set_grown _ _ i _) (.inr (by simp [Value.ownBlock]; omega))
  have hmx : m ≤ maxLen := by unfold maxLen; omega
  refine ⟨⟨_, R5'.cell i (by omega)⟩, R5'.frozen i, ⟨_, R6'.cell i (by omega)⟩, R6'.frozen i, ?_, ?_, ?_⟩
  · exact ((X5.trans (X6.mono (by omega))).setCell (Nat.le_refl _) _).setCell (by simp; omega) _
  · exact S5'.sv (by rw [List.length_set]; exact hl) (Nat.le_refl _) hmx
  · exact S6.sv (by rw [List.length_set]; exact hl) (Nat.le_refl _) hmx

set_option maxHeartbeats 4000000 in
set_option maxRecDepth 100000 in
theorem more_main (a0 a1 a2 a3 : Option Addr) (n m c0 c1 c2 c3 : Nat) (l0 l2 : List Tx) (l1 l3 : List Bool) (i : Nat) (w : World)
    (h0 : SV encStr w a0 n c0 l0) (h1 : SV Value.bool w a1 n c1 l1) (h2 : SV encStr w a2 m c2 l2) (h3 : SV Value.bool w a3 m c3 l3) (hi : i < m) (hb : ∀ x ∈ l0, x.length ≤ maxLen) :
    Calls Try.prog 5 #[.slice a0 n c0, .slice a1 n c1, .slice a2 m c2, .slice a3 m c3, .int .i64 i] w fun e w' => e = .returned (.bool true) ∧ Below w.heap.size w w' := by
  have A0 : Hid (SV encStr w a0 n c0 l0) := h0
  have A1 : Hid (SV Value.bool w a1 n c1 l1) := h1
  have A2 : Hid (SV encStr w a2 m c2 l2) := h2
  have A3 : Hid (SV Value.bool w a3 m c3 l3) := h3
  have HBd : Hid (∀ x ∈ l0, x.length ≤ maxLen) := hb
  have en : ((n : Int) != (n : Int)) = false := by simp
  have em : ((m : Int) != (m : Int)) = false := by simp
  have ei : decide ((i : Int) < 0) = false := decide_eq_false (by omega)
  have ei2 : decide ((m : Int) ≤ (i : Int)) = false := decide_eq_false (by omega)
  have him : (i : Int) < (m : Int) := by omega
  clear h0 h1 h2 h3 hb
  go_enter Try.func5, Try.ntmps5
  go_wp2_with fail
  refine (bytes22_any _ _ _ _ _ _ _ _ _ _ _ _ _ _ _ _ A0.out A2.out).mono ?_
  rintro e w' ⟨⟨r, rfl⟩, hw⟩
  subst w'
  cases r with
  | false =>
    go_wp2
    go_ret
    exact ⟨rfl, Below.refl _ _⟩
  | true =>
  go_wp2_with fail
  refine (tooBig_any _ _ _ _ _ _ _ _ _ _ _ _ _ _ _ A0.out A2.out).mono ?_
  rintro e w' ⟨⟨r, rfl, hsm⟩, hw⟩
  subst w'
  cases r with
  | true =>
    go_wp2
    go_ret
    exact ⟨rfl, Below.refl _ _⟩
  | false =>
  obtain ⟨hn, hm, _, _⟩ := hsm rfl
  clear hsm
  go_wp2_with fail
  refine (cloneS_any _ _ _ _ _ A0.out hn).mono ?_
  rintro e w1 ⟨b0, rfl, X1, V0, _⟩
  go_wp2_with fail
  refine (cloneB_any _ _ _ _ _ (A1.out.below X1.out) hn).mono ?_
  rintro e w2 ⟨b1, rfl, X2, V1, _⟩
  go_wp2_with fail
  refine (cloneS_any _ _ _ _ _ (A2.out.below (bt2 X1.out X2.out)) hm).mono ?_
  rintro e w3 ⟨b2, rfl, X3, V2, _⟩
  go_wp2_with fail
  refine (cloneB_any _ _ _ _ _ (A3.out.below (bt2 (bt2 X1.out X2.out) X3.out)) hm).mono ?_
  rintro e w4 ⟨b3, rfl, X4, V3, _⟩
  go_wp2_with fail
  refine (cloneB_any _ _ _ _ _ V3.out hm).mono ?_
  rintro e w5 ⟨b4, rfl, X5, V4, Q4⟩
  go_wp2_with fail
  refine (cloneB_any _ _ _ _ _ (V3.out.below X5.out) hm).mono ?_
  rintro e w6 ⟨b5, rfl, X6, V5, Q5⟩
  obtain ⟨eb4, R4⟩ := Q4.out (by omega)
  obtain ⟨eb5, R5⟩ := Q5.out (by omega)
  subst eb4 eb5
  have HLen : Hid (l2.length = m ∧ l3.length = m) := ⟨A2.out.len, A3.out.len⟩
  have hlt45 : w4.heap.size < w5.heap.size := by
    have := R4.cell 0 (by rw [HLen.out.2]; omega)
    exact World.block_lt_of_cell? _ _ this
  have HSt : Hid (Stored w4 w6 w4.heap.size w5.heap.size m i l3) := stored_of X5.out X6.out R4 R5 HLen.out.2 hi hm hlt45
  obtain ⟨o5, hc5⟩ := HSt.out.old5
  obtain ⟨o6, hc6⟩ := HSt.out.old6
  have hf5 := HSt.out.free5
  have hf6 := HSt.out.free6
  have X04 : Hid (Below w.heap.size w w4) := bt2 (bt2 (bt2 X1.out X2.out) X3.out) X4.out
  have S0 : Hid (SV encStr w4 b0 n n l0) := V0.out.below (bt2 (bt2 X2.out X3.out) X4.out)
  have S1 : Hid (SV Value.bool w4 b1 n n l1) := V1.out.below (bt2 X3.out X4.out)
  have S2 : Hid (SV encStr w4 b2 m m l2) := V2.out.below X4.out
  clear V0 V1 V2 V3 V4 V5 A0 A1 A2 A3 X1 X2 X3 X4 X5 X6 Q4 Q5 R4 R5 hlt45
  go_wp2_with fail
  obtain ⟨w7, hw7⟩ : ∃ w7, w7 = (w6.setCell ⟨w4.heap.size, i, none⟩ (.bool true)).setCell ⟨w5.heap.size, i, none⟩ (.bool false) := ⟨_, rfl⟩
  have X47 : Hid (Below w4.heap.size w4 w7) := by rw [hw7]; exact HSt.out.bel
  have SS : Hid (SV Value.bool w7 (some ⟨w4.heap.size, 0, none⟩) m m (l3.set i true)) := by rw [hw7]; exact HSt.out.svS
  have SX : Hid (SV Value.bool w7 (some ⟨w5.heap.size, 0, none⟩) m m (l3.set i false)) := by rw [hw7]; exact HSt.out.svX
  rw [← hw7]
  clear hw7 HSt hc5 hc6 hf5 hf6
  refine (new_any _ _ _ _ n m _ _ _ _ l0 l2 l1 (l3.set i true) _ (S0.out.below X47.out) (S1.out.below X47.out) (S2.out.below X47.out) SS.out hn hm HBd.out).mono ?_
  rintro e w8 ⟨rfl, M8⟩
  have M8' : Hid (Made w7 w8 n (holders (l0.zip l1)) (l2.zip (l3.set i true))) := M8
  clear M8
  have HZS : Hid ((l2.zip (l3.set i true)).length = m) := by show _ = _; rw [List.length_zip, HLen.out.1, List.length_set, HLen.out.2]; omega
  have HZX : Hid ((l2.zip (l3.set i false)).length = m) := by show _ = _; rw [List.length_zip, HLen.out.1, List.length_set, HLen.out.2]; omega
  have HTw : Hid (Twin (l2.zip (l3.set i true)) (l2.zip (l3.set i false)) i) := twin_of l2 l3 m i HLen.out.1 HLen.out.2 hi
  go_wp2_with fail
  refine (zznumber_any w7 w8 _ _ _ M8'.out (by rw [HZS.out]; exact hm)).mono ?_
  rintro e w9 ⟨rfl, X9, aF, cF, rF, RF⟩
  have X9' : Hid (Below w7.heap.size w7 w9) := X9
  have RF' : Hid (Res w9 (w7.heap.size + 1) w7.heap.size n (holders (l0.zip l1)) aF cF rF (l2.zip (l3.set i true))) := RF
  clear X9 RF
  go_wp2_with fail
  refine (new_any _ _ _ _ n m _ _ _ _ l0 l2 l1 (l3.set i false) _ (S0.out.below (bt2 X47.out X9'.out)) (S1.out.below (bt2 X47.out X9'.out)) (S2.out.below (bt2 X47.out X9'.out)) (SX.out.below X9'.out) hn hm HBd.out).mono ?_
  rintro e w10 ⟨rfl, M10⟩
  have M10' : Hid (Made w9 w10 n (holders (l0.zip l1)) (l2.zip (l3.set i false))) := M10
  clear M10
  go_wp2_with fail
  refine (zznumber_any w9 w10 _ _ _ M10'.out (by rw [HZX.out]; exact hm)).mono ?_
  rintro e w11 ⟨rfl, X11, aC, cC, rC, RC⟩
  have X11' : Hid (Below w9.heap.size w9 w11) := X11
  have RC' : Hid (Res w11 (w9.heap.size + 1) w9.heap.size n (holders (l0.zip l1)) aC cC rC (l2.zip (l3.set i false))) := RC
  have RF2 : Hid (Res w11 (w7.heap.size + 1) w7.heap.size n (holders (l0.zip l1)) aF cF rF (l2.zip (l3.set i true))) := RF'.out.below X11
  have X011 : Hid (Below w.heap.size w w11) := bt2 (bt2 (bt2 X04.out X47.out) X9'.out) X11
  clear X11 RC RF' M8' M10' S0 S1 S2 SS SX X04 X47 X9'
  generalize l2.zip (l3.set i true) = qS at *
  generalize l2.zip (l3.set i false) = qX at *
  generalize holders (l0.zip l1) = D at *
  go_wp2_with fail
  refine (queueAt_any w11 _ _ _ _ _ _ _ _ RF2.out i (by rw [HZS.out]; exact hi)).mono ?_
  rintro e w' ⟨rfl, hw⟩
  subst w'
  go_wp2_with fail
  refine (zzblockers_any w11 _ _ _ _ _ _ _ _ RF2.out i (by rw [HZS.out]; exact hi) (by rw [HZS.out]; exact hm) hn).mono ?_
  rintro e w12 ⟨sF, hsF, aBF, cBF, rfl, X12, VBF⟩
  have HsF : Hid (∀ x, x ∈ sF ↔ Blocks D qS i x) := hsF
  have RC2 : Hid (Res w12 (w9.heap.size + 1) w9.heap.size n D aC cC rC qX) := RC'.out.below X12.out
  have RF3 : Hid (Res w12 (w7.heap.size + 1) w7.heap.size n D aF cF rF qS) := RF2.out.below X12.out
  clear hsF RC' RF2
  go_wp2_with fail
  refine (queueAt_any w12 _ _ _ _ _ _ _ _ RC2.out i (by rw [HZX.out]; exact hi)).mono ?_
  rintro e w' ⟨rfl, hw⟩
  subst w'
  go_wp2_with fail
  refine (zzblockers_any w12 _ _ _ _ _ _ _ _ RC2.out i (by rw [HZX.out]; exact hi) (by rw [HZX.out]; exact hm) hn).mono ?_
  rintro e w13 ⟨sC, hsC, aBC, cBC, rfl, X13, VBC⟩
  have HBs : Hid (∀ x ∈ uniq sF, x ∈ uniq sC) := fun x hx => by
    rw [mem_uniq] at hx ⊢
    exact (hsC x).2 (blocks_more HTw.out ((HsF.out x).1 hx))
  have RC3 : Hid (Res w13 (w9.heap.size + 1) w9.heap.size n D aC cC rC qX) := RC2.out.below X13.out
  have RF4 : Hid (Res w13 (w7.heap.size + 1) w7.heap.size n D aF cF rF qS) := RF3.out.below X13.out
  clear hsC RC2 RF3 HsF
  go_wp2_with fail
  refine (queueAt_any w13 _ _ _ _ _ _ _ _ RF4.out i (by rw [HZS.out]; exact hi)).mono ?_
  rintro e w' ⟨rfl, hw⟩
  subst w'
  go_wp2_with fail
  refine (zzleads_any w13 _ _ _ _ _ _ _ _ RF4.out i (by rw [HZS.out]; exact hi) (by rw [HZS.out]; exact hm) hn).mono ?_
  rintro e w14 ⟨tF, htF, aLF, cLF, rfl, X14, VLF⟩
  have HtF : Hid (∀ x, x ∈ tF ↔ Leads D qS i (nearest qS i) x) := htF
  have RC4 : Hid (Res w14 (w9.heap.size + 1) w9.heap.size n D aC cC rC qX) := RC3.out.below X14.out
  clear htF RC3 RF4
  go_wp2_with fail
  refine (queueAt_any w14 _ _ _ _ _ _ _ _ RC4.out i (by rw [HZX.out]; exact hi)).mono ?_
  rintro e w' ⟨rfl, hw⟩
  subst w'
  go_wp2_with fail
  refine (zzleads_any w14 _ _ _ _ _ _ _ _ RC4.out i (by rw [HZX.out]; exact hi) (by rw [HZX.out]; exact hm) hn).mono ?_
  rintro e w15 ⟨tC, htC, aLC, cLC, rfl, X15, VLC⟩
  have HLs : Hid (∀ x ∈ uniq tF, x ∈ uniq tC) := fun x hx => by
    rw [mem_uniq] at hx ⊢
    exact (htC x).2 (leads_more HTw.out ((HtF.out x).1 hx))
  clear htC HtF
  have X1115 : Hid (Below w11.heap.size w11 w15) := bt2 (bt2 (bt2 X12.out X13.out) X14.out) X15.out
  have T1 : Hid (SV encStr w15 aBF (uniq sF).length cBF (uniq sF)) := VBF.out.below (bt2 (bt2 X13.out X14.out) X15.out)
  have T2 : Hid (SV encStr w15 aBC (uniq sC).length cBC (uniq sC)) := VBC.out.below (bt2 X14.out X15.out)
  have T3 : Hid (SV encStr w15 aLF (uniq tF).length cLF (uniq tF)) := VLF.out.below X15.out
  have T4 : Hid (SV encStr w15 aLC (uniq tC).length cLC (uniq tC)) := VLC.out
  clear VBF VBC VLF VLC X12 X13 X14 X15 RC4
  go_wp2_with fail
  refine (subset_any _ _ _ _ _ _ _ _ w15 T1.out T2.out HBs.out).mono ?_
  rintro e w' ⟨rfl, hw⟩
  subst w'
  go_wp2_with fail
  refine (subset_any _ _ _ _ _ _ _ _ w15 T3.out T4.out HLs.out).mono ?_
  rintro e w' ⟨rfl, hw⟩
  subst w'
  go_wp2_with fail
  go_ret
  exact ⟨rfl, bt2 X011.out X1115.out⟩

set_option maxHeartbeats 4000000 in
set_option maxRecDepth 100000 in
theorem more_walk (a0 a1 a2 a3 : Option Addr) (n0 n1 n2 n3 c0 c1 c2 c3 : Nat) (l0 l2 : List Tx) (l1 l3 : List Bool) (i : Int) (w : World)
    (h0 : SV encStr w a0 n0 c0 l0) (h1 : SV Value.bool w a1 n1 c1 l1) (h2 : SV encStr w a2 n2 c2 l2) (h3 : SV Value.bool w a3 n3 c3 l3) (hb : ∀ x ∈ l0, x.length ≤ maxLen) :
    Calls Try.prog 5 #[.slice a0 n0 c0, .slice a1 n1 c1, .slice a2 n2 c2, .slice a3 n3 c3, .int .i64 i] w fun e w' => e = .returned (.bool true) ∧ Below w.heap.size w w' := by
  by_cases e1 : n0 = n1
  · subst e1
    by_cases e2 : n2 = n3
    · subst e2
      by_cases e3 : i < 0
      · have A0 : Hid (SV encStr w a0 n0 c0 l0) := h0
        have A2 : Hid (SV encStr w a2 n2 c2 l2) := h2
        have en : ((n0 : Int) != (n0 : Int)) = false := by simp
        have em : ((n2 : Int) != (n2 : Int)) = false := by simp
        have ei : decide (i < 0) = true := decide_eq_true e3
        clear h0 h1 h2 h3 hb e3
        go_enter Try.func5, Try.ntmps5
        go_wp2_with fail
        refine (bytes22_any _ _ _ _ _ _ _ _ _ _ _ _ _ _ _ _ A0.out A2.out).mono ?_
        rintro e w' ⟨⟨r, rfl⟩, hw⟩
        subst w'
        cases r with
        | false => go_wp2; go_ret; exact ⟨rfl, Below.refl _ _⟩
        | true =>
        go_wp2_with fail
        refine (tooBig_any _ _ _ _ _ _ _ _ _ _ _ _ _ _ _ A0.out A2.out).mono ?_
        rintro e w' ⟨⟨r, rfl, hsm⟩, hw⟩
        subst w'
        clear hsm
        cases r with
        | true => go_wp2; go_ret; exact ⟨rfl, Below.refl _ _⟩
        | false => go_wp2; go_ret; exact ⟨rfl, Below.refl _ _⟩
      · obtain ⟨k, rfl⟩ := Int.eq_ofNat_of_zero_le (show 0 ≤ i by omega)
        by_cases e4 : k < n2
        · exact more_main a0 a1 a2 a3 n0 n2 c0 c1 c2 c3 l0 l2 l1 l3 k w h0 h1 h2 h3 e4 hb
        · have A0 : Hid (SV encStr w a0 n0 c0 l0) := h0
          have A2 : Hid (SV encStr w a2 n2 c2 l2) := h2
          have en : ((n0 : Int) != (n0 : Int)) = false := by simp
          have em : ((n2 : Int) != (n2 : Int)) = false := by simp
          have ei : decide ((k : Int) < 0) = false := decide_eq_false (by omega)
          have ei2 : n2 ≤ k := by omega
          clear h0 h1 h2 h3 hb e3 e4
          go_enter Try.func5, Try.ntmps5
          go_wp2_with fail
          refine (bytes22_any _ _ _ _ _ _ _ _ _ _ _ _ _ _ _ _ A0.out A2.out).mono ?_
          rintro e w' ⟨⟨r, rfl⟩, hw⟩
          subst w'
          cases r with
          | false => go_wp2; go_ret; exact ⟨rfl, Below.refl _ _⟩
          | true =>
          go_wp2_with fail
          refine (tooBig_any _ _ _ _ _ _ _ _ _ _ _ _ _ _ _ A0.out A2.out).mono ?_
          rintro e w' ⟨⟨r, rfl, hsm⟩, hw⟩
          subst w'
          clear hsm
          cases r with
          | true => go_wp2; go_ret; exact ⟨rfl, Below.refl _ _⟩
          | false => go_wp2; go_ret; exact ⟨rfl, Below.refl _ _⟩
    · have A0 : Hid (SV encStr w a0 n0 c0 l0) := h0
      have A2 : Hid (SV encStr w a2 n2 c2 l2) := h2
      have en : ((n0 : Int) != (n0 : Int)) = false := by simp
      have em : ((n2 : Int) != (n3 : Int)) = true := by simp; omega
      clear h0 h1 h2 h3 hb e2
      go_enter Try.func5, Try.ntmps5
      go_wp2_with fail
      refine (bytes22_any _ _ _ _ _ _ _ _ _ _ _ _ _ _ _ _ A0.out A2.out).mono ?_
      rintro e w' ⟨⟨r, rfl⟩, hw⟩
      subst w'
      cases r with
      | false => go_wp2; go_ret; exact ⟨rfl, Below.refl _ _⟩
      | true =>
      go_wp2_with fail
      refine (tooBig_any _ _ _ _ _ _ _ _ _ _ _ _ _ _ _ A0.out A2.out).mono ?_
      rintro e w' ⟨⟨r, rfl, hsm⟩, hw⟩
      subst w'
      clear hsm
      cases r with
      | true => go_wp2; go_ret; exact ⟨rfl, Below.refl _ _⟩
      | false => go_wp2; go_ret; exact ⟨rfl, Below.refl _ _⟩
  · have A0 : Hid (SV encStr w a0 n0 c0 l0) := h0
    have A2 : Hid (SV encStr w a2 n2 c2 l2) := h2
    have en : ((n0 : Int) != (n1 : Int)) = true := by simp; omega
    clear h0 h1 h2 h3 hb e1
    go_enter Try.func5, Try.ntmps5
    go_wp2_with fail
    refine (bytes22_any _ _ _ _ _ _ _ _ _ _ _ _ _ _ _ _ A0.out A2.out).mono ?_
    rintro e w' ⟨⟨r, rfl⟩, hw⟩
    subst w'
    cases r with
    | false => go_wp2; go_ret; exact ⟨rfl, Below.refl _ _⟩
    | true =>
    go_wp2_with fail
    refine (tooBig_any _ _ _ _ _ _ _ _ _ _ _ _ _ _ _ A0.out A2.out).mono ?_
    rintro e w' ⟨⟨r, rfl, hsm⟩, hw⟩
    subst w'
    clear hsm
    cases r with
    | true => go_wp2; go_ret; exact ⟨rfl, Below.refl _ _⟩
    | false => go_wp2; go_ret; exact ⟨rfl, Below.refl _ _⟩
end Go.Proofs.Qxb6003669a
