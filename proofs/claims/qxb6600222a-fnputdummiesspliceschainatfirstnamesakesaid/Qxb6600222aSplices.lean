import Derived.Test.Qxb6600222aSlice6
namespace Go.Proofs.Qxb6600222a
open Go.RowKit

theorem its_has (sk : Nat → Bool) (k : Nat) (h : pl sk k = true) : none ∈ its sk k := by
  induction k with
  | zero => simp [pl] at h
  | succ k ih =>
    simp only [its, List.mem_append]
    by_cases h2 : pl sk k = true
    · exact .inl (ih h2)
    · have h3 : sk k = true := by simpa [pl, h2] using h
      right
      rw [if_pos h3, if_neg h2]
      simp

theorem gotI_has (sk : Nat → Bool) (n : Nat) : none ∈ gotI sk n := by
  unfold gotI
  by_cases hp : pl sk n = true
  · rw [if_pos hp]; exact its_has sk n hp
  · rw [if_neg hp]; simp

set_option maxHeartbeats 8000000 in
set_option maxRecDepth 100000 in
theorem splices_main (a0 a1 a2 a3 a5 a6 : Option Addr) (n0 n1 n2 n3 n5 n6 c0 c1 c2 c3 c5 c6 : Nat) (l0 l3 : List Bool) (l1 l2 l5 l6 : List Tx) (base : Int) (w : World)
    (h0 : SV Value.bool w a0 n0 c0 l0) (h1 : SV encStr w a1 n1 c1 l1) (h2 : SV encStr w a2 n2 c2 l2) (h3 : SV Value.bool w a3 n3 c3 l3) (h5 : SV encStr w a5 n5 c5 l5) (h6 : SV encStr w a6 n6 c6 l6)
    (g0 : n0 ≤ 65536) (g1 : n1 ≤ 65536) (g2 : n2 ≤ 65536) (g3 : n3 ≤ 65536) (g5 : n5 ≤ 65536) (g6 : n6 ≤ 65536) (hb0 : 0 ≤ base) (hb1 : base ≤ 1073741824) (hpos : 0 < n5) :
    Calls Try.prog 6 #[.slice a0 n0 c0, .slice a1 n1 c1, .slice a2 n2 c2, .slice a3 n3 c3, .int .i64 base, .slice a5 n5 c5, .slice a6 n6 c6] w fun e w' => e = .returned (.bool true) ∧ Below w.heap.size w w' := by
  have A0 : Hid (SV Value.bool w a0 n0 c0 l0) := h0
  have A1 : Hid (SV encStr w a1 n1 c1 l1) := h1
  have A2 : Hid (SV encStr w a2 n2 c2 l2) := h2
  have A3 : Hid (SV Value.bool w a3 n3 c3 l3) := h3
  have A5 : Hid (SV encStr w a5 n5 c5 l5) := h5
  have A6 : Hid (SV encStr w a6 n6 c6 l6) := h6
  clear h0 h1 h2 h3 h5 h6
  have e0 : decide ((65536 : Int) < (n0 : Int)) = false := decide_eq_false (by omega)
  have e1 : decide ((65536 : Int) < (n1 : Int)) = false := decide_eq_false (by omega)
  have e2 : decide ((65536 : Int) < (n2 : Int)) = false := decide_eq_false (by omega)
  have e3 : decide ((65536 : Int) < (n3 : Int)) = false := decide_eq_false (by omega)
  have e5 : decide ((65536 : Int) < (n5 : Int)) = false := decide_eq_false (by omega)
  have e6 : decide ((65536 : Int) < (n6 : Int)) = false := decide_eq_false (by omega)
  have e7 : decide (base < 0) = false := decide_eq_false (by omega)
  have e8 : decide ((1073741824 : Int) < base) = false := decide_eq_false (by omega)
  have e9 : ((n5 : Int) == 0) = false := by
    rw [beq_eq_false_iff_ne]; omega
  go_enter Try.func6, Try.ntmps6
  go_wp2_with fail
  refine (bytes14_any _ _ _ _ _ _ _ _ _ _ _ _ _ _ _ _ _ _ _ _ _ _ _ w A1.out A2.out A5.out A6.out).mono ?_
  rintro e w' ⟨⟨r, rfl⟩, hw⟩
  subst w'
  cases r with
  | false => go_wp2; go_ret; exact ⟨rfl, Below.refl _ _⟩
  | true =>
  go_wp2_with fail
  refine (treeBytes_any _ _ _ _ _ _ _ _ _ _ _ _ _ _ _ _ _ _ _ _ _ _ w A1.out A2.out A5.out A6.out).mono ?_
  rintro e w' ⟨⟨x, rfl⟩, hw⟩
  subst w'
  by_cases hx : (1048576 : Int) < x
  · go_wp2; go_ret; exact ⟨rfl, Below.refl _ _⟩
  go_wp2_with fail
  refine (cloneB_any _ _ _ _ _ A0.out g0).mono ?_
  rintro e w1 ⟨b0, rfl, X1, B0, -⟩
  go_wp2_with fail
  refine (cloneS_any _ _ _ _ _ (A1.out.below X1.out) g1).mono ?_
  rintro e w2 ⟨b1, rfl, X2, B1, -⟩
  go_wp2_with fail
  refine (cloneS_any _ _ _ _ _ (A2.out.below (bt X1.out X2.out)) g2).mono ?_
  rintro e w3 ⟨b2, rfl, X3, B2, -⟩
  go_wp2_with fail
  refine (cloneB_any _ _ _ _ _ (A3.out.below (bt (bt X1.out X2.out) X3.out)) g3).mono ?_
  rintro e w4 ⟨b3, rfl, X4, B3, -⟩
  go_wp2_with fail
  refine (cloneS_any _ _ _ _ _ (A5.out.below (bt (bt (bt X1.out X2.out) X3.out) X4.out)) g5).mono ?_
  rintro e w5 ⟨b5, rfl, X5, B5, -⟩
  go_wp2_with fail
  refine (cloneS_any _ _ _ _ _ (A6.out.below (bt (bt (bt (bt X1.out X2.out) X3.out) X4.out) X5.out)) g6).mono ?_
  rintro e w6 ⟨b6, rfl, X6, B6, -⟩
  have X06 : Hid (Below w.heap.size w w6) := bt (bt (bt (bt (bt X1.out X2.out) X3.out) X4.out) X5.out) X6.out
  have V0 : Hid (SV Value.bool w6 b0 n0 n0 l0) := B0.out.below (bt (bt (bt (bt X2.out X3.out) X4.out) X5.out) X6.out)
  have V1 : Hid (SV encStr w6 b1 n1 n1 l1) := B1.out.below (bt (bt (bt X3.out X4.out) X5.out) X6.out)
  have V2 : Hid (SV encStr w6 b2 n2 n2 l2) := B2.out.below (bt (bt X4.out X5.out) X6.out)
  have V3 : Hid (SV Value.bool w6 b3 n3 n3 l3) := B3.out.below (bt X5.out X6.out)
  have V5 : Hid (SV encStr w6 b5 n5 n5 l5) := B5.out.below X6.out
  have V6 : Hid (SV encStr w6 b6 n6 n6 l6) := B6.out
  clear A0 A1 A2 A3 A5 A6 X1 X2 X3 X4 X5 X6 B0 B1 B2 B3 B5 B6
  obtain ⟨bd, fd, d0, ed, hcd, HD0⟩ := V5.out.at 0 hpos
  subst ed
  have hcd' : w6.cell? ⟨bd, fd, none⟩ = some (encStr d0) := hcd
  have ED : Hid (atS l5 0 = d0) := HD0.out
  clear hcd HD0
  go_wp2_with fail
  refine (atS_any b6 n6 n6 l6 0 w6 V6.out).mono ?_
  rintro e w' ⟨rfl, hw⟩
  subst w'
  go_wp2_with fail
  refine (build_any b0 b1 b2 b3 n0 n1 n2 n3 n0 n1 n2 n3 l0 l3 l1 l2 base w6 V0.out V1.out V2.out V3.out g0 hb0 hb1).mono ?_
  rintro e w7 ⟨z, cb, rfl, hG⟩
  have HG : Hid (Grove z w6 w7 n0 n0 _ _ cb) := hG
  have X7 : Hid (Below w6.heap.size w6 w7) := hG.mid.bel
  have HQB : Hid ((treeOf l0 l1 l2 l3 base).base = base) := rfl
  have hordF : ∀ i, i < n0 → w7.cell? ⟨z.R, i, none⟩ = some (.int .i64 ((treeOf l0 l1 l2 l3 base).ord i)) := fun i hi => hG.mid.ord.cell (by rw [List.getElem?_map, List.getElem?_range hi]; rfl)
  have HOrd : Hid (∀ i, i < n0 → w7.cell? ⟨z.R, i, none⟩ = some (.int .i64 ((treeOf l0 l1 l2 l3 base).ord i))) := hordF
  have HNS : Hid (∀ (W : World) (i : Nat), i < n0 → Below w6.heap.size w6 W → Calls Try.prog 20 #[.slice b0 n0 n0, .slice b1 n1 n1, .slice b2 n2 n2, .int .i64 i, encStr d0, encStr (atS l6 0)] W fun r w' => r = .returned (.bool (sake (treeOf l0 l1 l2 l3 base) d0 (atS l6 0) i)) ∧ w' = W) :=
    fun W i hi hb => sake_any b0 b1 b2 n0 n1 n2 n0 n1 n2 l0 l3 l1 l2 base d0 (atS l6 0) i W (V0.out.below hb) (V1.out.below hb) (V2.out.below hb) hi
  obtain ⟨f, hF⟩ := fst_exists (sake (treeOf l0 l1 l2 l3 base) d0 (atS l6 0)) n0
  have HF : Hid (Fst (sake (treeOf l0 l1 l2 l3 base) d0 (atS l6 0)) n0 f) := hF
  have hfn : f ≤ n0 := hF.le
  clear hG hordF hF V0 V1 V2 V3
  generalize treeOf l0 l1 l2 l3 base = q at *
  generalize eqs : atS l6 0 = es at *
  have ES : Hid (atS l6 0 = es) := eqs
  clear eqs
  unfold ptr
  go_upto_block 0 with fail
  go_cut [23, 24] from 129 to 141 (fun s23 _ wx => wx = w7 ∧ s23 = .int .i64 f)
  case first =>
    go_wp2_with fail
    go_loopw [23, 24] (fun s i wr => wr = w7 ∧ ∃ k : Nat, k ≤ f ∧ i = .int .i64 k ∧ s = .int .i64 n0) (fun _ i _ => n0 - (intOf i).toNat)
    case atStart => exact ⟨rfl, 0, Nat.zero_le _, rfl, rfl⟩
    case round =>
      obtain ⟨hwr, k, hk, rfl, rfl⟩ := hrel
      subst wr
      by_cases hlt : k < n0
      · have hlt' : (k : Int) < (n0 : Int) := by omega
        go_wp2_with fail
        refine (HNS.out w7 k hlt X7.out).mono ?_
        rintro r w' ⟨rfl, hw⟩
        subst w'
        by_cases hs : sake q d0 es k = true
        · have hkf := HF.out.unique hk hs
          rw [hs]
          go_wp2
          go_meet
          case rel => exact ⟨rfl, by first | rw [hkf] | rfl⟩
        · have hkf : k < f := by
            rcases Nat.lt_or_ge k f with h | h
            · exact h
            · have e : k = f := by omega
              rw [e] at hs
              exact absurd (HF.out.yes (by omega)) hs
          have hs' : sake q d0 es k = false := by simpa using hs
          rw [hs']
          go_wp2
          go_roundw
          case rel => exact ⟨trivial, k + 1, by omega, by go_num, rfl⟩
          case measure => simp [intOf]; omega
      · have hkf : (n0 : Int) = (f : Int) := by omega
        go_wp2
        go_meet
        case rel => exact ⟨rfl, by first | rw [hkf] | rfl⟩
  case rest =>
    obtain ⟨hwc, rfl⟩ := hcut
    subst wc
    have hob := q.ord_bound f
    rw [HQB.out] at hob
    go_upto_if 145 with fail
    go_cut [25] from 143 to 150 (fun s25 wx => wx = w7 ∧ s25 = .int .i64 (hord (sake q d0 es) q n0))
    case first =>
      by_cases hf : f < n0
      · have hof := HOrd.out f hf
        have hf' : (f : Int) < (n0 : Int) := by omega
        have HH : Hid (hord (sake q d0 es) q n0 = q.ord f - 1) := by show hord _ _ _ = _; rw [hord_want _ _ _ _ HF.out, if_pos hf]
        generalize q.ord f = of at *
        go_wp2
        go_meet
        case rel => exact ⟨rfl, by rw [HH.out]⟩
      · have hf' : ¬ (f : Int) < (n0 : Int) := by omega
        have HH : Hid (hord (sake q d0 es) q n0 = q.ord n0 - 1) := by show hord _ _ _ = _; rw [hord_want _ _ _ _ HF.out, if_neg hf]
        go_wp2
        go_meet
        case rel => exact ⟨rfl, by rw [HH.out]⟩
    case rest =>
      obtain ⟨hwc, rfl⟩ := hcut
      subst wc
      clear hob
      obtain ⟨i3, hi3, hz0, hz1, hz2⟩ := info_parts Try.info3
      have hmx : n0 ≤ maxLen := by unfold maxLen; omega
      go_wp2_with (at_make; refine wpList_make_own _ rfl (.const (.int .i64 0)) (.tmp 151) 37 rfl w7.heap.size 3 i3 (.int .i64 0) 1 Try.underlying37 hi3 hz0 hz1 .i64 .i64 _ n0 rfl rfl rfl (by rw [hz2]; omega) hmx (Nat.le_refl _) ?_; intro w8 hown8 hgrow8)
      have HR8 : Hid (w8.ownsRow w7.heap.size 3 1 (.slice (some ⟨w7.heap.size, 0, none⟩) 0 n0) 0 []) := hown8
      have HB8 : Hid (Below w7.heap.size w7 w8) := (Below.refl _ w7).grown hgrow8 (Nat.le_refl _) (by intro k h; cases h)
      have HI3 : Hid (Try.prog.info? 3 = some i3 ∧ i3.zero = some (.int .i64 0) ∧ i3.size = 1 ∧ i3.bytes = 8) := ⟨hi3, hz0, hz1, hz2⟩
      clear hown8 hgrow8 hi3 hz0 hz1 hz2
      go_loopw [26, 27] (fun cv i wx => ∃ k : Nat, k ≤ n0 ∧ i = .int .i64 k ∧ wx.ownsRow w7.heap.size 3 1 cv (kl (sake q d0 es) k).length ((kl (sake q d0 es) k).map (Value.int .i64)) ∧ Below w7.heap.size w7 wx) (fun _ i _ => n0 - (intOf i).toNat)
      case atStart => exact ⟨0, Nat.zero_le _, rfl, HR8.out, HB8.out⟩
      case round =>
        clear HR8 HB8
        obtain ⟨k, hk, rfl, hrow, hbel⟩ := hrel
        have HR : Hid (wr.ownsRow w7.heap.size 3 1 _ (kl (sake q d0 es) k).length ((kl (sake q d0 es) k).map (Value.int .i64))) := hrow
        have HB : Hid (Below w7.heap.size w7 wr) := hbel
        clear hrow hbel
        by_cases hlt : k < n0
        · have hlt' : (k : Int) < (n0 : Int) := by omega
          have HKS : Hid (kl (sake q d0 es) (k + 1) = kl (sake q d0 es) k ++ (if sake q d0 es k then [] else [(k : Int)])) := kl_succ _ _
          have HKL : Hid ((kl (sake q d0 es) k).length ≤ k) := kl_len _ _
          go_wp2_with fail
          refine (HNS.out wr k hlt (bt X7.out HB.out)).mono ?_
          rintro r w' ⟨rfl, hw⟩
          subst w'
          cases hs : sake q d0 es k with
          | true =>
            rw [hs] at HKS
            go_wp2
            go_roundw
            case rel => exact ⟨k + 1, by omega, by go_num, by rw [HKS.out]; simpa using HR.out, HB.out⟩
            case measure => simp [intOf]; omega
          | false =>
            rw [hs] at HKS
            go_wp2_with (at_builtin; refine app3 w7 wr w7.heap.size _ rfl (.tmp 166) (.tmp 168) rfl _ (kl (sake q d0 es) k) k rfl rfl (by first | rfl | simp) HR.out (by have := HKL.out; omega) HB.out (Nat.le_refl _) ?_; intro v' w' HR2 HB2)
            go_roundw
            case rel => exact ⟨k + 1, by omega, by go_num, by rw [HKS.out]; exact HR2.out, HB2.out⟩
            case measure => simp [intOf]; omega
        · have e : k = n0 := by omega
          subst e
          obtain ⟨wk, hwk⟩ : ∃ x : World, x = wr := ⟨_, rfl⟩
          subst hwk
          obtain ⟨ak, ck, hcv, hsv⟩ := own_sv HR.out
          have VK : Hid (SV (Value.int .i64) wk ak (kl (sake q d0 es) k).length ck (kl (sake q d0 es) k)) := hsv
          have HKL : Hid ((kl (sake q d0 es) k).length ≤ k) := kl_len _ _
          have hkl : (kl (sake q d0 es) k).length ≤ 65536 := by have := HKL.out; omega
          obtain ⟨hwant, hflen⟩ := want_gotI _ _ _ HF.out
          have HWant : Hid ((kl (sake q d0 es) k).take f ++ [-1] ++ (kl (sake q d0 es) k).drop f = (gotI (sake q d0 es) k).map wantV) := hwant
          subst hcv
          clear hsv hwant HR
          generalize kl (sake q d0 es) k = L at *
          have hmx1 : L.length + 1 ≤ maxLen := by unfold maxLen; omega
          have hsi := HI3.out.1
          obtain ⟨hi3, hz0, hz1, hz2⟩ := HI3.out
          go_wp2_with (at_make; refine wpList_make_own _ rfl (.const (.int .i64 0)) (.tmp 172) 37 rfl wk.heap.size 3 i3 (.int .i64 0) 1 Try.underlying37 hi3 hz0 hz1 .i64 .i64 _ (L.length + 1) rfl rfl (by omega) (by rw [hz2]; omega) hmx1 (Nat.le_refl _) ?_; intro w9 hown9 hgrow9)
          have HR9 : Hid (w9.ownsRow wk.heap.size 3 1 (.slice (some ⟨wk.heap.size, 0, none⟩) 0 (L.length + 1)) 0 []) := hown9
          have HB9 : Hid (Below wk.heap.size wk w9) := (Below.refl _ wk).grown hgrow9 (Nat.le_refl _) (by intro k h; cases h)
          clear hown9 hgrow9 hi3 hz0 hz1 hz2 hsi
          go_loopw [28, 29] (fun cv i wx => ∃ j : Nat, j ≤ f ∧ i = .int .i64 j ∧ wx.ownsRow wk.heap.size 3 1 cv (L.take j).length ((L.take j).map (Value.int .i64)) ∧ Below wk.heap.size wk wx) (fun _ i _ => f - (intOf i).toNat)
          case atStart => exact ⟨0, Nat.zero_le _, rfl, HR9.out, HB9.out⟩
          case round =>
            clear HR9 HB9
            obtain ⟨j, hj, rfl, hrow, hbel⟩ := hrel
            have HR3 : Hid (wr.ownsRow _ 3 1 _ (L.take j).length ((L.take j).map (Value.int .i64))) := hrow
            have HB3 : Hid (Below _ _ wr) := hbel
            clear hrow
            by_cases hlt2 : j < f
            · have hlt2' : (j : Int) < (f : Int) := by omega
              obtain ⟨bk, fk, x, ea, hc, HX⟩ := VK.out.at j (by omega)
              subst ea
              have hjl : (j : Int) < (L.length : Int) := by omega
              have hcx : wr.cell? ⟨bk, fk + j, none⟩ = some (.int .i64 x) := below_cell hbel hc
              have HTS : Hid (L.take (j + 1) = L.take j ++ [x]) := by show L.take (j + 1) = _; rw [take_succ_getD L j (by omega), HX.out]
              clear hbel hc
              go_wp2_with (at_builtin; refine app3 _ wr _ _ rfl (.tmp 179) (.tmp 184) rfl _ (L.take j) x rfl rfl (by first | rfl | simp) HR3.out (by rw [List.length_take]; omega) HB3.out (Nat.le_refl _) ?_; intro v' w' HR2 HB2)
              go_roundw
              case rel => exact ⟨j + 1, by omega, by go_num, by rw [HTS.out]; exact HR2.out, HB2.out⟩
              case measure => simp [intOf]; omega
            · have e : j = f := by omega
              subst e
              clear hbel
              go_wp2_with (at_builtin; refine app3 _ wr _ _ rfl (.tmp 186) (.tmp 187) rfl _ (L.take j) (-1) rfl rfl (by first | rfl | simp) HR3.out (by rw [List.length_take]; omega) HB3.out (Nat.le_refl _) ?_; intro v' w' HR2 HB2)
              have HX0 : Hid (L.take j ++ [-1] ++ (L.drop j).take (j - j) = L.take j ++ [-1]) := by show _ = _; rw [Nat.sub_self]; simp
              go_loopw [28, 30] (fun cv i wx => ∃ t : Nat, j ≤ t ∧ t ≤ L.length ∧ i = .int .i64 t ∧ wx.ownsRow wk.heap.size 3 1 cv (L.take j ++ [-1] ++ (L.drop j).take (t - j)).length ((L.take j ++ [-1] ++ (L.drop j).take (t - j)).map (Value.int .i64)) ∧ Below wk.heap.size wk wx) (fun _ i _ => L.length - (intOf i).toNat)
              case atStart => exact ⟨j, Nat.le_refl _, hflen, rfl, by rw [HX0.out]; exact HR2.out, HB2.out⟩
              case round =>
                clear HR2 HB2 HX0
                obtain ⟨t, hjt, htl, rfl, hrow, hbel⟩ := hrel
                have HR4 : Hid (wr.ownsRow wk.heap.size 3 1 _ (L.take j ++ [-1] ++ (L.drop j).take (t - j)).length ((L.take j ++ [-1] ++ (L.drop j).take (t - j)).map (Value.int .i64))) := hrow
                have HB4 : Hid (Below wk.heap.size wk wr) := hbel
                clear hrow
                by_cases hlt4 : t < L.length
                · obtain ⟨bk, fk, x, ea, hc, HX⟩ := VK.out.at t hlt4
                  subst ea
                  have hjl : (t : Int) < (L.length : Int) := by omega
                  have hcx : wr.cell? ⟨bk, fk + t, none⟩ = some (.int .i64 x) := below_cell hbel hc
                  have HTS : Hid (L.take j ++ [-1] ++ (L.drop j).take (t + 1 - j) = L.take j ++ [-1] ++ (L.drop j).take (t - j) ++ [x]) := by
                    show _ = _
                    rw [show t + 1 - j = (t - j) + 1 by omega, take_succ_getD (L.drop j) (t - j) (by rw [List.length_drop]; omega), List.append_assoc _ _ [x]]
                    rw [List.getD_eq_getElem?_getD, List.getElem?_drop, show j + (t - j) = t by omega, ← List.getD_eq_getElem?_getD, HX.out]
                  have HLL : Hid ((L.take j ++ [-1] ++ (L.drop j).take (t - j)).length ≤ 200000) := by show _ ≤ _; simp; omega
                  clear hbel hc
                  go_wp2_with (at_builtin; refine app3 _ wr _ _ rfl (.tmp 196) (.tmp 201) rfl _ (L.take j ++ [-1] ++ (L.drop j).take (t - j)) x rfl rfl (by first | rfl | simp) HR4.out (by have := HLL.out; omega) HB4.out (Nat.le_refl _) ?_; intro v' w' HR2 HB2)
                  go_roundw
                  case rel => exact ⟨t + 1, by omega, by omega, by go_num, by rw [HTS.out]; exact HR2.out, HB2.out⟩
                  case measure => simp [intOf]; omega
                · have e : t = L.length := by omega
                  subst e
                  clear hbel
                  have hXe : L.take j ++ [-1] ++ (L.drop j).take (L.length - j) = (gotI (sake q d0 es) k).map wantV := by
                    have hd : (L.drop j).take (L.length - j) = L.drop j := List.take_of_length_le (by rw [List.length_drop]; omega)
                    rw [hd]; exact HWant.out
                  rw [hXe] at HR4
                  have hgp : 0 < ((gotI (sake q d0 es) k).map wantV).length := by rw [← hXe]; simp; omega
                  obtain ⟨wg, wcap, wcur, hwv, hwb, hwc2⟩ := own_block HR4.out hgp
                  have HWB : Hid (wr.heap[wg]? = some (.cells wcur 3 (0, 0))) := hwb
                  have HWC : Hid (∀ (j : Nat) (x : Int), ((gotI (sake q d0 es) k).map wantV)[j]? = some x → wcur[j]? = some (.int .i64 x)) := hwc2
                  subst hwv
                  obtain ⟨ww, hww⟩ : ∃ x : World, x = wr := ⟨_, rfl⟩
                  subst hww
                  have X7w : Hid (Below w7.heap.size w7 ww) := bt HB.out HB4.out
                  have HGw : Hid (Grove z w6 ww k k _ q cb) := HG.out.below X7w.out
                  clear hXe hgp hwb hwc2 HR4 HG HOrd HNS VK HR3 HB3 HB4 HB HI3
                  go_wp2_with fail
                  refine (new21 ww).mono ?_
                  rintro e wT ⟨rfl, ht⟩
                  have T8 : Hid (Turned ww wT _ _) := ht
                  have X8 : Hid (Below ww.heap.size ww wT) := (Below.refl _ ww).grown ht.grown (Nat.le_refl _) (by intro k h; injection h with h; omega)
                  clear ht
                  go_wp2_with fail
                  refine (names_any (some ⟨bd, fd, none⟩) b6 n5 n6 n5 n6 l5 l6 wT (V5.out.below (bt (bt X7.out X7w.out) X8.out)) (V6.out.below (bt (bt X7.out X7w.out) X8.out)) g5).mono ?_
                  rintro e wN ⟨rfl, hN, hB9⟩
                  obtain ⟨⟨s, hS⟩, X6N, XwN, hzP, hle⟩ := stage_of HGw.out g0 T8.out hN hB9
                  have HX6N : Hid (Below w6.heap.size w6 wN) := X6N
                  have HXwN : Hid (Below ww.heap.size ww wN) := XwN
                  have HZ : Hid (z.P = w6.heap.size ∧ w6.heap.size ≤ ww.heap.size) := ⟨hzP, hle⟩
                  have HS : Hid (Stage wN z k q cb ww.heap.size wT.heap.size n5 (atS l5) (atS l6) s) := hS
                  clear hN hB9 X6N XwN hzP hle hS
                  go_wp2_with fail
                  refine (put22_n wN z k q cb ww.heap.size wT.heap.size n5 _ _ s HS.out g0 g5 hpos (by rw [HQB.out]; exact hb0) (by rw [HQB.out]; exact hb1)).mono ?_
                  rintro e wP ⟨chn, lb, G, cap, rfl, hlb, hPut⟩
                  rw [ED.out, ES.out] at hPut
                  have HPut : Hid (Put wN wP z k q cb ww.heap.size (n5 - 1) (atS l5) (atS l6) (got (sake q d0 es) cb (wN.heap.size + 1) k) (hord (sake q d0 es) q k) chn G cap) := hPut
                  have HEnd : Hid (Below w.heap.size w wP) := (bt X06.out HX6N.out).trans (hPut.bel _ (by have := HZ.out.1; have := X06.out.size; omega) (by have := HZ.out.2; have := X06.out.size; omega))
                  have X6P : Hid (Below w6.heap.size w6 wP) := HX6N.out.trans (hPut.bel _ (by have := HZ.out.1; omega) HZ.out.2)
                  have V5P : Hid (SV encStr wP (some ⟨bd, fd, none⟩) n5 n5 l5) := V5.out.below X6P.out
                  have V6P : Hid (SV encStr wP b6 n6 n6 l6) := V6.out.below X6P.out
                  have keep3 : ∀ {g : Nat} {C : Array Value} {t : TypeId}, t ≠ 71 → ww.heap[g]? = some (.cells C t (0, 0)) → wP.heap[g]? = some (.cells C t (0, 0)) := by
                    intro g C t ht hg
                    exact hPut.keep g _ (below_heap HXwN.out hg) (by have := lt_of_heap hg; omega) (fun C' e => by simp at e; exact ht e.2)
                  have HWB2 : Hid (wP.heap[wg]? = some (.cells wcur 3 (0, 0))) := keep3 (by decide) HWB.out
                  have HOr : Hid (∀ (i b : Nat), cb[i]? = some b → wP.cell? ⟨z.O, i, none⟩ = some (ptr b)) := by
                    intro i b hi
                    obtain ⟨cur, h1, h2, h3⟩ := HGw.out.mid.orig
                    rw [cell_of_row wP z.O i _ 35 (0, 0) (keep3 (by decide) h1)]
                    exact h3 i b hi
                  have HKr : Hid (∀ (i b : Nat), cb[i]? = some b → wP.cell? ⟨z.K, i, none⟩ = some (ptr b)) := by
                    intro i b hi
                    obtain ⟨cur, h1, h2, h3⟩ := HGw.out.mid.kids
                    rw [cell_of_row wP z.K i _ 35 (0, 0) (keep3 (by decide) h1)]
                    exact h3 i b hi
                  have HGI : Hid (got (sake q d0 es) cb (wN.heap.size + 1) k = (gotI (sake q d0 es) k).map (blk cb (wN.heap.size + 1))) := got_its _ _ _ _
                  have HLt : Hid (∀ j, some j ∈ gotI (sake q d0 es) k → j < k) := fun j hj => gotI_lt _ _ _ hj
                  have HLen : Hid ((got (sake q d0 es) cb (wN.heap.size + 1) k).length ≤ k + 1) := got_len _ _ _ _
                  have HHas : Hid (wN.heap.size + 1 ∈ got (sake q d0 es) cb (wN.heap.size + 1) k) := got_has _ _ _ _
                  have HNone : Hid (none ∈ gotI (sake q d0 es) k) := gotI_has _ _
                  have HCb : Hid (cb.length = k) := HS.out.len
                  have HLb : Hid (chn[n5 - 1]? = some lb) := hlb
                  have hlen : (gotI (sake q d0 es) k).length = (got (sake q d0 es) cb (wN.heap.size + 1) k).length := by rw [HGI.out]; simp
                  obtain ⟨ixp, hpar⟩ := hPut.par
                  have HPar : Hid (_ = _) := hpar
                  rw [hlen]
                  clear hPut hpar hlb T8 HGw X7 X7w X8 HS HX6N HXwN HZ X06 V5 V6 X6P keep3 hlen HWB hcd'
                  generalize hord (sake q d0 es) q k = oh at *
                  generalize gotI (sake q d0 es) k = gi at *
                  generalize got (sake q d0 es) cb (wN.heap.size + 1) k = g at *
                  go_wp2_with fail
                  refine (get24 z.P _ _ _ _ _ _ _ _ _ wP HPar.out).mono ?_
                  rintro e w' ⟨rfl, hw⟩
                  subst w'
                  unfold ptr
                  go_wp2
                  have HGL : Hid (gi.length = g.length) := by show gi.length = g.length; rw [HGI.out]; simp
                  go_loopw [34, 35] (fun h i wx => ∃ t : Nat, t ≤ g.length ∧ i = .int .i64 t ∧ (none ∈ gi.take t → h = .pointer (some ⟨wN.heap.size + 1, 0, none⟩)) ∧ Below wP.heap.size wP wx) (fun _ i _ => g.length - (intOf i).toNat)
                  case atStart => exact ⟨0, Nat.zero_le _, rfl, (fun h => by simp at h), Below.refl _ _⟩
                  case round =>
                    obtain ⟨t, ht, rfl, hhd, hbel⟩ := hrel
                    have HHd : Hid (none ∈ gi.take t → _) := hhd
                    have HBl : Hid (Below wP.heap.size wP wr) := hbel
                    have hgl := HLen.out
                    clear hhd
                    by_cases hlt5 : t < g.length
                    · have hlt5' : (t : Int) < (g.length : Int) := by omega
                      have hgi : gi[t]? = some (gi[t]'(by rw [HGL.out]; exact hlt5)) := List.getElem?_eq_getElem _
                      have hsn : gi.take (t + 1) = gi.take t ++ [gi[t]'(by rw [HGL.out]; exact hlt5)] := List.take_succ_eq_append_getElem _
                      generalize gi[t]'(by rw [HGL.out]; exact hlt5) = x at hgi hsn
                      have hg : g[t]? = some (blk cb (wN.heap.size + 1) x) := by rw [HGI.out, List.getElem?_map, hgi]; rfl
                      have hrow := below_cell hbel (HPut.out.row t _ hg)
                      have hix := below_cell hbel (HPut.out.idx t _ hg)
                      have hwt : wr.cell? ⟨wg, t, none⟩ = some (.int .i64 (wantV x)) := by
                        rw [cell_of_row wr wg t _ 3 (0, 0) (below_heap hbel HWB2.out)]
                        exact HWC.out t _ (by rw [List.getElem?_map, hgi]; rfl)
                      cases x with
                      | none =>
                        obtain ⟨ch, ix, hnode, _⟩ := HPut.out.chain 0 _ HPut.out.hd
                        have hnw := below_heap hbel hnode
                        have hixe : ix = .int .i64 t := by
                          have h1 : wr.cell? ⟨wN.heap.size + 1, 7, none⟩ = some ix := cell_of_row wr _ 7 _ 71 (0, 0) hnw
                          have h2 : wr.cell? ⟨wN.heap.size + 1, 7, none⟩ = some (.int .i64 t) := hix
                          rw [h1] at h2; injection h2
                        subst hixe
                        have HNode : Hid (_ = _) := hnw
                        have hrow2 : wr.cell? ⟨G, t, none⟩ = some (.pointer (some ⟨wN.heap.size + 1, 0, none⟩)) := hrow
                        have hwt2 : wr.cell? ⟨wg, t, none⟩ = some (.int .i64 (-1)) := hwt
                        clear hnode hnw hg hgi hsn hrow hwt hix hbel
                        go_wp2_with fail
                        refine (get25 (wN.heap.size + 1) _ _ _ _ _ _ _ _ _ wr HNode.out).mono ?_
                        rintro e w' ⟨rfl, hw⟩
                        subst w'
                        go_wp2
                        go_roundw
                        case rel => exact ⟨t + 1, by omega, by go_num, (fun _ => rfl), HBl.out⟩
                        case measure => simp [intOf]; omega
                      | some i =>
                        have hin := HLt.out i (List.mem_of_getElem? hgi)
                        have hcbi : cb[i]? = some (cb.getD i 0) := by rw [List.getD_eq_getElem?_getD, List.getElem?_eq_getElem (by rw [HCb.out]; exact hin)]; rfl
                        obtain ⟨_, ch, ix, hnode, _⟩ := HPut.out.kid i _ hcbi
                        have hor := below_cell hbel (HOr.out i _ hcbi)
                        have hnw := below_heap hbel hnode
                        have hixe : ix = .int .i64 t := by
                          have h1 : wr.cell? ⟨cb.getD i 0, 7, none⟩ = some ix := cell_of_row wr _ 7 _ 71 (0, 0) hnw
                          have h2 : wr.cell? ⟨cb.getD i 0, 7, none⟩ = some (.int .i64 t) := hix
                          rw [h1] at h2; injection h2
                        subst hixe
                        have HNode : Hid (_ = _) := hnw
                        have HNodeD : Hid (∀ nd, (wr.drewN nd).heap[cb.getD i 0]? = _) := fun nd => below_heap (below_drewN (Below.refl _ wr) nd) hnw
                        have hrow2 : wr.cell? ⟨G, t, none⟩ = some (.pointer (some ⟨cb.getD i 0, 0, none⟩)) := hrow
                        have hor2 : wr.cell? ⟨z.O, i, none⟩ = some (.pointer (some ⟨cb.getD i 0, 0, none⟩)) := hor
                        have hwt2 : wr.cell? ⟨wg, t, none⟩ = some (.int .i64 (i : Int)) := hwt
                        have HSN : Hid (none ∈ gi.take (t + 1) → none ∈ gi.take t) := by intro h; rw [hsn] at h; simpa using h
                        have hi0 : ¬ ((i : Int) < 0) := by omega
                        have hik : (i : Int) < (k : Int) := by omega
                        clear hnode hnw hg hgi hsn hrow hwt hix hbel hor hcbi
                        generalize cb.getD i 0 = b at *
                        unfold ptr at HNode HNodeD
                        have hne := neq_same
                        go_wp2_with fail
                        refine (get25 b _ _ _ _ _ _ _ _ _ wr HNode.out).mono ?_
                        rintro e w' ⟨rfl, hw⟩
                        subst w'
                        go_wp2
                        go_quiet ((go_at_call 26; exact Calls.quiet_of_same (get26 b _ _ _ _ _ _ _ _ _ _ (by first | exact HNode.out | exact HNodeD.out _))))
                        have HBl2 : Hid (Below wP.heap.size wP (wr.drewN nq)) := below_drewN HBl.out _
                        go_wp2
                        go_roundw
                        case rel => exact ⟨t + 1, by omega, by go_num, (fun h => HHd.out (HSN.out h)), HBl2.out⟩
                        case measure => simp [intOf]; omega
                    · have e : t = g.length := by omega
                      subst e
                      have hhe := HHd.out (by
                        rw [← HGL.out, List.take_length]
                        exact HNone.out)
                      subst hhe
                      clear hbel HHd
                      go_wp2
                      have HCl : Hid (chn.length = n5) := by have := HPut.out.clen; show chn.length = n5; omega
                      have HH0 : Hid (chn.getD 0 0 = wN.heap.size + 1) := by show chn.getD 0 0 = _; rw [List.getD_eq_getElem?_getD, HPut.out.hd]; rfl
                      go_loopw [36, 37, 38] (fun nd u i wx => ∃ t : Nat, t ≤ n5 ∧ i = .int .i64 t ∧ (t < n5 → nd = .pointer (some ⟨chn.getD t 0, 0, none⟩) ∧ u = up z.P chn t) ∧ Below wP.heap.size wP wx) (fun _ _ i _ => n5 - (intOf i).toNat)
                      case atStart => exact ⟨0, Nat.zero_le _, rfl, (fun _ => ⟨by rw [HH0.out], rfl⟩), HBl.out⟩
                      case round =>
                        clear HBl
                        obtain ⟨t, ht, rfl, hnu, hbel⟩ := hrel
                        have HBl : Hid (Below wP.heap.size wP wr) := hbel
                        by_cases hlt6 : t < n5
                        · obtain ⟨hnd, hu⟩ := hnu hlt6
                          subst hnd hu
                          have hlt6' : (t : Int) < (n5 : Int) := by omega
                          have hct : chn[t]? = some (chn.getD t 0) := by rw [List.getD_eq_getElem?_getD, List.getElem?_eq_getElem (by rw [HCl.out]; exact hlt6)]; rfl
                          obtain ⟨ch, ix, hnode, hdown⟩ := HPut.out.chain t _ hct
                          have hnw := below_heap hbel hnode
                          obtain ⟨bd2, fd2, x5, ea5, hc5, HX5⟩ := V5P.out.at t hlt6
                          have hc5w := below_cell hbel hc5
                          have E5 : Hid (atS l5 t = x5) := HX5.out
                          obtain ⟨rfl, rfl⟩ : bd = bd2 ∧ fd = fd2 := by
                            injection ea5 with ea5; injection ea5 with ea6 ea7; exact ⟨ea6, ea7⟩
                          have e5 := E5.out
                          rw [e5] at hnw
                          have V6w : Hid (∀ nd, SV encStr (wr.drewN nd) b6 n6 n6 l6) := fun nd => (V6P.out.below hbel).drewN nd
                          obtain ⟨upv, hup⟩ : ∃ p, up z.P chn t = .pointer (some p) := by cases t <;> exact ⟨_, rfl⟩
                          rw [hup] at hnw
                          rw [hup]
                          have HNode : Hid (_ = _) := hnw
                          have HNodeD : Hid (∀ nd, (wr.drewN nd).heap[chn.getD t 0]? = _) := fun nd => below_heap (below_drewN (Below.refl _ wr) nd) hnw
                          have hdnw : Down wr chn[t + 1]? ch := by
                            rcases hdown with hd | ⟨b2, r, q1, q2, q3⟩
                            · exact .inl hd
                            · exact .inr ⟨b2, r, q1, q2, below_heap hbel q3⟩
                          have hne := neq_same
                          clear hnode hnw hc5 ea5 hdown hbel hnu HX5 e5
                          generalize hbb : chn.getD t 0 = b at *
                          go_wp2
                          go_quiet (first
                            | (go_at_call 27; exact Calls.quiet_of_same (get27 b _ _ _ _ _ _ _ _ _ _ (HNodeD.out _)))
                            | (go_at_call 28; exact Calls.quiet_of_same (get28 b _ _ _ _ _ _ _ _ _ _ (HNodeD.out _)))
                            | (go_at_call 29; exact Calls.quiet_of_same (get29 b _ _ _ _ _ _ _ _ _ _ (HNodeD.out _)))
                            | (go_at_call 18; exact Calls.quiet_of_same (atS_any _ _ _ l6 t _ (V6w.out _))))
                          have HB2 : Hid (Below wP.heap.size wP (wr.drewN nq)) := below_drewN HBl.out _
                          go_wp2_with fail
                          refine (get30 b _ _ _ _ _ _ _ _ _ _ (HNodeD.out nq)).mono ?_
                          rintro e w' ⟨rfl, hw⟩
                          subst w'
                          go_wp2_with fail
                          refine (get31 b _ _ _ _ _ _ _ _ _ _ (HNodeD.out nq)).mono ?_
                          rintro e w' ⟨rfl, hw⟩
                          subst w'
                          go_wp2_with fail
                          refine (get26 b _ _ _ _ _ _ _ _ _ _ (HNodeD.out nq)).mono ?_
                          rintro e w' ⟨rfl, hw⟩
                          subst w'
                          go_wp2_with fail
                          refine (get24 b _ _ _ _ _ _ _ _ _ _ (HNodeD.out nq)).mono ?_
                          rintro e w' ⟨rfl, hw⟩
                          subst w'
                          by_cases hlast : t + 1 = n5
                          · have hbl : b = lb := by
                              have h1 := HLb.out
                              rw [show n5 - 1 = t by omega, hct] at h1
                              injection h1
                            subst hbl
                            have hq1 : ((t : Int) == (n5 : Int) - 1) = true := by rw [beq_iff_eq]; omega
                            have hch : ch = .slice none 0 0 := by
                              rcases hdnw with ⟨_, h⟩ | ⟨b2, r, q1, _⟩
                              · exact h
                              · have := (List.getElem?_eq_some_iff.1 q1).1
                                rw [HCl.out] at this
                                omega
                            subst hch
                            clear hdnw hct hbb
                            go_wp2
                            go_roundw
                            case rel => exact ⟨t + 1, by omega, by go_num, (fun h => absurd h (by omega)), HB2.out⟩
                            case measure => simp [intOf]; omega
                          · have hq1 : ((t : Int) == (n5 : Int) - 1) = false := by rw [beq_eq_false_iff_ne]; omega
                            rcases hdnw with ⟨h, _⟩ | ⟨b2, r, q1, q2, q3⟩
                            · rw [List.getElem?_eq_getElem (by rw [HCl.out]; omega)] at h
                              cases h
                            · subst q2
                              have hrc : wr.cell? ⟨r, 0, none⟩ = some (.pointer (some ⟨b2, 0, none⟩)) := by rw [cell_of_row wr r 0 _ 35 (0, 0) q3]; rfl
                              have HN1 : Hid (chn.getD (t + 1) 0 = b2) := by show chn.getD (t + 1) 0 = b2; rw [List.getD_eq_getElem?_getD, q1]; rfl
                              have HN0 : Hid (chn.getD t 0 = b) := hbb
                              clear q1 q3 hct hbb
                              go_wp2
                              go_roundw
                              case rel => exact ⟨t + 1, by omega, by go_num, (fun _ => ⟨by rw [HN1.out], by show _ = ptr (chn.getD t 0); rw [HN0.out]; rfl⟩), HB2.out⟩
                              case measure => simp [intOf]; omega
                        · have e : t = n5 := by omega
                          subst e
                          have HWt : Hid (_ = _) := below_heap hbel HPut.out.wt
                          clear hnu hbel
                          go_wp2_with fail
                          refine (get32 ww.heap.size _ _ _ wr HWt.out).mono ?_
                          rintro e w' ⟨rfl, hw⟩
                          subst w'
                          go_wp2
                          go_loopw [41] (fun i wx => ∃ t : Nat, t ≤ k ∧ i = .int .i64 t ∧ Below wP.heap.size wP wx) (fun i _ => k - (intOf i).toNat)
                          case atStart => exact ⟨0, Nat.zero_le _, rfl, HBl.out⟩
                          case round =>
                            clear HBl HWt
                            obtain ⟨t, ht, rfl, hbel⟩ := hrel
                            have HBl : Hid (Below wP.heap.size wP wr) := hbel
                            by_cases hlt7 : t < k
                            · have hlt7' : (t : Int) < (k : Int) := by omega
                              have hcbt : cb[t]? = some (cb.getD t 0) := by rw [List.getD_eq_getElem?_getD, List.getElem?_eq_getElem (by rw [HCb.out]; exact hlt7)]; rfl
                              have hk1 := below_cell hbel (HKr.out t _ hcbt)
                              have hk2 := below_cell hbel (HOr.out t _ hcbt)
                              have hne := neq_same
                              unfold ptr at hk1 hk2
                              clear hbel hcbt
                              generalize cb.getD t 0 = b at *
                              go_wp2
                              go_quiet (fail)
                              have HB2 : Hid (Below wP.heap.size wP (wr.drewN nq)) := below_drewN HBl.out _
                              go_wp2
                              go_roundw
                              case rel => exact ⟨t + 1, by omega, by go_num, HB2.out⟩
                              case measure => simp [intOf]; omega
                            · have e : t = k := by omega
                              subst e
                              clear hbel
                              go_wp2
                              go_ret
                              exact ⟨rfl, bt HEnd.out HBl.out⟩

set_option maxHeartbeats 4000000 in
set_option maxRecDepth 100000 in
theorem splices_walk (a0 a1 a2 a3 a5 a6 : Option Addr) (n0 n1 n2 n3 n5 n6 c0 c1 c2 c3 c5 c6 : Nat) (l0 l3 : List Bool) (l1 l2 l5 l6 : List Tx) (base : Int) (w : World)
    (h0 : SV Value.bool w a0 n0 c0 l0) (h1 : SV encStr w a1 n1 c1 l1) (h2 : SV encStr w a2 n2 c2 l2) (h3 : SV Value.bool w a3 n3 c3 l3) (h5 : SV encStr w a5 n5 c5 l5) (h6 : SV encStr w a6 n6 c6 l6) :
    Calls Try.prog 6 #[.slice a0 n0 c0, .slice a1 n1 c1, .slice a2 n2 c2, .slice a3 n3 c3, .int .i64 base, .slice a5 n5 c5, .slice a6 n6 c6] w fun e w' => e = .returned (.bool true) ∧ Below w.heap.size w w' := by
  by_cases g0 : (65536 : Int) < (n0 : Int)
  · have e0 : decide ((65536 : Int) < (n0 : Int)) = true := decide_eq_true g0
    have A0 : Hid (SV Value.bool w a0 n0 c0 l0) := h0
    have A1 : Hid (SV encStr w a1 n1 c1 l1) := h1
    have A2 : Hid (SV encStr w a2 n2 c2 l2) := h2
    have A3 : Hid (SV Value.bool w a3 n3 c3 l3) := h3
    have A5 : Hid (SV encStr w a5 n5 c5 l5) := h5
    have A6 : Hid (SV encStr w a6 n6 c6 l6) := h6
    clear h0 h1 h2 h3 h5 h6
    go_enter Try.func6, Try.ntmps6
    go_wp2_with fail
    refine (bytes14_any _ _ _ _ _ _ _ _ _ _ _ _ _ _ _ _ _ _ _ _ _ _ _ w A1.out A2.out A5.out A6.out).mono ?_
    rintro e w' ⟨⟨r, rfl⟩, hw⟩
    subst w'
    cases r with
    | false => go_wp2; go_ret; exact ⟨rfl, Below.refl _ _⟩
    | true =>
    go_wp2_with fail
    refine (treeBytes_any _ _ _ _ _ _ _ _ _ _ _ _ _ _ _ _ _ _ _ _ _ _ w A1.out A2.out A5.out A6.out).mono ?_
    rintro e w' ⟨⟨x, rfl⟩, hw⟩
    subst w'
    by_cases hx : (1048576 : Int) < x
    · go_wp2; go_ret; exact ⟨rfl, Below.refl _ _⟩
    · go_wp2; go_ret; exact ⟨rfl, Below.refl _ _⟩
  have e0 : decide ((65536 : Int) < (n0 : Int)) = false := decide_eq_false g0
  by_cases g1 : (65536 : Int) < (n1 : Int)
  · have e1 : decide ((65536 : Int) < (n1 : Int)) = true := decide_eq_true g1
    have A0 : Hid (SV Value.bool w a0 n0 c0 l0) := h0
    have A1 : Hid (SV encStr w a1 n1 c1 l1) := h1
    have A2 : Hid (SV encStr w a2 n2 c2 l2) := h2
    have A3 : Hid (SV Value.bool w a3 n3 c3 l3) := h3
    have A5 : Hid (SV encStr w a5 n5 c5 l5) := h5
    have A6 : Hid (SV encStr w a6 n6 c6 l6) := h6
    clear h0 h1 h2 h3 h5 h6
    go_enter Try.func6, Try.ntmps6
    go_wp2_with fail
    refine (bytes14_any _ _ _ _ _ _ _ _ _ _ _ _ _ _ _ _ _ _ _ _ _ _ _ w A1.out A2.out A5.out A6.out).mono ?_
    rintro e w' ⟨⟨r, rfl⟩, hw⟩
    subst w'
    cases r with
    | false => go_wp2; go_ret; exact ⟨rfl, Below.refl _ _⟩
    | true =>
    go_wp2_with fail
    refine (treeBytes_any _ _ _ _ _ _ _ _ _ _ _ _ _ _ _ _ _ _ _ _ _ _ w A1.out A2.out A5.out A6.out).mono ?_
    rintro e w' ⟨⟨x, rfl⟩, hw⟩
    subst w'
    by_cases hx : (1048576 : Int) < x
    · go_wp2; go_ret; exact ⟨rfl, Below.refl _ _⟩
    · go_wp2; go_ret; exact ⟨rfl, Below.refl _ _⟩
  have e1 : decide ((65536 : Int) < (n1 : Int)) = false := decide_eq_false g1
  by_cases g2 : (65536 : Int) < (n2 : Int)
  · have e2 : decide ((65536 : Int) < (n2 : Int)) = true := decide_eq_true g2
    have A0 : Hid (SV Value.bool w a0 n0 c0 l0) := h0
    have A1 : Hid (SV encStr w a1 n1 c1 l1) := h1
    have A2 : Hid (SV encStr w a2 n2 c2 l2) := h2
    have A3 : Hid (SV Value.bool w a3 n3 c3 l3) := h3
    have A5 : Hid (SV encStr w a5 n5 c5 l5) := h5
    have A6 : Hid (SV encStr w a6 n6 c6 l6) := h6
    clear h0 h1 h2 h3 h5 h6
    go_enter Try.func6, Try.ntmps6
    go_wp2_with fail
    refine (bytes14_any _ _ _ _ _ _ _ _ _ _ _ _ _ _ _ _ _ _ _ _ _ _ _ w A1.out A2.out A5.out A6.out).mono ?_
    rintro e w' ⟨⟨r, rfl⟩, hw⟩
    subst w'
    cases r with
    | false => go_wp2; go_ret; exact ⟨rfl, Below.refl _ _⟩
    | true =>
    go_wp2_with fail
    refine (treeBytes_any _ _ _ _ _ _ _ _ _ _ _ _ _ _ _ _ _ _ _ _ _ _ w A1.out A2.out A5.out A6.out).mono ?_
    rintro e w' ⟨⟨x, rfl⟩, hw⟩
    subst w'
    by_cases hx : (1048576 : Int) < x
    · go_wp2; go_ret; exact ⟨rfl, Below.refl _ _⟩
    · go_wp2; go_ret; exact ⟨rfl, Below.refl _ _⟩
  have e2 : decide ((65536 : Int) < (n2 : Int)) = false := decide_eq_false g2
  by_cases g3 : (65536 : Int) < (n3 : Int)
  · have e3 : decide ((65536 : Int) < (n3 : Int)) = true := decide_eq_true g3
    have A0 : Hid (SV Value.bool w a0 n0 c0 l0) := h0
    have A1 : Hid (SV encStr w a1 n1 c1 l1) := h1
    have A2 : Hid (SV encStr w a2 n2 c2 l2) := h2
    have A3 : Hid (SV Value.bool w a3 n3 c3 l3) := h3
    have A5 : Hid (SV encStr w a5 n5 c5 l5) := h5
    have A6 : Hid (SV encStr w a6 n6 c6 l6) := h6
    clear h0 h1 h2 h3 h5 h6
    go_enter Try.func6, Try.ntmps6
    go_wp2_with fail
    refine (bytes14_any _ _ _ _ _ _ _ _ _ _ _ _ _ _ _ _ _ _ _ _ _ _ _ w A1.out A2.out A5.out A6.out).mono ?_
    rintro e w' ⟨⟨r, rfl⟩, hw⟩
    subst w'
    cases r with
    | false => go_wp2; go_ret; exact ⟨rfl, Below.refl _ _⟩
    | true =>
    go_wp2_with fail
    refine (treeBytes_any _ _ _ _ _ _ _ _ _ _ _ _ _ _ _ _ _ _ _ _ _ _ w A1.out A2.out A5.out A6.out).mono ?_
    rintro e w' ⟨⟨x, rfl⟩, hw⟩
    subst w'
    by_cases hx : (1048576 : Int) < x
    · go_wp2; go_ret; exact ⟨rfl, Below.refl _ _⟩
    · go_wp2; go_ret; exact ⟨rfl, Below.refl _ _⟩
  have e3 : decide ((65536 : Int) < (n3 : Int)) = false := decide_eq_false g3
  by_cases g4 : (65536 : Int) < (n5 : Int)
  · have e4 : decide ((65536 : Int) < (n5 : Int)) = true := decide_eq_true g4
    have A0 : Hid (SV Value.bool w a0 n0 c0 l0) := h0
    have A1 : Hid (SV encStr w a1 n1 c1 l1) := h1
    have A2 : Hid (SV encStr w a2 n2 c2 l2) := h2
    have A3 : Hid (SV Value.bool w a3 n3 c3 l3) := h3
    have A5 : Hid (SV encStr w a5 n5 c5 l5) := h5
    have A6 : Hid (SV encStr w a6 n6 c6 l6) := h6
    clear h0 h1 h2 h3 h5 h6
    go_enter Try.func6, Try.ntmps6
    go_wp2_with fail
    refine (bytes14_any _ _ _ _ _ _ _ _ _ _ _ _ _ _ _ _ _ _ _ _ _ _ _ w A1.out A2.out A5.out A6.out).mono ?_
    rintro e w' ⟨⟨r, rfl⟩, hw⟩
    subst w'
    cases r with
    | false => go_wp2; go_ret; exact ⟨rfl, Below.refl _ _⟩
    | true =>
    go_wp2_with fail
    refine (treeBytes_any _ _ _ _ _ _ _ _ _ _ _ _ _ _ _ _ _ _ _ _ _ _ w A1.out A2.out A5.out A6.out).mono ?_
    rintro e w' ⟨⟨x, rfl⟩, hw⟩
    subst w'
    by_cases hx : (1048576 : Int) < x
    · go_wp2; go_ret; exact ⟨rfl, Below.refl _ _⟩
    · go_wp2; go_ret; exact ⟨rfl, Below.refl _ _⟩
  have e4 : decide ((65536 : Int) < (n5 : Int)) = false := decide_eq_false g4
  by_cases g5 : (65536 : Int) < (n6 : Int)
  · have e5 : decide ((65536 : Int) < (n6 : Int)) = true := decide_eq_true g5
    have A0 : Hid (SV Value.bool w a0 n0 c0 l0) := h0
    have A1 : Hid (SV encStr w a1 n1 c1 l1) := h1
    have A2 : Hid (SV encStr w a2 n2 c2 l2) := h2
    have A3 : Hid (SV Value.bool w a3 n3 c3 l3) := h3
    have A5 : Hid (SV encStr w a5 n5 c5 l5) := h5
    have A6 : Hid (SV encStr w a6 n6 c6 l6) := h6
    clear h0 h1 h2 h3 h5 h6
    go_enter Try.func6, Try.ntmps6
    go_wp2_with fail
    refine (bytes14_any _ _ _ _ _ _ _ _ _ _ _ _ _ _ _ _ _ _ _ _ _ _ _ w A1.out A2.out A5.out A6.out).mono ?_
    rintro e w' ⟨⟨r, rfl⟩, hw⟩
    subst w'
    cases r with
    | false => go_wp2; go_ret; exact ⟨rfl, Below.refl _ _⟩
    | true =>
    go_wp2_with fail
    refine (treeBytes_any _ _ _ _ _ _ _ _ _ _ _ _ _ _ _ _ _ _ _ _ _ _ w A1.out A2.out A5.out A6.out).mono ?_
    rintro e w' ⟨⟨x, rfl⟩, hw⟩
    subst w'
    by_cases hx : (1048576 : Int) < x
    · go_wp2; go_ret; exact ⟨rfl, Below.refl _ _⟩
    · go_wp2; go_ret; exact ⟨rfl, Below.refl _ _⟩
  have e5 : decide ((65536 : Int) < (n6 : Int)) = false := decide_eq_false g5
  by_cases g6 : base < 0
  · have e6 : decide (base < 0) = true := decide_eq_true g6
    have A0 : Hid (SV Value.bool w a0 n0 c0 l0) := h0
    have A1 : Hid (SV encStr w a1 n1 c1 l1) := h1
    have A2 : Hid (SV encStr w a2 n2 c2 l2) := h2
    have A3 : Hid (SV Value.bool w a3 n3 c3 l3) := h3
    have A5 : Hid (SV encStr w a5 n5 c5 l5) := h5
    have A6 : Hid (SV encStr w a6 n6 c6 l6) := h6
    clear h0 h1 h2 h3 h5 h6
    go_enter Try.func6, Try.ntmps6
    go_wp2_with fail
    refine (bytes14_any _ _ _ _ _ _ _ _ _ _ _ _ _ _ _ _ _ _ _ _ _ _ _ w A1.out A2.out A5.out A6.out).mono ?_
    rintro e w' ⟨⟨r, rfl⟩, hw⟩
    subst w'
    cases r with
    | false => go_wp2; go_ret; exact ⟨rfl, Below.refl _ _⟩
    | true =>
    go_wp2_with fail
    refine (treeBytes_any _ _ _ _ _ _ _ _ _ _ _ _ _ _ _ _ _ _ _ _ _ _ w A1.out A2.out A5.out A6.out).mono ?_
    rintro e w' ⟨⟨x, rfl⟩, hw⟩
    subst w'
    by_cases hx : (1048576 : Int) < x
    · go_wp2; go_ret; exact ⟨rfl, Below.refl _ _⟩
    · go_wp2; go_ret; exact ⟨rfl, Below.refl _ _⟩
  have e6 : decide (base < 0) = false := decide_eq_false g6
  by_cases g7 : (1073741824 : Int) < base
  · have e7 : decide ((1073741824 : Int) < base) = true := decide_eq_true g7
    have A0 : Hid (SV Value.bool w a0 n0 c0 l0) := h0
    have A1 : Hid (SV encStr w a1 n1 c1 l1) := h1
    have A2 : Hid (SV encStr w a2 n2 c2 l2) := h2
    have A3 : Hid (SV Value.bool w a3 n3 c3 l3) := h3
    have A5 : Hid (SV encStr w a5 n5 c5 l5) := h5
    have A6 : Hid (SV encStr w a6 n6 c6 l6) := h6
    clear h0 h1 h2 h3 h5 h6
    go_enter Try.func6, Try.ntmps6
    go_wp2_with fail
    refine (bytes14_any _ _ _ _ _ _ _ _ _ _ _ _ _ _ _ _ _ _ _ _ _ _ _ w A1.out A2.out A5.out A6.out).mono ?_
    rintro e w' ⟨⟨r, rfl⟩, hw⟩
    subst w'
    cases r with
    | false => go_wp2; go_ret; exact ⟨rfl, Below.refl _ _⟩
    | true =>
    go_wp2_with fail
    refine (treeBytes_any _ _ _ _ _ _ _ _ _ _ _ _ _ _ _ _ _ _ _ _ _ _ w A1.out A2.out A5.out A6.out).mono ?_
    rintro e w' ⟨⟨x, rfl⟩, hw⟩
    subst w'
    by_cases hx : (1048576 : Int) < x
    · go_wp2; go_ret; exact ⟨rfl, Below.refl _ _⟩
    · go_wp2; go_ret; exact ⟨rfl, Below.refl _ _⟩
  have e7 : decide ((1073741824 : Int) < base) = false := decide_eq_false g7
  by_cases g8 : (n5 : Int) = 0
  · have e8 : ((n5 : Int) == 0) = true := by simp [g8]
    have A0 : Hid (SV Value.bool w a0 n0 c0 l0) := h0
    have A1 : Hid (SV encStr w a1 n1 c1 l1) := h1
    have A2 : Hid (SV encStr w a2 n2 c2 l2) := h2
    have A3 : Hid (SV Value.bool w a3 n3 c3 l3) := h3
    have A5 : Hid (SV encStr w a5 n5 c5 l5) := h5
    have A6 : Hid (SV encStr w a6 n6 c6 l6) := h6
    clear h0 h1 h2 h3 h5 h6
    go_enter Try.func6, Try.ntmps6
    go_wp2_with fail
    refine (bytes14_any _ _ _ _ _ _ _ _ _ _ _ _ _ _ _ _ _ _ _ _ _ _ _ w A1.out A2.out A5.out A6.out).mono ?_
    rintro e w' ⟨⟨r, rfl⟩, hw⟩
    subst w'
    cases r with
    | false => go_wp2; go_ret; exact ⟨rfl, Below.refl _ _⟩
    | true =>
    go_wp2_with fail
    refine (treeBytes_any _ _ _ _ _ _ _ _ _ _ _ _ _ _ _ _ _ _ _ _ _ _ w A1.out A2.out A5.out A6.out).mono ?_
    rintro e w' ⟨⟨x, rfl⟩, hw⟩
    subst w'
    by_cases hx : (1048576 : Int) < x
    · go_wp2; go_ret; exact ⟨rfl, Below.refl _ _⟩
    · go_wp2; go_ret; exact ⟨rfl, Below.refl _ _⟩
  exact splices_main a0 a1 a2 a3 a5 a6 n0 n1 n2 n3 n5 n6 c0 c1 c2 c3 c5 c6 l0 l3 l1 l2 l5 l6 base w h0 h1 h2 h3 h5 h6 (by omega) (by omega) (by omega) (by omega) (by omega) (by omega) (by omega) (by omega) (by omega)

end Go.Proofs.Qxb6600222a
