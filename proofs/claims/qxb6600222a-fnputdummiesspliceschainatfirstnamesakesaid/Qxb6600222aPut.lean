import Derived.Test.Qxb6600222aChain
namespace Go.Proofs.Qxb6600222a
open Go.RowKit

set_option maxHeartbeats 4000000 in
set_option maxRecDepth 100000 in
theorem put_any (v : World) (z : Pl) (n : Nat) (q : TreeQ) (cb : List Nat) (T D m : Nat) (dm dl : Nat → Tx) (s : Nat) (hS : Stage v z n q cb T D (m + 1) dm dl s) (hn : n ≤ 65536) (hm : m + 1 ≤ 65536) (hb0 : 0 ≤ q.base) (hb1 : q.base ≤ 1073741824) :
    Calls Try.prog 43 #[ptr T, ptr z.P, .slice (some ⟨D, 0, none⟩) (m + 1) (m + 1)] v fun e W => ∃ chn lb G cap, e = .returned (ptr lb) ∧ chn[m]? = some lb ∧ Put v W z n q cb T m dm dl (got (sake q (dm 0) (dl 0)) cb (v.heap.size + 1) n) (hord (sake q (dm 0) (dl 0)) q n) chn G cap := by
  have HS : Hid (Stage v z n q cb T D (m + 1) dm dl s) := hS
  have hmx : m + 1 ≤ maxLen := by unfold maxLen; omega
  have hd0 : v.cell? ⟨D, 0, none⟩ = some (encStr (dm 0)) := by
    obtain ⟨cur, h1, h2, h3⟩ := hS.names
    rw [cell_of_row v D 0 _ 68 (0, 0) h1]; exact (h3 0 (by omega)).1
  have hd1 : v.cell? ⟨D, 1, none⟩ = some (encStr (dl 0)) := by
    obtain ⟨cur, h1, h2, h3⟩ := hS.names
    rw [cell_of_row v D 1 _ 68 (0, 0) h1]; exact (h3 0 (by omega)).2
  have ht2 : v.cell? ⟨T, 2, none⟩ = some (.slice none 0 0) := cell_of_row v T 2 _ 65 (0, 0) hS.wt
  have hp6 : v.cell? ⟨z.P, 6, none⟩ = some (.slice (some ⟨z.K, 0, none⟩) n n) := cell_of_row v z.P 6 _ 71 (0, 0) hS.par
  generalize ed0 : dm 0 = d0 at hd0 ⊢
  generalize el0 : dl 0 = e0 at hd1 ⊢
  have ED : Hid (dm 0 = d0) := ed0
  have EL : Hid (dl 0 = e0) := el0
  have hL := l1_start v (encStr d0) (encStr e0) (headObj d0 e0 z.P 0)
  have HL : Hid (L1 v _ _ _ _ _) := hL
  have ht2' := below_cell hL.bel ht2
  have hp6' := below_cell hL.bel hp6
  clear hS ed0 el0 hL
  unfold ptr at *
  unfold headObj at *
  unfold ptr at *
  go_enter Try.func43, Try.ntmps43
  go_wp2
  go_loopw [9, 10, 39] (fun cv pb i wr => ∃ k : Nat, k ≤ n ∧ i = .int .i64 k ∧ pb = .bool (pl (sake q d0 e0) k) ∧ L1 v wr (headObj d0 e0 z.P (ho (sake q d0 e0) q k)) (.cells #[encStr d0, encStr e0] 68 (0, 0)) cv (spl (sake q d0 e0) cb (v.heap.size + 1) k)) (fun _ _ i _ => n - (intOf i).toNat)
  case atStart => exact ⟨0, Nat.zero_le _, rfl, rfl, HL.out⟩
  case round =>
    clear HL ht2' hp6'
    obtain ⟨k, hk, rfl, rfl, hL⟩ := hrel
    have HL : Hid (L1 v wr _ _ _ _) := hL
    by_cases hlt : k < n
    · have hcb : cb[k]? = some (cb.getD k 0) := by rw [List.getD_eq_getElem?_getD, List.getElem?_eq_getElem (by rw [HS.out.len]; exact hlt)]; rfl
      have hkc := below_cell hL.bel (HS.out.kids.cell hcb)
      have hK := HS.out.kid k _ hcb
      have hlt' : (k : Int) < (n : Int) := by omega
      have hob := q.ord_bound k
      have hh8 : wr.cell? ⟨v.heap.size + 1, 8, none⟩ = some _ := cell_of_row wr _ 8 _ 71 (0, 0) hL.head
      have hhf : wr.frozen? ⟨v.heap.size + 1, 8, none⟩ = false := frozen_of_row wr _ 8 _ 71 hL.head
      have hf0 : wr.cell? ⟨v.heap.size, 0, none⟩ = some (encStr d0) := cell_of_row wr _ 0 _ 68 (0, 0) hL.fst
      have hf1 : wr.cell? ⟨v.heap.size, 1, none⟩ = some (encStr e0) := cell_of_row wr _ 1 _ 68 (0, 0) hL.fst
      obtain ⟨hlow, ch, ix, hkb, hsub⟩ := hK
      have hkw := below_heap hL.bel hkb
      generalize cb.getD k 0 = b at hkc hkw hcb
      have hb0' : wr.cell? ⟨b, 0, none⟩ = some _ := cell_of_row wr b 0 _ 71 (0, 0) hkw
      have hb2' : wr.cell? ⟨b, 2, none⟩ = some _ := cell_of_row wr b 2 _ 71 (0, 0) hkw
      have hb3' : wr.cell? ⟨b, 3, none⟩ = some _ := cell_of_row wr b 3 _ 71 (0, 0) hkw
      have hb8' : wr.cell? ⟨b, 8, none⟩ = some _ := cell_of_row wr b 8 _ 71 (0, 0) hkw
      clear hsub hkw hkb hL
      have HCB : Hid (cb[k]? = some b) := hcb
      have HSK : Hid (sake q d0 e0 k = (q.el k && (q.md k == d0) && (q.nm k == e0))) := rfl
      have HSP : Hid (spl (sake q d0 e0) cb (v.heap.size + 1) (k + 1) = spl (sake q d0 e0) cb (v.heap.size + 1) k ++ (if sake q d0 e0 k then (if pl (sake q d0 e0) k then [] else [v.heap.size + 1]) else [cb.getD k 0])) := rfl
      have HPL : Hid (pl (sake q d0 e0) (k + 1) = (pl (sake q d0 e0) k || sake q d0 e0 k)) := rfl
      have HHO : Hid (ho (sake q d0 e0) q (k + 1) = if sake q d0 e0 k && !pl (sake q d0 e0) k then q.ord k - 1 else ho (sake q d0 e0) q k) := rfl
      have HLn : Hid ((spl (sake q d0 e0) cb (v.heap.size + 1) k).length ≤ 65537) := by have := spl_len (sake q d0 e0) cb (v.heap.size + 1) k; show _ ≤ 65537; omega
      clear hcb
      generalize q.el k = el at *
      generalize q.md k = md at *
      generalize q.nm k = nm at *
      generalize q.ord k = o at *
      generalize spl (sake q d0 e0) cb (v.heap.size + 1) k = l at *
      generalize ho (sake q d0 e0) q k = h at *
      generalize pl (sake q d0 e0) k = pb at *
      generalize sake q d0 e0 k = sk at *
      unfold ptr kindV at *
      have HGB : Hid (cb.getD k 0 = b) := by show cb.getD k 0 = b; rw [List.getD_eq_getElem?_getD, HCB.out]; rfl
      cases el with
      | false =>
        have e1 : sk = false := HSK.out
        subst e1
        go_wp2
        go_quiet (fail)
        have HLd : Hid (L1 v (wr.drewN nq) _ _ u9 l) := HL.out.past (below_drewN (Below.refl _ _) _)
        go_wp2_with (at_builtin; refine app35 v (wr.drewN nq) _ _ u9 l b _ rfl (.tmp 67) (.tmp 69) rfl rfl rfl (by first | rfl | simp) HLd.out (by have := HLn.out; omega) ?_; intro v' w' HLA)
        go_roundw
        case rel => exact ⟨k + 1, by omega, by go_num, by rw [HPL.out]; simp, by rw [HHO.out, HSP.out, HGB.out]; simpa using HLA.out⟩
        case measure => simp [intOf]; omega
      | true =>
        by_cases hmd : md = d0
        · subst hmd
          by_cases hnm : nm = e0
          · subst hnm
            have e1 : sk = true := by rw [HSK.out]; simp
            subst e1
            cases pb with
            | true =>
              go_wp2
              go_quiet (fail)
              have HLd : Hid (L1 v (wr.drewN nq) _ _ u9 l) := HL.out.past (below_drewN (Below.refl _ _) _)
              go_wp2
              go_roundw
              case rel => exact ⟨k + 1, by omega, by go_num, by rw [HPL.out]; simp, by rw [HHO.out, HSP.out]; simpa using HLd.out⟩
              case measure => simp [intOf]; omega
            | false =>
              go_wp2
              go_quiet (fail)
              have HLd : Hid (L1 v ((wr.drewN nq).setCell ⟨v.heap.size + 1, 8, none⟩ (.int .i64 (o - 1))) (headObj md nm z.P (o - 1)) _ u9 l) := (HL.out.past (below_drewN (Below.refl _ _) nq)).setHead (.int .i64 (o - 1))
              go_wp2_with (at_builtin; refine app35 v ((wr.drewN nq).setCell ⟨v.heap.size + 1, 8, none⟩ (.int .i64 (o - 1))) _ _ u9 l (v.heap.size + 1) _ rfl (.tmp 82) (.tmp 84) rfl rfl rfl (by first | rfl | simp) HLd.out (by have := HLn.out; omega) ?_; intro v' w' HLA)
              go_roundw
              case rel => exact ⟨k + 1, by omega, by go_num, by rw [HPL.out]; simp, by rw [HHO.out, HSP.out]; simpa using HLA.out⟩
              case measure => simp [intOf]; omega
          · have e1 : sk = false := by rw [HSK.out]; simp [hnm]
            have hnq : (nm == e0) = false := by simp [hnm]
            subst e1
            go_wp2
            go_quiet (fail)
            have HLd : Hid (L1 v (wr.drewN nq) _ _ u9 l) := HL.out.past (below_drewN (Below.refl _ _) _)
            go_wp2_with (at_builtin; refine app35 v (wr.drewN nq) _ _ u9 l b _ rfl (.tmp 67) (.tmp 69) rfl rfl rfl (by first | rfl | simp) HLd.out (by have := HLn.out; omega) ?_; intro v' w' HLA)
            go_roundw
            case rel => exact ⟨k + 1, by omega, by go_num, by rw [HPL.out]; simp, by rw [HHO.out, HSP.out, HGB.out]; simpa using HLA.out⟩
            case measure => simp [intOf]; omega
        · have e1 : sk = false := by rw [HSK.out]; simp [hmd]
          subst e1
          go_wp2
          go_quiet (fail)
          have HLd : Hid (L1 v (wr.drewN nq) _ _ u9 l) := HL.out.past (below_drewN (Below.refl _ _) _)
          go_wp2_with (at_builtin; refine app35 v (wr.drewN nq) _ _ u9 l b _ rfl (.tmp 67) (.tmp 69) rfl rfl rfl (by first | rfl | simp) HLd.out (by have := HLn.out; omega) ?_; intro v' w' HLA)
          go_roundw
          case rel => exact ⟨k + 1, by omega, by go_num, by rw [HPL.out]; simp, by rw [HHO.out, HSP.out, HGB.out]; simpa using HLA.out⟩
          case measure => simp [intOf]; omega
    · have e : k = n := by omega
      subst e
      have HLe : Hid (L1 v wr (headObj d0 e0 z.P (ho (sake q d0 e0) q k)) (.cells #[encStr d0, encStr e0] 68 (0, 0)) u9 (spl (sake q d0 e0) cb (v.heap.size + 1) k)) := hL
      have HGt : Hid (got (sake q d0 e0) cb (v.heap.size + 1) k = if pl (sake q d0 e0) k then spl (sake q d0 e0) cb (v.heap.size + 1) k else spl (sake q d0 e0) cb (v.heap.size + 1) k ++ [v.heap.size + 1]) := rfl
      have HHo : Hid (hord (sake q d0 e0) q k = if pl (sake q d0 e0) k then ho (sake q d0 e0) q k else q.ord k - 1) := rfl
      have HLn : Hid ((spl (sake q d0 e0) cb (v.heap.size + 1) k).length ≤ 65537) := by have := spl_len (sake q d0 e0) cb (v.heap.size + 1) k; show _ ≤ 65537; omega
      have hd0r := below_cell hL.bel hd0
      have HLst : Hid (Lst wr (q.ord k - 1) s z.P) := HS.out.lst.down hL.bel
      clear hL
      cases hp : pl (sake q d0 e0) k with
      | true =>
        rw [hp] at HGt HHo
        have HL2 : Hid (L2 v wr z.P dm dl (hord (sake q d0 e0) q k) [v.heap.size + 1] u9 (got (sake q d0 e0) cb (v.heap.size + 1) k)) := by
          rw [HGt.out, HHo.out]; exact HLe.out.toL2 ED.out EL.out
        clear HLe HLst HL
        rcases Nat.eq_zero_or_pos m with hm0 | hm0
        · go_wp2
          go_loopw [13, 105] (fun lst i wx => ∃ (j : Nat) (chn : List Nat) (lb : Nat), j ≤ m ∧ i = .int .i64 j ∧ lst = ptr lb ∧ chn.length = j + 1 ∧ chn[j]? = some lb ∧ L2 v wx z.P dm dl (hord (sake q d0 e0) q k) chn u9 (got (sake q d0 e0) cb (v.heap.size + 1) k)) (fun _ i _ => m - (intOf i).toNat)
          case atStart => exact ⟨0, [v.heap.size + 1], v.heap.size + 1, Nat.zero_le _, rfl, rfl, rfl, rfl, HL2.out⟩
          case round =>
            clear HL2
            obtain ⟨j, chn, lb, hj, rfl, rfl, hcl, hlb, hL2⟩ := hrel
            have HL2 : Hid (L2 v wr z.P dm dl _ chn _ _) := hL2
            by_cases hlt2 : j < m
            · exact absurd hlt2 (by omega)
            · have e : j = m := by omega
              subst e
              have hgl : 0 < (got (sake q d0 e0) cb (v.heap.size + 1) k).length := List.length_pos_of_mem (got_has _ _ _ _)
              have hgl2 := got_len (sake q d0 e0) cb (v.heap.size + 1) k
              obtain ⟨G, cap, cur, hcv, hGr, hG2⟩ := row_form hL2.row hgl
              have hT := below_heap hL2.bel HS.out.wt
              have hP := below_heap hL2.bel HS.out.par
              have hT1 : wr.cell? ⟨T, 1, none⟩ = some (.slice none 0 0) := cell_of_row wr T 1 _ 65 (0, 0) hT
              have hT1f : wr.frozen? ⟨T, 1, none⟩ = false := frozen_of_row wr T 1 _ 65 hT
              have hP6 : wr.cell? ⟨z.P, 6, none⟩ = some (.slice (some ⟨z.K, 0, none⟩) k k) := cell_of_row wr z.P 6 _ 71 (0, 0) hP
              subst hcv
              obtain ⟨⟨hT2, hT2f⟩, ⟨hP2, hP2f⟩, hT3, hP3, hO3, hB3⟩ := set3 (.slice (some ⟨G, 0, none⟩) (got (sake q d0 e0) cb (v.heap.size + 1) k).length cap) hT hP
              have ST : Hid (chn.length = j + 1 ∧ chn[j]? = some lb) := ⟨hcl, hlb⟩
              have HT : Hid (_ = _) := hT
              have HP : Hid (_ = _) := hP
              have HGr : Hid (_ = _) := hGr
              have HG2 : Hid (∀ (j b : Nat), _ → _) := hG2
              have HT3 : Hid (_ = _) := hT3
              have HP3 : Hid (_ = _) := hP3
              have HO3 : Hid (∀ (c : Nat) (x : Obj), _ → _) := hO3
              have HB3 : Hid (∀ (B : Nat), _ → _) := hB3
              have HND : Hid ((got (sake q d0 e0) cb (v.heap.size + 1) k).Nodup) := got_nodup _ _ _ _ HS.out.nodup (fun hm => by
                obtain ⟨jj, hjj⟩ := List.mem_iff_getElem?.1 hm
                obtain ⟨_, _, _, h1, _⟩ := HS.out.kid jj _ hjj
                have := lt_of_heap h1
                omega) HS.out.len
              have HGN : Hid (∀ b ∈ got (sake q d0 e0) cb (v.heap.size + 1) k, z.P < b ∧ ∃ kk d m n t p ch ix o, (((wr.setCell ⟨T, 1, none⟩ (.slice (some ⟨z.K, 0, none⟩) k k)).setCell ⟨T, 2, none⟩ (.slice (some ⟨G, 0, none⟩) (got (sake q d0 e0) cb (v.heap.size + 1) k).length cap)).setCell ⟨z.P, 6, none⟩ (.slice (some ⟨G, 0, none⟩) (got (sake q d0 e0) cb (v.heap.size + 1) k).length cap)).heap[b]? = some (.cells #[kk, d, m, n, t, p, ch, ix, o] 71 (0, 0))) := fun b hb => got_node HS.out hL2 hO3 hT b hb
              clear hL2 hcl hlb hT hP hGr hG2 hT3 hP3 hO3 hB3
              generalize eg : got (sake q d0 e0) cb (v.heap.size + 1) k = g at *
              have EG : Hid (got (sake q d0 e0) cb (v.heap.size + 1) k = g) := eg
              clear eg
              unfold ptr
              go_wp2
              clear hm0
              generalize (((wr.setCell ⟨T, 1, none⟩ (.slice (some ⟨z.K, 0, none⟩) k k)).setCell ⟨T, 2, none⟩ (.slice (some ⟨G, 0, none⟩) g.length cap)).setCell ⟨z.P, 6, none⟩ (.slice (some ⟨G, 0, none⟩) g.length cap)) = w3 at *
              go_loopw [148] (fun i wx => ∃ t : Nat, t ≤ g.length ∧ i = .int .i64 t ∧ L3 (min T z.P) w3 wx g t) (fun i _ => g.length - (intOf i).toNat)
              case atStart => exact ⟨0, Nat.zero_le _, rfl, L3.start _ _ _⟩
              case round =>
                obtain ⟨t, ht, rfl, h3⟩ := hrel
                have H3 : Hid (L3 (min T z.P) w3 wr g t) := h3
                by_cases hlt3 : t < g.length
                · have hlt3' : (t : Int) < (g.length : Int) := by omega
                  have hgt : g[t]? = some (g.getD t 0) := by rw [List.getD_eq_getElem?_getD, List.getElem?_eq_getElem hlt3]; rfl
                  generalize g.getD t 0 = b at hgt
                  obtain ⟨hPb, kk, dd, mm, nn, tt, pp, cc, ii, oo, hw⟩ := HGN.out b (List.mem_of_getElem? hgt)
                  obtain ⟨ix', hn'⟩ := h3.node b _ _ _ _ _ _ _ _ _ hw
                  have hc7 : wr.cell? ⟨b, 7, none⟩ = some ix' := cell_of_row wr b 7 _ 71 (0, 0) hn'
                  have hf7 : wr.frozen? ⟨b, 7, none⟩ = false := frozen_of_row wr b 7 _ 71 hn'
                  have hG3 : wr.heap[G]? = some (.cells cur 35 (0, 0)) := h3.other G _ (HO3.out G _ HGr.out (fun e => by have h1 := HGr.out; rw [e, HT.out] at h1; simp at h1) (fun e => by have h1 := HGr.out; rw [e, HP.out] at h1; simp [parObj] at h1)) (fun C e => by simp at e)
                  have hrc : wr.cell? ⟨G, t, none⟩ = some (ptr b) := by rw [cell_of_row wr G t _ 35 (0, 0) hG3]; exact HG2.out t b hgt
                  have HNx : Hid (L3 (min T z.P) w3 (wr.setCell ⟨b, 7, none⟩ (.int .i64 t)) g (t + 1)) := h3.next HND.out hgt hn' (by omega)
                  clear h3 hw hn' hG3 hgt
                  unfold ptr at hrc
                  go_wp2
                  go_roundw
                  case rel => exact ⟨t + 1, by omega, by go_num, HNx.out⟩
                  case measure => simp [intOf]; omega
                · have e : t = g.length := by omega
                  subst e
                  clear h3
                  go_wp2
                  go_ret
                  have eg := EG.out
                  subst eg
                  exact ⟨chn, lb, G, cap, rfl, ST.out.2, put_end HS.out HL2.out ST.out.1 HGr.out HG2.out HO3.out HT.out HP.out HT3.out HP3.out HB3.out rfl H3.out⟩
        · go_wp2
          go_loopw [13, 105] (fun lst i wx => ∃ (j : Nat) (chn : List Nat) (lb : Nat), j ≤ m ∧ i = .int .i64 j ∧ lst = ptr lb ∧ chn.length = j + 1 ∧ chn[j]? = some lb ∧ L2 v wx z.P dm dl (hord (sake q d0 e0) q k) chn u9 (got (sake q d0 e0) cb (v.heap.size + 1) k)) (fun _ i _ => m - (intOf i).toNat)
          case atStart => exact ⟨0, [v.heap.size + 1], v.heap.size + 1, Nat.zero_le _, rfl, rfl, rfl, rfl, HL2.out⟩
          case round =>
            clear HL2
            obtain ⟨j, chn, lb, hj, rfl, rfl, hcl, hlb, hL2⟩ := hrel
            have HL2 : Hid (L2 v wr z.P dm dl _ chn _ _) := hL2
            by_cases hlt2 : j < m
            · have hlt2' : (j : Int) < (m : Int) := by omega
              have hdn : wr.cell? ⟨D, 2 + j * 2, none⟩ = some (encStr (dm (j + 1))) ∧ wr.cell? ⟨D, 2 + j * 2 + 1, none⟩ = some (encStr (dl (j + 1))) := by
                obtain ⟨cur, h1, h2, h3⟩ := HS.out.names
                have := h3 (j + 1) (by omega)
                have e1 : (j + 1) * 2 = 2 + j * 2 := by omega
                rw [e1] at this
                exact ⟨by rw [cell_of_row wr D _ _ 68 (0, 0) (below_heap hL2.bel h1)]; exact this.1, by rw [cell_of_row wr D _ _ 68 (0, 0) (below_heap hL2.bel h1)]; exact this.2⟩
              obtain ⟨hdn1, hdn2⟩ := hdn
              obtain ⟨ch0, ix0, hh1, hh2⟩ := hL2.chain 0 _ hL2.hd
              have hho := cell_of_row wr _ 8 _ 71 (0, 0) hh1
              obtain ⟨ch1, ix1, hl1, hl2⟩ := hL2.chain j _ hlb
              have hlc := cell_of_row wr _ 6 _ 71 (0, 0) hl1
              have hlf := frozen_of_row wr _ 6 _ 71 hl1
              have HLB : Hid (chn.length = j + 1 ∧ chn[j]? = some lb) := ⟨hcl, hlb⟩
              have HHL : Hid (_ = _) := hl1
              clear hh1 hh2 hl1 hl2 hL2 hcl hlb
              generalize edj : dm (j + 1) = dj at hdn1
              generalize eej : dl (j + 1) = ej at hdn2
              have hl6 : ∀ A B C, (((wr.alloc A).alloc B).alloc C).cell? ⟨lb, 6, none⟩ = some ch1 := fun A B C => below_cell (below3 wr A B C) hlc
              have hl7 : ∀ A B C, (((wr.alloc A).alloc B).alloc C).frozen? ⟨lb, 6, none⟩ = false := fun A B C => ((below3 wr A B C).frozen (lt_of_heap HHL.out)).trans hlf
              have HDJ : Hid (dm (j + 1) = dj) := edj
              have HEJ : Hid (dl (j + 1) = ej) := eej
              have hho' : ∀ A, (wr.alloc A).cell? ⟨v.heap.size + 1, 8, none⟩ = some (.int .i64 (hord (sake q d0 e0) q k)) := fun A => below_cell ((Below.refl _ wr).alloc (Nat.le_refl _) A) hho
              unfold ptr
              clear hho hlc hlf edj eej
              go_wp2
              go_region
              go_wp2
              go_roundw
              case rel =>
                obtain ⟨g1, g2, g3, g4⟩ := grow3 wr (.cells #[encStr dj, encStr ej] 68) (.cells #[.int .u8 1, .int .i32 ((j : Int) + 1 + 1), encStr dj, encStr ej, .string ⟨#[]⟩, ptr lb, .slice none 0 0, .int .i64 0, .int .i64 (hord (sake q d0 e0) q k)] 71) (.cells #[ptr (wr.heap.size + 1)] 35) lb (.slice (some ⟨wr.heap.size + 2, 0, none⟩) 1 1) (lt_of_heap HHL.out)
                have hN := HL2.out.push (nb := wr.heap.size + 1) (nr := wr.heap.size + 2) HLB.out.1 HLB.out.2 g1 (by omega) g2 (by rw [HDJ.out, HEJ.out]; exact g3) g4
                refine ⟨j + 1, chn ++ [wr.heap.size + 1], wr.heap.size + 1, by omega, by go_num, rfl, by simp [HLB.out.1], by rw [← HLB.out.1]; simp, ?_⟩
                have e2 : ((j : Int) + 1 + 1) = (j : Int) + 2 := by omega
                rw [e2] at hN
                exact hN.drew
              case measure => simp [intOf]; omega
            · have e : j = m := by omega
              subst e
              have hgl : 0 < (got (sake q d0 e0) cb (v.heap.size + 1) k).length := List.length_pos_of_mem (got_has _ _ _ _)
              have hgl2 := got_len (sake q d0 e0) cb (v.heap.size + 1) k
              obtain ⟨G, cap, cur, hcv, hGr, hG2⟩ := row_form hL2.row hgl
              have hT := below_heap hL2.bel HS.out.wt
              have hP := below_heap hL2.bel HS.out.par
              have hT1 : wr.cell? ⟨T, 1, none⟩ = some (.slice none 0 0) := cell_of_row wr T 1 _ 65 (0, 0) hT
              have hT1f : wr.frozen? ⟨T, 1, none⟩ = false := frozen_of_row wr T 1 _ 65 hT
              have hP6 : wr.cell? ⟨z.P, 6, none⟩ = some (.slice (some ⟨z.K, 0, none⟩) k k) := cell_of_row wr z.P 6 _ 71 (0, 0) hP
              subst hcv
              obtain ⟨⟨hT2, hT2f⟩, ⟨hP2, hP2f⟩, hT3, hP3, hO3, hB3⟩ := set3 (.slice (some ⟨G, 0, none⟩) (got (sake q d0 e0) cb (v.heap.size + 1) k).length cap) hT hP
              have ST : Hid (chn.length = j + 1 ∧ chn[j]? = some lb) := ⟨hcl, hlb⟩
              have HT : Hid (_ = _) := hT
              have HP : Hid (_ = _) := hP
              have HGr : Hid (_ = _) := hGr
              have HG2 : Hid (∀ (j b : Nat), _ → _) := hG2
              have HT3 : Hid (_ = _) := hT3
              have HP3 : Hid (_ = _) := hP3
              have HO3 : Hid (∀ (c : Nat) (x : Obj), _ → _) := hO3
              have HB3 : Hid (∀ (B : Nat), _ → _) := hB3
              have HND : Hid ((got (sake q d0 e0) cb (v.heap.size + 1) k).Nodup) := got_nodup _ _ _ _ HS.out.nodup (fun hm => by
                obtain ⟨jj, hjj⟩ := List.mem_iff_getElem?.1 hm
                obtain ⟨_, _, _, h1, _⟩ := HS.out.kid jj _ hjj
                have := lt_of_heap h1
                omega) HS.out.len
              have HGN : Hid (∀ b ∈ got (sake q d0 e0) cb (v.heap.size + 1) k, z.P < b ∧ ∃ kk d m n t p ch ix o, (((wr.setCell ⟨T, 1, none⟩ (.slice (some ⟨z.K, 0, none⟩) k k)).setCell ⟨T, 2, none⟩ (.slice (some ⟨G, 0, none⟩) (got (sake q d0 e0) cb (v.heap.size + 1) k).length cap)).setCell ⟨z.P, 6, none⟩ (.slice (some ⟨G, 0, none⟩) (got (sake q d0 e0) cb (v.heap.size + 1) k).length cap)).heap[b]? = some (.cells #[kk, d, m, n, t, p, ch, ix, o] 71 (0, 0))) := fun b hb => got_node HS.out hL2 hO3 hT b hb
              clear hL2 hcl hlb hT hP hGr hG2 hT3 hP3 hO3 hB3
              generalize eg : got (sake q d0 e0) cb (v.heap.size + 1) k = g at *
              have EG : Hid (got (sake q d0 e0) cb (v.heap.size + 1) k = g) := eg
              clear eg
              unfold ptr
              go_wp2
              generalize (((wr.setCell ⟨T, 1, none⟩ (.slice (some ⟨z.K, 0, none⟩) k k)).setCell ⟨T, 2, none⟩ (.slice (some ⟨G, 0, none⟩) g.length cap)).setCell ⟨z.P, 6, none⟩ (.slice (some ⟨G, 0, none⟩) g.length cap)) = w3 at *
              go_loopw [148] (fun i wx => ∃ t : Nat, t ≤ g.length ∧ i = .int .i64 t ∧ L3 (min T z.P) w3 wx g t) (fun i _ => g.length - (intOf i).toNat)
              case atStart => exact ⟨0, Nat.zero_le _, rfl, L3.start _ _ _⟩
              case round =>
                obtain ⟨t, ht, rfl, h3⟩ := hrel
                have H3 : Hid (L3 (min T z.P) w3 wr g t) := h3
                by_cases hlt3 : t < g.length
                · have hlt3' : (t : Int) < (g.length : Int) := by omega
                  have hgt : g[t]? = some (g.getD t 0) := by rw [List.getD_eq_getElem?_getD, List.getElem?_eq_getElem hlt3]; rfl
                  generalize g.getD t 0 = b at hgt
                  obtain ⟨hPb, kk, dd, mm, nn, tt, pp, cc, ii, oo, hw⟩ := HGN.out b (List.mem_of_getElem? hgt)
                  obtain ⟨ix', hn'⟩ := h3.node b _ _ _ _ _ _ _ _ _ hw
                  have hc7 : wr.cell? ⟨b, 7, none⟩ = some ix' := cell_of_row wr b 7 _ 71 (0, 0) hn'
                  have hf7 : wr.frozen? ⟨b, 7, none⟩ = false := frozen_of_row wr b 7 _ 71 hn'
                  have hG3 : wr.heap[G]? = some (.cells cur 35 (0, 0)) := h3.other G _ (HO3.out G _ HGr.out (fun e => by have h1 := HGr.out; rw [e, HT.out] at h1; simp at h1) (fun e => by have h1 := HGr.out; rw [e, HP.out] at h1; simp [parObj] at h1)) (fun C e => by simp at e)
                  have hrc : wr.cell? ⟨G, t, none⟩ = some (ptr b) := by rw [cell_of_row wr G t _ 35 (0, 0) hG3]; exact HG2.out t b hgt
                  have HNx : Hid (L3 (min T z.P) w3 (wr.setCell ⟨b, 7, none⟩ (.int .i64 t)) g (t + 1)) := h3.next HND.out hgt hn' (by omega)
                  clear h3 hw hn' hG3 hgt
                  unfold ptr at hrc
                  go_wp2
                  go_roundw
                  case rel => exact ⟨t + 1, by omega, by go_num, HNx.out⟩
                  case measure => simp [intOf]; omega
                · have e : t = g.length := by omega
                  subst e
                  clear h3
                  go_wp2
                  go_ret
                  have eg := EG.out
                  subst eg
                  exact ⟨chn, lb, G, cap, rfl, ST.out.2, put_end HS.out HL2.out ST.out.1 HGr.out HG2.out HO3.out HT.out HP.out HT3.out HP3.out HB3.out rfl H3.out⟩
      | false =>
        rw [hp] at HGt HHo
        go_wp2_with fail
        refine (last_any wr (q.ord k - 1) s z.P HLst.out).mono ?_
        rintro e w1 ⟨⟨bl, rfl, hO⟩, hBl⟩
        obtain ⟨kk, dd, mm, nn, tt, pp, cc, ii, hO⟩ := hO
        have hO8 : w1.cell? ⟨bl, 8, none⟩ = some (.int .i64 (q.ord k - 1)) := cell_of_row w1 bl 8 _ 71 (0, 0) (below_heap hBl hO)
        have HL1 : Hid (L1 v w1 _ _ u9 _) := HLe.out.past hBl
        have hh8 : w1.cell? ⟨v.heap.size + 1, 8, none⟩ = some _ := cell_of_row w1 _ 8 _ 71 (0, 0) HL1.out.head
        have hhf : w1.frozen? ⟨v.heap.size + 1, 8, none⟩ = false := frozen_of_row w1 _ 8 _ 71 HL1.out.head
        have HLd : Hid (L1 v (w1.setCell ⟨v.heap.size + 1, 8, none⟩ (.int .i64 (q.ord k - 1))) (headObj d0 e0 z.P (q.ord k - 1)) _ u9 _) := HL1.out.setHead (.int .i64 (q.ord k - 1))
        clear hO hBl HLe HLst HL HL1 hd0r
        unfold ptr
        rcases Nat.eq_zero_or_pos m with hm0 | hm0
        · go_wp2_with (at_builtin; refine app35 v (w1.setCell ⟨v.heap.size + 1, 8, none⟩ (.int .i64 (q.ord k - 1))) _ _ u9 _ (v.heap.size + 1) _ rfl (.tmp 97) (.tmp 99) rfl rfl rfl (by first | rfl | simp) HLd.out (by have := HLn.out; omega) ?_; intro u9 w' HLA)
          have HL2 : Hid (L2 v w' z.P dm dl (hord (sake q d0 e0) q k) [v.heap.size + 1] u9 (got (sake q d0 e0) cb (v.heap.size + 1) k)) := by
            rw [HGt.out, HHo.out]; exact HLA.out.toL2 ED.out EL.out
          clear HLd HLA
          go_loopw [13, 105] (fun lst i wx => ∃ (j : Nat) (chn : List Nat) (lb : Nat), j ≤ m ∧ i = .int .i64 j ∧ lst = ptr lb ∧ chn.length = j + 1 ∧ chn[j]? = some lb ∧ L2 v wx z.P dm dl (hord (sake q d0 e0) q k) chn u9 (got (sake q d0 e0) cb (v.heap.size + 1) k)) (fun _ i _ => m - (intOf i).toNat)
          case atStart => exact ⟨0, [v.heap.size + 1], v.heap.size + 1, Nat.zero_le _, rfl, rfl, rfl, rfl, HL2.out⟩
          case round =>
            clear HL2
            obtain ⟨j, chn, lb, hj, rfl, rfl, hcl, hlb, hL2⟩ := hrel
            have HL2 : Hid (L2 v wr z.P dm dl _ chn _ _) := hL2
            by_cases hlt2 : j < m
            · exact absurd hlt2 (by omega)
            · have e : j = m := by omega
              subst e
              have hgl : 0 < (got (sake q d0 e0) cb (v.heap.size + 1) k).length := List.length_pos_of_mem (got_has _ _ _ _)
              have hgl2 := got_len (sake q d0 e0) cb (v.heap.size + 1) k
              obtain ⟨G, cap, cur, hcv, hGr, hG2⟩ := row_form hL2.row hgl
              have hT := below_heap hL2.bel HS.out.wt
              have hP := below_heap hL2.bel HS.out.par
              have hT1 : wr.cell? ⟨T, 1, none⟩ = some (.slice none 0 0) := cell_of_row wr T 1 _ 65 (0, 0) hT
              have hT1f : wr.frozen? ⟨T, 1, none⟩ = false := frozen_of_row wr T 1 _ 65 hT
              have hP6 : wr.cell? ⟨z.P, 6, none⟩ = some (.slice (some ⟨z.K, 0, none⟩) k k) := cell_of_row wr z.P 6 _ 71 (0, 0) hP
              subst hcv
              obtain ⟨⟨hT2, hT2f⟩, ⟨hP2, hP2f⟩, hT3, hP3, hO3, hB3⟩ := set3 (.slice (some ⟨G, 0, none⟩) (got (sake q d0 e0) cb (v.heap.size + 1) k).length cap) hT hP
              have ST : Hid (chn.length = j + 1 ∧ chn[j]? = some lb) := ⟨hcl, hlb⟩
              have HT : Hid (_ = _) := hT
              have HP : Hid (_ = _) := hP
              have HGr : Hid (_ = _) := hGr
              have HG2 : Hid (∀ (j b : Nat), _ → _) := hG2
              have HT3 : Hid (_ = _) := hT3
              have HP3 : Hid (_ = _) := hP3
              have HO3 : Hid (∀ (c : Nat) (x : Obj), _ → _) := hO3
              have HB3 : Hid (∀ (B : Nat), _ → _) := hB3
              have HND : Hid ((got (sake q d0 e0) cb (v.heap.size + 1) k).Nodup) := got_nodup _ _ _ _ HS.out.nodup (fun hm => by
                obtain ⟨jj, hjj⟩ := List.mem_iff_getElem?.1 hm
                obtain ⟨_, _, _, h1, _⟩ := HS.out.kid jj _ hjj
                have := lt_of_heap h1
                omega) HS.out.len
              have HGN : Hid (∀ b ∈ got (sake q d0 e0) cb (v.heap.size + 1) k, z.P < b ∧ ∃ kk d m n t p ch ix o, (((wr.setCell ⟨T, 1, none⟩ (.slice (some ⟨z.K, 0, none⟩) k k)).setCell ⟨T, 2, none⟩ (.slice (some ⟨G, 0, none⟩) (got (sake q d0 e0) cb (v.heap.size + 1) k).length cap)).setCell ⟨z.P, 6, none⟩ (.slice (some ⟨G, 0, none⟩) (got (sake q d0 e0) cb (v.heap.size + 1) k).length cap)).heap[b]? = some (.cells #[kk, d, m, n, t, p, ch, ix, o] 71 (0, 0))) := fun b hb => got_node HS.out hL2 hO3 hT b hb
              clear hL2 hcl hlb hT hP hGr hG2 hT3 hP3 hO3 hB3
              generalize eg : got (sake q d0 e0) cb (v.heap.size + 1) k = g at *
              have EG : Hid (got (sake q d0 e0) cb (v.heap.size + 1) k = g) := eg
              clear eg
              unfold ptr
              go_wp2
              clear hm0
              generalize (((wr.setCell ⟨T, 1, none⟩ (.slice (some ⟨z.K, 0, none⟩) k k)).setCell ⟨T, 2, none⟩ (.slice (some ⟨G, 0, none⟩) g.length cap)).setCell ⟨z.P, 6, none⟩ (.slice (some ⟨G, 0, none⟩) g.length cap)) = w3 at *
              go_loopw [148] (fun i wx => ∃ t : Nat, t ≤ g.length ∧ i = .int .i64 t ∧ L3 (min T z.P) w3 wx g t) (fun i _ => g.length - (intOf i).toNat)
              case atStart => exact ⟨0, Nat.zero_le _, rfl, L3.start _ _ _⟩
              case round =>
                obtain ⟨t, ht, rfl, h3⟩ := hrel
                have H3 : Hid (L3 (min T z.P) w3 wr g t) := h3
                by_cases hlt3 : t < g.length
                · have hlt3' : (t : Int) < (g.length : Int) := by omega
                  have hgt : g[t]? = some (g.getD t 0) := by rw [List.getD_eq_getElem?_getD, List.getElem?_eq_getElem hlt3]; rfl
                  generalize g.getD t 0 = b at hgt
                  obtain ⟨hPb, kk, dd, mm, nn, tt, pp, cc, ii, oo, hw⟩ := HGN.out b (List.mem_of_getElem? hgt)
                  obtain ⟨ix', hn'⟩ := h3.node b _ _ _ _ _ _ _ _ _ hw
                  have hc7 : wr.cell? ⟨b, 7, none⟩ = some ix' := cell_of_row wr b 7 _ 71 (0, 0) hn'
                  have hf7 : wr.frozen? ⟨b, 7, none⟩ = false := frozen_of_row wr b 7 _ 71 hn'
                  have hG3 : wr.heap[G]? = some (.cells cur 35 (0, 0)) := h3.other G _ (HO3.out G _ HGr.out (fun e => by have h1 := HGr.out; rw [e, HT.out] at h1; simp at h1) (fun e => by have h1 := HGr.out; rw [e, HP.out] at h1; simp [parObj] at h1)) (fun C e => by simp at e)
                  have hrc : wr.cell? ⟨G, t, none⟩ = some (ptr b) := by rw [cell_of_row wr G t _ 35 (0, 0) hG3]; exact HG2.out t b hgt
                  have HNx : Hid (L3 (min T z.P) w3 (wr.setCell ⟨b, 7, none⟩ (.int .i64 t)) g (t + 1)) := h3.next HND.out hgt hn' (by omega)
                  clear h3 hw hn' hG3 hgt
                  unfold ptr at hrc
                  go_wp2
                  go_roundw
                  case rel => exact ⟨t + 1, by omega, by go_num, HNx.out⟩
                  case measure => simp [intOf]; omega
                · have e : t = g.length := by omega
                  subst e
                  clear h3
                  go_wp2
                  go_ret
                  have eg := EG.out
                  subst eg
                  exact ⟨chn, lb, G, cap, rfl, ST.out.2, put_end HS.out HL2.out ST.out.1 HGr.out HG2.out HO3.out HT.out HP.out HT3.out HP3.out HB3.out rfl H3.out⟩
        · go_wp2_with (at_builtin; refine app35 v (w1.setCell ⟨v.heap.size + 1, 8, none⟩ (.int .i64 (q.ord k - 1))) _ _ u9 _ (v.heap.size + 1) _ rfl (.tmp 97) (.tmp 99) rfl rfl rfl (by first | rfl | simp) HLd.out (by have := HLn.out; omega) ?_; intro u9 w' HLA)
          have HL2 : Hid (L2 v w' z.P dm dl (hord (sake q d0 e0) q k) [v.heap.size + 1] u9 (got (sake q d0 e0) cb (v.heap.size + 1) k)) := by
            rw [HGt.out, HHo.out]; exact HLA.out.toL2 ED.out EL.out
          clear HLd HLA
          go_loopw [13, 105] (fun lst i wx => ∃ (j : Nat) (chn : List Nat) (lb : Nat), j ≤ m ∧ i = .int .i64 j ∧ lst = ptr lb ∧ chn.length = j + 1 ∧ chn[j]? = some lb ∧ L2 v wx z.P dm dl (hord (sake q d0 e0) q k) chn u9 (got (sake q d0 e0) cb (v.heap.size + 1) k)) (fun _ i _ => m - (intOf i).toNat)
          case atStart => exact ⟨0, [v.heap.size + 1], v.heap.size + 1, Nat.zero_le _, rfl, rfl, rfl, rfl, HL2.out⟩
          case round =>
            clear HL2
            obtain ⟨j, chn, lb, hj, rfl, rfl, hcl, hlb, hL2⟩ := hrel
            have HL2 : Hid (L2 v wr z.P dm dl _ chn _ _) := hL2
            by_cases hlt2 : j < m
            · have hlt2' : (j : Int) < (m : Int) := by omega
              have hdn : wr.cell? ⟨D, 2 + j * 2, none⟩ = some (encStr (dm (j + 1))) ∧ wr.cell? ⟨D, 2 + j * 2 + 1, none⟩ = some (encStr (dl (j + 1))) := by
                obtain ⟨cur, h1, h2, h3⟩ := HS.out.names
                have := h3 (j + 1) (by omega)
                have e1 : (j + 1) * 2 = 2 + j * 2 := by omega
                rw [e1] at this
                exact ⟨by rw [cell_of_row wr D _ _ 68 (0, 0) (below_heap hL2.bel h1)]; exact this.1, by rw [cell_of_row wr D _ _ 68 (0, 0) (below_heap hL2.bel h1)]; exact this.2⟩
              obtain ⟨hdn1, hdn2⟩ := hdn
              obtain ⟨ch0, ix0, hh1, hh2⟩ := hL2.chain 0 _ hL2.hd
              have hho := cell_of_row wr _ 8 _ 71 (0, 0) hh1
              obtain ⟨ch1, ix1, hl1, hl2⟩ := hL2.chain j _ hlb
              have hlc := cell_of_row wr _ 6 _ 71 (0, 0) hl1
              have hlf := frozen_of_row wr _ 6 _ 71 hl1
              have HLB : Hid (chn.length = j + 1 ∧ chn[j]? = some lb) := ⟨hcl, hlb⟩
              have HHL : Hid (_ = _) := hl1
              clear hh1 hh2 hl1 hl2 hL2 hcl hlb
              generalize edj : dm (j + 1) = dj at hdn1
              generalize eej : dl (j + 1) = ej at hdn2
              have hl6 : ∀ A B C, (((wr.alloc A).alloc B).alloc C).cell? ⟨lb, 6, none⟩ = some ch1 := fun A B C => below_cell (below3 wr A B C) hlc
              have hl7 : ∀ A B C, (((wr.alloc A).alloc B).alloc C).frozen? ⟨lb, 6, none⟩ = false := fun A B C => ((below3 wr A B C).frozen (lt_of_heap HHL.out)).trans hlf
              have HDJ : Hid (dm (j + 1) = dj) := edj
              have HEJ : Hid (dl (j + 1) = ej) := eej
              have hho' : ∀ A, (wr.alloc A).cell? ⟨v.heap.size + 1, 8, none⟩ = some (.int .i64 (hord (sake q d0 e0) q k)) := fun A => below_cell ((Below.refl _ wr).alloc (Nat.le_refl _) A) hho
              unfold ptr
              clear hho hlc hlf edj eej
              go_wp2
              go_region
              go_wp2
              go_roundw
              case rel =>
                obtain ⟨g1, g2, g3, g4⟩ := grow3 wr (.cells #[encStr dj, encStr ej] 68) (.cells #[.int .u8 1, .int .i32 ((j : Int) + 1 + 1), encStr dj, encStr ej, .string ⟨#[]⟩, ptr lb, .slice none 0 0, .int .i64 0, .int .i64 (hord (sake q d0 e0) q k)] 71) (.cells #[ptr (wr.heap.size + 1)] 35) lb (.slice (some ⟨wr.heap.size + 2, 0, none⟩) 1 1) (lt_of_heap HHL.out)
                have hN := HL2.out.push (nb := wr.heap.size + 1) (nr := wr.heap.size + 2) HLB.out.1 HLB.out.2 g1 (by omega) g2 (by rw [HDJ.out, HEJ.out]; exact g3) g4
                refine ⟨j + 1, chn ++ [wr.heap.size + 1], wr.heap.size + 1, by omega, by go_num, rfl, by simp [HLB.out.1], by rw [← HLB.out.1]; simp, ?_⟩
                have e2 : ((j : Int) + 1 + 1) = (j : Int) + 2 := by omega
                rw [e2] at hN
                exact hN.drew
              case measure => simp [intOf]; omega
            · have e : j = m := by omega
              subst e
              have hgl : 0 < (got (sake q d0 e0) cb (v.heap.size + 1) k).length := List.length_pos_of_mem (got_has _ _ _ _)
              have hgl2 := got_len (sake q d0 e0) cb (v.heap.size + 1) k
              obtain ⟨G, cap, cur, hcv, hGr, hG2⟩ := row_form hL2.row hgl
              have hT := below_heap hL2.bel HS.out.wt
              have hP := below_heap hL2.bel HS.out.par
              have hT1 : wr.cell? ⟨T, 1, none⟩ = some (.slice none 0 0) := cell_of_row wr T 1 _ 65 (0, 0) hT
              have hT1f : wr.frozen? ⟨T, 1, none⟩ = false := frozen_of_row wr T 1 _ 65 hT
              have hP6 : wr.cell? ⟨z.P, 6, none⟩ = some (.slice (some ⟨z.K, 0, none⟩) k k) := cell_of_row wr z.P 6 _ 71 (0, 0) hP
              subst hcv
              obtain ⟨⟨hT2, hT2f⟩, ⟨hP2, hP2f⟩, hT3, hP3, hO3, hB3⟩ := set3 (.slice (some ⟨G, 0, none⟩) (got (sake q d0 e0) cb (v.heap.size + 1) k).length cap) hT hP
              have ST : Hid (chn.length = j + 1 ∧ chn[j]? = some lb) := ⟨hcl, hlb⟩
              have HT : Hid (_ = _) := hT
              have HP : Hid (_ = _) := hP
              have HGr : Hid (_ = _) := hGr
              have HG2 : Hid (∀ (j b : Nat), _ → _) := hG2
              have HT3 : Hid (_ = _) := hT3
              have HP3 : Hid (_ = _) := hP3
              have HO3 : Hid (∀ (c : Nat) (x : Obj), _ → _) := hO3
              have HB3 : Hid (∀ (B : Nat), _ → _) := hB3
              have HND : Hid ((got (sake q d0 e0) cb (v.heap.size + 1) k).Nodup) := got_nodup _ _ _ _ HS.out.nodup (fun hm => by
                obtain ⟨jj, hjj⟩ := List.mem_iff_getElem?.1 hm
                obtain ⟨_, _, _, h1, _⟩ := HS.out.kid jj _ hjj
                have := lt_of_heap h1
                omega) HS.out.len
              have HGN : Hid (∀ b ∈ got (sake q d0 e0) cb (v.heap.size + 1) k, z.P < b ∧ ∃ kk d m n t p ch ix o, (((wr.setCell ⟨T, 1, none⟩ (.slice (some ⟨z.K, 0, none⟩) k k)).setCell ⟨T, 2, none⟩ (.slice (some ⟨G, 0, none⟩) (got (sake q d0 e0) cb (v.heap.size + 1) k).length cap)).setCell ⟨z.P, 6, none⟩ (.slice (some ⟨G, 0, none⟩) (got (sake q d0 e0) cb (v.heap.size + 1) k).length cap)).heap[b]? = some (.cells #[kk, d, m, n, t, p, ch, ix, o] 71 (0, 0))) := fun b hb => got_node HS.out hL2 hO3 hT b hb
              clear hL2 hcl hlb hT hP hGr hG2 hT3 hP3 hO3 hB3
              generalize eg : got (sake q d0 e0) cb (v.heap.size + 1) k = g at *
              have EG : Hid (got (sake q d0 e0) cb (v.heap.size + 1) k = g) := eg
              clear eg
              unfold ptr
              go_wp2
              generalize (((wr.setCell ⟨T, 1, none⟩ (.slice (some ⟨z.K, 0, none⟩) k k)).setCell ⟨T, 2, none⟩ (.slice (some ⟨G, 0, none⟩) g.length cap)).setCell ⟨z.P, 6, none⟩ (.slice (some ⟨G, 0, none⟩) g.length cap)) = w3 at *
              go_loopw [148] (fun i wx => ∃ t : Nat, t ≤ g.length ∧ i = .int .i64 t ∧ L3 (min T z.P) w3 wx g t) (fun i _ => g.length - (intOf i).toNat)
              case atStart => exact ⟨0, Nat.zero_le _, rfl, L3.start _ _ _⟩
              case round =>
                obtain ⟨t, ht, rfl, h3⟩ := hrel
                have H3 : Hid (L3 (min T z.P) w3 wr g t) := h3
                by_cases hlt3 : t < g.length
                · have hlt3' : (t : Int) < (g.length : Int) := by omega
                  have hgt : g[t]? = some (g.getD t 0) := by rw [List.getD_eq_getElem?_getD, List.getElem?_eq_getElem hlt3]; rfl
                  generalize g.getD t 0 = b at hgt
                  obtain ⟨hPb, kk, dd, mm, nn, tt, pp, cc, ii, oo, hw⟩ := HGN.out b (List.mem_of_getElem? hgt)
                  obtain ⟨ix', hn'⟩ := h3.node b _ _ _ _ _ _ _ _ _ hw
                  have hc7 : wr.cell? ⟨b, 7, none⟩ = some ix' := cell_of_row wr b 7 _ 71 (0, 0) hn'
                  have hf7 : wr.frozen? ⟨b, 7, none⟩ = false := frozen_of_row wr b 7 _ 71 hn'
                  have hG3 : wr.heap[G]? = some (.cells cur 35 (0, 0)) := h3.other G _ (HO3.out G _ HGr.out (fun e => by have h1 := HGr.out; rw [e, HT.out] at h1; simp at h1) (fun e => by have h1 := HGr.out; rw [e, HP.out] at h1; simp [parObj] at h1)) (fun C e => by simp at e)
                  have hrc : wr.cell? ⟨G, t, none⟩ = some (ptr b) := by rw [cell_of_row wr G t _ 35 (0, 0) hG3]; exact HG2.out t b hgt
                  have HNx : Hid (L3 (min T z.P) w3 (wr.setCell ⟨b, 7, none⟩ (.int .i64 t)) g (t + 1)) := h3.next HND.out hgt hn' (by omega)
                  clear h3 hw hn' hG3 hgt
                  unfold ptr at hrc
                  go_wp2
                  go_roundw
                  case rel => exact ⟨t + 1, by omega, by go_num, HNx.out⟩
                  case measure => simp [intOf]; omega
                · have e : t = g.length := by omega
                  subst e
                  clear h3
                  go_wp2
                  go_ret
                  have eg := EG.out
                  subst eg
                  exact ⟨chn, lb, G, cap, rfl, ST.out.2, put_end HS.out HL2.out ST.out.1 HGr.out HG2.out HO3.out HT.out HP.out HT3.out HP3.out HB3.out rfl H3.out⟩
end Go.Proofs.Qxb6600222a
