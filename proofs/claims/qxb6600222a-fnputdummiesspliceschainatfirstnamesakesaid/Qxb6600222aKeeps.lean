import Derived.Test.Qxb6600222aStage
import Derived.Lib.Builder
namespace Go.Proofs.Qxb6600222a
open Go.RowKit

theorem bt {a b c : World} (h : Below a.heap.size a b) (h2 : Below b.heap.size b c) : Below a.heap.size a c := h.trans (h2.mono h.size)

theorem put22_n (v : World) (z : Pl) (n : Nat) (q : TreeQ) (cb : List Nat) (T D m : Nat) (dm dl : Nat → Tx) (s : Nat) (hS : Stage v z n q cb T D m dm dl s) (hn : n ≤ 65536) (hm : m ≤ 65536) (hp : 0 < m) (hb0 : 0 ≤ q.base) (hb1 : q.base ≤ 1073741824) :
    Calls Try.prog 22 #[ptr T, ptr z.P, .slice (some ⟨D, 0, none⟩) m m] v fun e W => ∃ chn lb G cap, e = .returned (ptr lb) ∧ chn[m - 1]? = some lb ∧ Put v W z n q cb T (m - 1) dm dl (got (sake q (dm 0) (dl 0)) cb (v.heap.size + 1) n) (hord (sake q (dm 0) (dl 0)) q n) chn G cap := by
  obtain ⟨k, rfl⟩ : ∃ k, m = k + 1 := ⟨m - 1, by omega⟩
  exact put22_any v z n q cb T D k dm dl s hS hn hm hb0 hb1

theorem Try.info71 : (Try.prog.info? 71).isSome = true := by kernel_rfl

/-- A pointer is itself. -/
theorem neq_same (w : World) (a : Addr) : (binOp .neq 35 (.pointer (some a)) (.pointer (some a))).run Try.prog w = .ok (.bool false) w := by
  obtain ⟨j, hj⟩ := Option.isSome_iff_exists.1 Try.info71
  exact Lib.run_neq_ptr_same w a Try.underlying35 hj

theorem cnt_bound (l : List (Option Nat)) (t : Nat) (ht : t ≤ l.length) : 0 ≤ cnt (l.take t) ∧ cnt (l.take t) ≤ t := by
  induction t with
  | zero => simp [cnt]
  | succ t ih =>
    have ih := ih (by omega)
    rw [List.take_succ_eq_append_getElem (by omega), cnt_snoc]
    cases l[t] <;> simp only [] <;> omega

set_option maxHeartbeats 8000000 in
set_option maxRecDepth 100000 in
theorem keeps_main (a0 a1 a2 a3 a5 a6 : Option Addr) (n0 n1 n2 n3 n5 n6 c0 c1 c2 c3 c5 c6 : Nat) (l0 l3 : List Bool) (l1 l2 l5 l6 : List Tx) (base : Int) (w : World)
    (h0 : SV Value.bool w a0 n0 c0 l0) (h1 : SV encStr w a1 n1 c1 l1) (h2 : SV encStr w a2 n2 c2 l2) (h3 : SV Value.bool w a3 n3 c3 l3) (h5 : SV encStr w a5 n5 c5 l5) (h6 : SV encStr w a6 n6 c6 l6)
    (g0 : n0 ≤ 65536) (g1 : n1 ≤ 65536) (g2 : n2 ≤ 65536) (g3 : n3 ≤ 65536) (g5 : n5 ≤ 65536) (g6 : n6 ≤ 65536) (hb0 : 0 ≤ base) (hb1 : base ≤ 1073741824) (hpos : 0 < n5) :
    Calls Try.prog 7 #[.slice a0 n0 c0, .slice a1 n1 c1, .slice a2 n2 c2, .slice a3 n3 c3, .int .i64 base, .slice a5 n5 c5, .slice a6 n6 c6] w fun e w' => e = .returned (.bool true) ∧ Below w.heap.size w w' := by
  have A0 : Hid (SV Value.bool w a0 n0 c0 l0) := h0
  have A1 : Hid (SV encStr w a1 n1 c1 l1) := h1
  have A2 : Hid (SV encStr w a2 n2 c2 l2) := h2
  have A3 : Hid (SV Value.bool w a3 n3 c3 l3) := h3
  have A5 : Hid (SV encStr w a5 n5 c5 l5) := h5
  have A6 : Hid (SV encStr w a6 n6 c6 l6) := h6
  clear h0 h1 h2 h3 h5 h6
  have e0 : decide ((65536 : Int) < (n0 : Int)) = false := decide_eq_false (by omega)
  have e1 : decide ((65536 : Int) < (n1 : Int)) = false := decide_eq_false (by omega)
  have e2 : decide ((65536 : Int) < (n2 : Int)) = false := decide_eq_false (by omega)
  have e3 : decide ((65536 : Int) < (n3 : Int)) = false := decide_eq_false (by omega)
  have e5 : decide ((65536 : Int) < (n5 : Int)) = false := decide_eq_false (by omega)
  have e6 : decide ((65536 : Int) < (n6 : Int)) = false := decide_eq_false (by omega)
  have e7 : decide (base < 0) = false := decide_eq_false (by omega)
  have e8 : decide ((1073741824 : Int) < base) = false := decide_eq_false (by omega)
  have e9 : ((n5 : Int) == 0) = false := by
    rw [beq_eq_false_iff_ne]; omega
  go_enter Try.func7, Try.ntmps7
  go_wp2_with fail
  refine (bytes33_any _ _ _ _ _ _ _ _ _ _ _ _ _ _ _ _ _ _ _ _ _ _ _ w A1.out A2.out A5.out A6.out).mono ?_
  rintro e w' ⟨⟨r, rfl⟩, hw⟩
  subst w'
  cases r with
  | false => go_wp2; go_ret; exact ⟨rfl, Below.refl _ _⟩
  | true =>
  go_wp2_with fail
  refine (treeBytes_any _ _ _ _ _ _ _ _ _ _ _ _ _ _ _ _ _ _ _ _ _ _ w A1.out A2.out A5.out A6.out).mono ?_
  rintro e w' ⟨⟨x, rfl⟩, hw⟩
  subst w'
  by_cases hx : (1048576 : Int) < x
  · go_wp2; go_ret; exact ⟨rfl, Below.refl _ _⟩
  go_wp2_with fail
  refine (cloneB_any _ _ _ _ _ A0.out g0).mono ?_
  rintro e w1 ⟨b0, rfl, X1, B0, -⟩
  go_wp2_with fail
  refine (cloneS_any _ _ _ _ _ (A1.out.below X1.out) g1).mono ?_
  rintro e w2 ⟨b1, rfl, X2, B1, -⟩
  go_wp2_with fail
  refine (cloneS_any _ _ _ _ _ (A2.out.below (bt X1.out X2.out)) g2).mono ?_
  rintro e w3 ⟨b2, rfl, X3, B2, -⟩
  go_wp2_with fail
  refine (cloneB_any _ _ _ _ _ (A3.out.below (bt (bt X1.out X2.out) X3.out)) g3).mono ?_
  rintro e w4 ⟨b3, rfl, X4, B3, -⟩
  go_wp2_with fail
  refine (cloneS_any _ _ _ _ _ (A5.out.below (bt (bt (bt X1.out X2.out) X3.out) X4.out)) g5).mono ?_
  rintro e w5 ⟨b5, rfl, X5, B5, -⟩
  go_wp2_with fail
  refine (cloneS_any _ _ _ _ _ (A6.out.below (bt (bt (bt (bt X1.out X2.out) X3.out) X4.out) X5.out)) g6).mono ?_
  rintro e w6 ⟨b6, rfl, X6, B6, -⟩
  have X06 : Hid (Below w.heap.size w w6) := bt (bt (bt (bt (bt X1.out X2.out) X3.out) X4.out) X5.out) X6.out
  have V0 : Hid (SV Value.bool w6 b0 n0 n0 l0) := B0.out.below (bt (bt (bt (bt X2.out X3.out) X4.out) X5.out) X6.out)
  have V1 : Hid (SV encStr w6 b1 n1 n1 l1) := B1.out.below (bt (bt (bt X3.out X4.out) X5.out) X6.out)
  have V2 : Hid (SV encStr w6 b2 n2 n2 l2) := B2.out.below (bt (bt X4.out X5.out) X6.out)
  have V3 : Hid (SV Value.bool w6 b3 n3 n3 l3) := B3.out.below (bt X5.out X6.out)
  have V5 : Hid (SV encStr w6 b5 n5 n5 l5) := B5.out.below X6.out
  have V6 : Hid (SV encStr w6 b6 n6 n6 l6) := B6.out
  clear A0 A1 A2 A3 A5 A6 X1 X2 X3 X4 X5 X6 B0 B1 B2 B3 B5 B6
  go_wp2_with fail
  refine (build_any b0 b1 b2 b3 n0 n1 n2 n3 n0 n1 n2 n3 l0 l3 l1 l2 base w6 V0.out V1.out V2.out V3.out g0 hb0 hb1).mono ?_
  rintro e w7 ⟨z, cb, rfl, hG⟩
  have HG : Hid (Grove z w6 w7 n0 n0 _ _ cb) := hG
  have X7 : Hid (Below w6.heap.size w6 w7) := hG.mid.bel
  clear hG
  have HQB : Hid ((treeOf l0 l1 l2 l3 base).base = base) := rfl
  generalize treeOf l0 l1 l2 l3 base = q at *
  go_wp2_with fail
  refine (new21 w7).mono ?_
  rintro e w8 ⟨rfl, ht⟩
  have T8 : Hid (Turned w7 w8 _ _) := ht
  have X8 : Hid (Below w7.heap.size w7 w8) := (Below.refl _ w7).grown ht.grown (Nat.le_refl _) (by intro k h; injection h with h; omega)
  clear ht
  go_wp2_with fail
  refine (names_any b5 b6 n5 n6 n5 n6 l5 l6 w8 (V5.out.below (bt X7.out X8.out)) (V6.out.below (bt X7.out X8.out)) g5).mono ?_
  rintro e w9 ⟨rfl, hN, hB9⟩
  obtain ⟨⟨s, hS⟩, X69, _, hzP, hle⟩ := stage_of HG.out g0 T8.out hN hB9
  have HX69 : Hid (Below w6.heap.size w6 w9) := X69
  have HZ : Hid (z.P = w6.heap.size ∧ w6.heap.size ≤ w7.heap.size) := ⟨hzP, hle⟩
  have HS : Hid (Stage w9 z n0 q cb w7.heap.size w8.heap.size n5 (atS l5) (atS l6) s) := hS
  clear hN hB9 X69 hzP hle hS
  go_wp2_with fail
  refine (put22_n w9 z n0 q cb w7.heap.size w8.heap.size n5 _ _ s HS.out g0 g5 hpos (by rw [HQB.out]; exact hb0) (by rw [HQB.out]; exact hb1)).mono ?_
  rintro e w10 ⟨chn, lb, G, cap, rfl, hlb, hPut⟩
  have HPut : Hid (Put w9 w10 z n0 q cb w7.heap.size (n5 - 1) _ _ _ _ chn G cap) := hPut
  have HEnd : Hid (Below w.heap.size w w10) := (bt X06.out HX69.out).trans (hPut.bel _ (by have := HZ.out.1; have := X06.out.size; omega) (by have := HZ.out.2; have := X06.out.size; omega))
  have HGI : Hid (got (sake q (atS l5 0) (atS l6 0)) cb (w9.heap.size + 1) n0 = (gotI (sake q (atS l5 0) (atS l6 0)) n0).map (blk cb (w9.heap.size + 1))) := got_its _ _ _ _
  have HFit : Hid (Fit q (hord (sake q (atS l5 0) (atS l6 0)) q n0) (gotI (sake q (atS l5 0) (atS l6 0)) n0)) := fit_gotI _ _ _
  have HCnt : Hid (cnt (gotI (sake q (atS l5 0) (atS l6 0)) n0) = 1) := cnt_gotI _ _
  have HLt : Hid (∀ j, some j ∈ gotI (sake q (atS l5 0) (atS l6 0)) n0 → j < n0) := fun j hj => gotI_lt _ _ _ hj
  have HLen : Hid ((got (sake q (atS l5 0) (atS l6 0)) cb (w9.heap.size + 1) n0).length ≤ n0 + 1) := got_len _ _ _ _
  have HCb : Hid (cb.length = n0) := HS.out.len
  obtain ⟨ixp, hpar⟩ := hPut.par
  have HPar : Hid (_ = _) := hpar
  clear hPut hpar hlb T8 HG X7 X8 HS HX69 HZ X06 V0 V1 V2 V3 V5 V6
  generalize hord (sake q (atS l5 0) (atS l6 0)) q n0 = ho at *
  generalize gotI (sake q (atS l5 0) (atS l6 0)) n0 = gi at *
  generalize got (sake q (atS l5 0) (atS l6 0)) cb (w9.heap.size + 1) n0 = g at *
  go_wp2_with fail
  refine (get24 z.P _ _ _ _ _ _ _ _ _ w10 HPar.out).mono ?_
  rintro e w' ⟨rfl, hw⟩
  subst w'
  go_wp2_with fail
  refine (get31 z.P _ _ _ _ _ _ _ _ _ w10 HPar.out).mono ?_
  rintro e w' ⟨rfl, hw⟩
  subst w'
  rw [HQB.out]
  unfold ptr
  go_wp2
  have HGL : Hid (gi.length = g.length) := by show gi.length = g.length; rw [HGI.out]; simp
  go_loopw [21, 22, 23] (fun d p i wr => wr = w10 ∧ ∃ t : Nat, t ≤ g.length ∧ i = .int .i64 t ∧ d = .int .i64 (cnt (gi.take t)) ∧ p = .int .i64 (prev q (gi.take t))) (fun _ _ i _ => g.length - (intOf i).toNat)
  case atStart => exact ⟨rfl, 0, Nat.zero_le _, rfl, rfl, by show Value.int .i64 base = Value.int .i64 q.base; rw [HQB.out]⟩
  case round =>
    obtain ⟨hwr, t, ht, rfl, rfl, rfl⟩ := hrel
    subst wr
    have hcb := cnt_bound gi t (by rw [HGL.out]; exact ht)
    have hgl := HLen.out
    by_cases hlt : t < g.length
    · have hlt' : (t : Int) < (g.length : Int) := by omega
      have hgi : gi[t]? = some (gi[t]'(by rw [HGL.out]; exact hlt)) := List.getElem?_eq_getElem _
      have hsn : gi.take (t + 1) = gi.take t ++ [gi[t]'(by rw [HGL.out]; exact hlt)] := List.take_succ_eq_append_getElem _
      generalize gi[t]'(by rw [HGL.out]; exact hlt) = x at hgi hsn
      have hg : g[t]? = some (blk cb (w9.heap.size + 1) x) := by rw [HGI.out, List.getElem?_map, hgi]; rfl
      have hrow := HPut.out.row t _ hg
      have hfit := HFit.out t x hgi
      cases x with
      | none =>
        have HC1 : Hid (cnt (gi.take (t + 1)) = cnt (gi.take t) + 1) := by show cnt (gi.take (t + 1)) = _; rw [hsn, cnt_snoc]
        have HP1 : Hid (prev q (gi.take (t + 1)) = prev q (gi.take t)) := by show prev q (gi.take (t + 1)) = _; rw [hsn, prev_snoc]
        have hfit' : prev q (gi.take t) = ho := hfit
        rw [hfit'] at HP1 ⊢
        clear hfit hfit'
        generalize cnt (gi.take t) = c at *
        obtain ⟨ch, ix, hnode, _⟩ := HPut.out.chain 0 _ HPut.out.hd
        have HNode : Hid (_ = _) := hnode
        clear hnode hg hgi hsn
        have hrow2 : w10.cell? ⟨G, t, none⟩ = some (ptr (w9.heap.size + 1)) := hrow
        clear hrow
        go_wp2_with fail
        refine (get26 (w9.heap.size + 1) _ _ _ _ _ _ _ _ _ w10 HNode.out).mono ?_
        rintro e w' ⟨rfl, hw⟩
        subst w'
        unfold up ptr
        unfold ptr at hrow2
        have hne := neq_same
        go_wp2_with fail
        clear hne
        refine (get31 (w9.heap.size + 1) _ _ _ _ _ _ _ _ _ w10 HNode.out).mono ?_
        rintro e w' ⟨rfl, hw⟩
        subst w'
        go_wp2_with fail
        refine (get30 (w9.heap.size + 1) _ _ _ _ _ _ _ _ _ w10 HNode.out).mono ?_
        rintro e w' ⟨rfl, hw⟩
        subst w'
        go_wp2
        go_roundw
        case rel => exact ⟨trivial, t + 1, by omega, by go_num, by rw [HC1.out], by rw [HP1.out]⟩
        case measure => simp [intOf]; omega
      | some j =>
        have HC1 : Hid (cnt (gi.take (t + 1)) = cnt (gi.take t)) := by show cnt (gi.take (t + 1)) = _; rw [hsn, cnt_snoc]
        have HP1 : Hid (prev q (gi.take (t + 1)) = q.ord (j + 1) - 1) := by show prev q (gi.take (t + 1)) = _; rw [hsn, prev_snoc]
        have hfit' : prev q (gi.take t) < q.ord j := hfit
        clear hfit
        have hjn := HLt.out j (List.mem_of_getElem? hgi)
        have hcbj : cb[j]? = some (cb.getD j 0) := by rw [List.getD_eq_getElem?_getD, List.getElem?_eq_getElem (by rw [HCb.out]; exact hjn)]; rfl
        have hkid := HPut.out.kid j _ hcbj
        obtain ⟨sl, hsl⟩ := hkid.lst'
        have HSl : Hid (Lst w10 _ sl _) := hsl
        obtain ⟨_, ch, ix, hnode, _⟩ := hkid
        have HNode : Hid (_ = _) := hnode
        have hrow2 : w10.cell? ⟨G, t, none⟩ = some (ptr (cb.getD j 0)) := hrow
        clear hrow hnode hg hgi hsn hsl hcbj
        generalize cnt (gi.take t) = c at *
        generalize prev q (gi.take t) = p at *
        generalize cb.getD j 0 = b at *
        generalize q.ord j = oj at *
        go_wp2_with fail
        refine (get26 b _ _ _ _ _ _ _ _ _ w10 HNode.out).mono ?_
        rintro e w' ⟨rfl, hw⟩
        subst w'
        unfold ptr
        unfold ptr at hrow2
        have hne := neq_same
        go_wp2_with fail
        clear hne
        refine (get31 b _ _ _ _ _ _ _ _ _ w10 HNode.out).mono ?_
        rintro e w' ⟨rfl, hw⟩
        subst w'
        go_wp2_with fail
        refine (get30 b _ _ _ _ _ _ _ _ _ w10 HNode.out).mono ?_
        rintro e w' ⟨rfl, hw⟩
        subst w'
        go_wp2_with fail
        refine (sub_any w10 _ sl b HSl.out).mono ?_
        rintro e w' ⟨rfl, hw⟩
        subst w'
        go_wp2
        go_roundw
        case rel => exact ⟨trivial, t + 1, by omega, by go_num, by rw [HC1.out], by rw [HP1.out]⟩
        case measure => simp [intOf]; omega
    · have e : t = gi.length := by rw [HGL.out]; omega
      subst e
      rw [List.take_length, HCnt.out]
      go_wp2
      go_ret
      exact ⟨rfl, HEnd.out⟩

set_option maxHeartbeats 4000000 in
set_option maxRecDepth 100000 in
theorem keeps_walk (a0 a1 a2 a3 a5 a6 : Option Addr) (n0 n1 n2 n3 n5 n6 c0 c1 c2 c3 c5 c6 : Nat) (l0 l3 : List Bool) (l1 l2 l5 l6 : List Tx) (base : Int) (w : World)
    (h0 : SV Value.bool w a0 n0 c0 l0) (h1 : SV encStr w a1 n1 c1 l1) (h2 : SV encStr w a2 n2 c2 l2) (h3 : SV Value.bool w a3 n3 c3 l3) (h5 : SV encStr w a5 n5 c5 l5) (h6 : SV encStr w a6 n6 c6 l6) :
    Calls Try.prog 7 #[.slice a0 n0 c0, .slice a1 n1 c1, .slice a2 n2 c2, .slice a3 n3 c3, .int .i64 base, .slice a5 n5 c5, .slice a6 n6 c6] w fun e w' => e = .returned (.bool true) ∧ Below w.heap.size w w' := by
  by_cases g0 : (65536 : Int) < (n0 : Int)
  · have e0 : decide ((65536 : Int) < (n0 : Int)) = true := decide_eq_true g0
    have A0 : Hid (SV Value.bool w a0 n0 c0 l0) := h0
    have A1 : Hid (SV encStr w a1 n1 c1 l1) := h1
    have A2 : Hid (SV encStr w a2 n2 c2 l2) := h2
    have A3 : Hid (SV Value.bool w a3 n3 c3 l3) := h3
    have A5 : Hid (SV encStr w a5 n5 c5 l5) := h5
    have A6 : Hid (SV encStr w a6 n6 c6 l6) := h6
    clear h0 h1 h2 h3 h5 h6
    go_enter Try.func7, Try.ntmps7
    go_wp2_with fail
    refine (bytes33_any _ _ _ _ _ _ _ _ _ _ _ _ _ _ _ _ _ _ _ _ _ _ _ w A1.out A2.out A5.out A6.out).mono ?_
    rintro e w' ⟨⟨r, rfl⟩, hw⟩
    subst w'
    cases r with
    | false => go_wp2; go_ret; exact ⟨rfl, Below.refl _ _⟩
    | true =>
    go_wp2_with fail
    refine (treeBytes_any _ _ _ _ _ _ _ _ _ _ _ _ _ _ _ _ _ _ _ _ _ _ w A1.out A2.out A5.out A6.out).mono ?_
    rintro e w' ⟨⟨x, rfl⟩, hw⟩
    subst w'
    by_cases hx : (1048576 : Int) < x
    · go_wp2; go_ret; exact ⟨rfl, Below.refl _ _⟩
    · go_wp2; go_ret; exact ⟨rfl, Below.refl _ _⟩
  have e0 : decide ((65536 : Int) < (n0 : Int)) = false := decide_eq_false g0
  by_cases g1 : (65536 : Int) < (n1 : Int)
  · have e1 : decide ((65536 : Int) < (n1 : Int)) = true := decide_eq_true g1
    have A0 : Hid (SV Value.bool w a0 n0 c0 l0) := h0
    have A1 : Hid (SV encStr w a1 n1 c1 l1) := h1
    have A2 : Hid (SV encStr w a2 n2 c2 l2) := h2
    have A3 : Hid (SV Value.bool w a3 n3 c3 l3) := h3
    have A5 : Hid (SV encStr w a5 n5 c5 l5) := h5
    have A6 : Hid (SV encStr w a6 n6 c6 l6) := h6
    clear h0 h1 h2 h3 h5 h6
    go_enter Try.func7, Try.ntmps7
    go_wp2_with fail
    refine (bytes33_any _ _ _ _ _ _ _ _ _ _ _ _ _ _ _ _ _ _ _ _ _ _ _ w A1.out A2.out A5.out A6.out).mono ?_
    rintro e w' ⟨⟨r, rfl⟩, hw⟩
    subst w'
    cases r with
    | false => go_wp2; go_ret; exact ⟨rfl, Below.refl _ _⟩
    | true =>
    go_wp2_with fail
    refine (treeBytes_any _ _ _ _ _ _ _ _ _ _ _ _ _ _ _ _ _ _ _ _ _ _ w A1.out A2.out A5.out A6.out).mono ?_
    rintro e w' ⟨⟨x, rfl⟩, hw⟩
    subst w'
    by_cases hx : (1048576 : Int) < x
    · go_wp2; go_ret; exact ⟨rfl, Below.refl _ _⟩
    · go_wp2; go_ret; exact ⟨rfl, Below.refl _ _⟩
  have e1 : decide ((65536 : Int) < (n1 : Int)) = false := decide_eq_false g1
  by_cases g2 : (65536 : Int) < (n2 : Int)
  · have e2 : decide ((65536 : Int) < (n2 : Int)) = true := decide_eq_true g2
    have A0 : Hid (SV Value.bool w a0 n0 c0 l0) := h0
    have A1 : Hid (SV encStr w a1 n1 c1 l1) := h1
    have A2 : Hid (SV encStr w a2 n2 c2 l2) := h2
    have A3 : Hid (SV Value.bool w a3 n3 c3 l3) := h3
    have A5 : Hid (SV encStr w a5 n5 c5 l5) := h5
    have A6 : Hid (SV encStr w a6 n6 c6 l6) := h6
    clear h0 h1 h2 h3 h5 h6
    go_enter Try.func7, Try.ntmps7
    go_wp2_with fail
    refine (bytes33_any _ _ _ _ _ _ _ _ _ _ _ _ _ _ _ _ _ _ _ _ _ _ _ w A1.out A2.out A5.out A6.out).mono ?_
    rintro e w' ⟨⟨r, rfl⟩, hw⟩
    subst w'
    cases r with
    | false => go_wp2; go_ret; exact ⟨rfl, Below.refl _ _⟩
    | true =>
    go_wp2_with fail
    refine (treeBytes_any _ _ _ _ _ _ _ _ _ _ _ _ _ _ _ _ _ _ _ _ _ _ w A1.out A2.out A5.out A6.out).mono ?_
    rintro e w' ⟨⟨x, rfl⟩, hw⟩
    subst w'
    by_cases hx : (1048576 : Int) < x
    · go_wp2; go_ret; exact ⟨rfl, Below.refl _ _⟩
    · go_wp2; go_ret; exact ⟨rfl, Below.refl _ _⟩
  have e2 : decide ((65536 : Int) < (n2 : Int)) = false := decide_eq_false g2
  by_cases g3 : (65536 : Int) < (n3 : Int)
  · have e3 : decide ((65536 : Int) < (n3 : Int)) = true := decide_eq_true g3
    have A0 : Hid (SV Value.bool w a0 n0 c0 l0) := h0
    have A1 : Hid (SV encStr w a1 n1 c1 l1) := h1
    have A2 : Hid (SV encStr w a2 n2 c2 l2) := h2
    have A3 : Hid (SV Value.bool w a3 n3 c3 l3) := h3
    have A5 : Hid (SV encStr w a5 n5 c5 l5) := h5
    have A6 : Hid (SV encStr w a6 n6 c6 l6) := h6
    clear h0 h1 h2 h3 h5 h6
    go_enter Try.func7, Try.ntmps7
    go_wp2_with fail
    refine (bytes33_any _ _ _ _ _ _ _ _ _ _ _ _ _ _ _ _ _ _ _ _ _ _ _ w A1.out A2.out A5.out A6.out).mono ?_
    rintro e w' ⟨⟨r, rfl⟩, hw⟩
    subst w'
    cases r with
    | false => go_wp2; go_ret; exact ⟨rfl, Below.refl _ _⟩
    | true =>
    go_wp2_with fail
    refine (treeBytes_any _ _ _ _ _ _ _ _ _ _ _ _ _ _ _ _ _ _ _ _ _ _ w A1.out A2.out A5.out A6.out).mono ?_
    rintro e w' ⟨⟨x, rfl⟩, hw⟩
    subst w'
    by_cases hx : (1048576 : Int) < x
    · go_wp2; go_ret; exact ⟨rfl, Below.refl _ _⟩
    · go_wp2; go_ret; exact ⟨rfl, Below.refl _ _⟩
  have e3 : decide ((65536 : Int) < (n3 : Int)) = false := decide_eq_false g3
  by_cases g4 : (65536 : Int) < (n5 : Int)
  · have e4 : decide ((65536 : Int) < (n5 : Int)) = true := decide_eq_true g4
    have A0 : Hid (SV Value.bool w a0 n0 c0 l0) := h0
    have A1 : Hid (SV encStr w a1 n1 c1 l1) := h1
    have A2 : Hid (SV encStr w a2 n2 c2 l2) := h2
    have A3 : Hid (SV Value.bool w a3 n3 c3 l3) := h3
    have A5 : Hid (SV encStr w a5 n5 c5 l5) := h5
    have A6 : Hid (SV encStr w a6 n6 c6 l6) := h6
    clear h0 h1 h2 h3 h5 h6
    go_enter Try.func7, Try.ntmps7
    go_wp2_with fail
    refine (bytes33_any _ _ _ _ _ _ _ _ _ _ _ _ _ _ _ _ _ _ _ _ _ _ _ w A1.out A2.out A5.out A6.out).mono ?_
    rintro e w' ⟨⟨r, rfl⟩, hw⟩
    subst w'
    cases r with
    | false => go_wp2; go_ret; exact ⟨rfl, Below.refl _ _⟩
    | true =>
    go_wp2_with fail
    refine (treeBytes_any _ _ _ _ _ _ _ _ _ _ _ _ _ _ _ _ _ _ _ _ _ _ w A1.out A2.out A5.out A6.out).mono ?_
    rintro e w' ⟨⟨x, rfl⟩, hw⟩
    subst w'
    by_cases hx : (1048576 : Int) < x
    · go_wp2; go_ret; exact ⟨rfl, Below.refl _ _⟩
    · go_wp2; go_ret; exact ⟨rfl, Below.refl _ _⟩
  have e4 : decide ((65536 : Int) < (n5 : Int)) = false := decide_eq_false g4
  by_cases g5 : (65536 : Int) < (n6 : Int)
  · have e5 : decide ((65536 : Int) < (n6 : Int)) = true := decide_eq_true g5
    have A0 : Hid (SV Value.bool w a0 n0 c0 l0) := h0
    have A1 : Hid (SV encStr w a1 n1 c1 l1) := h1
    have A2 : Hid (SV encStr w a2 n2 c2 l2) := h2
    have A3 : Hid (SV Value.bool w a3 n3 c3 l3) := h3
    have A5 : Hid (SV encStr w a5 n5 c5 l5) := h5
    have A6 : Hid (SV encStr w a6 n6 c6 l6) := h6
    clear h0 h1 h2 h3 h5 h6
    go_enter Try.func7, Try.ntmps7
    go_wp2_with fail
    refine (bytes33_any _ _ _ _ _ _ _ _ _ _ _ _ _ _ _ _ _ _ _ _ _ _ _ w A1.out A2.out A5.out A6.out).mono ?_
    rintro e w' ⟨⟨r, rfl⟩, hw⟩
    subst w'
    cases r with
    | false => go_wp2; go_ret; exact ⟨rfl, Below.refl _ _⟩
    | true =>
    go_wp2_with fail
    refine (treeBytes_any _ _ _ _ _ _ _ _ _ _ _ _ _ _ _ _ _ _ _ _ _ _ w A1.out A2.out A5.out A6.out).mono ?_
    rintro e w' ⟨⟨x, rfl⟩, hw⟩
    subst w'
    by_cases hx : (1048576 : Int) < x
    · go_wp2; go_ret; exact ⟨rfl, Below.refl _ _⟩
    · go_wp2; go_ret; exact ⟨rfl, Below.refl _ _⟩
  have e5 : decide ((65536 : Int) < (n6 : Int)) = false := decide_eq_false g5
  by_cases g6 : base < 0
  · have e6 : decide (base < 0) = true := decide_eq_true g6
    have A0 : Hid (SV Value.bool w a0 n0 c0 l0) := h0
    have A1 : Hid (SV encStr w a1 n1 c1 l1) := h1
    have A2 : Hid (SV encStr w a2 n2 c2 l2) := h2
    have A3 : Hid (SV Value.bool w a3 n3 c3 l3) := h3
    have A5 : Hid (SV encStr w a5 n5 c5 l5) := h5
    have A6 : Hid (SV encStr w a6 n6 c6 l6) := h6
    clear h0 h1 h2 h3 h5 h6
    go_enter Try.func7, Try.ntmps7
    go_wp2_with fail
    refine (bytes33_any _ _ _ _ _ _ _ _ _ _ _ _ _ _ _ _ _ _ _ _ _ _ _ w A1.out A2.out A5.out A6.out).mono ?_
    rintro e w' ⟨⟨r, rfl⟩, hw⟩
    subst w'
    cases r with
    | false => go_wp2; go_ret; exact ⟨rfl, Below.refl _ _⟩
    | true =>
    go_wp2_with fail
    refine (treeBytes_any _ _ _ _ _ _ _ _ _ _ _ _ _ _ _ _ _ _ _ _ _ _ w A1.out A2.out A5.out A6.out).mono ?_
    rintro e w' ⟨⟨x, rfl⟩, hw⟩
    subst w'
    by_cases hx : (1048576 : Int) < x
    · go_wp2; go_ret; exact ⟨rfl, Below.refl _ _⟩
    · go_wp2; go_ret; exact ⟨rfl, Below.refl _ _⟩
  have e6 : decide (base < 0) = false := decide_eq_false g6
  by_cases g7 : (1073741824 : Int) < base
  · have e7 : decide ((1073741824 : Int) < base) = true := decide_eq_true g7
    have A0 : Hid (SV Value.bool w a0 n0 c0 l0) := h0
    have A1 : Hid (SV encStr w a1 n1 c1 l1) := h1
    have A2 : Hid (SV encStr w a2 n2 c2 l2) := h2
    have A3 : Hid (SV Value.bool w a3 n3 c3 l3) := h3
    have A5 : Hid (SV encStr w a5 n5 c5 l5) := h5
    have A6 : Hid (SV encStr w a6 n6 c6 l6) := h6
    clear h0 h1 h2 h3 h5 h6
    go_enter Try.func7, Try.ntmps7
    go_wp2_with fail
    refine (bytes33_any _ _ _ _ _ _ _ _ _ _ _ _ _ _ _ _ _ _ _ _ _ _ _ w A1.out A2.out A5.out A6.out).mono ?_
    rintro e w' ⟨⟨r, rfl⟩, hw⟩
    subst w'
    cases r with
    | false => go_wp2; go_ret; exact ⟨rfl, Below.refl _ _⟩
    | true =>
    go_wp2_with fail
    refine (treeBytes_any _ _ _ _ _ _ _ _ _ _ _ _ _ _ _ _ _ _ _ _ _ _ w A1.out A2.out A5.out A6.out).mono ?_
    rintro e w' ⟨⟨x, rfl⟩, hw⟩
    subst w'
    by_cases hx : (1048576 : Int) < x
    · go_wp2; go_ret; exact ⟨rfl, Below.refl _ _⟩
    · go_wp2; go_ret; exact ⟨rfl, Below.refl _ _⟩
  have e7 : decide ((1073741824 : Int) < base) = false := decide_eq_false g7
  by_cases g8 : (n5 : Int) = 0
  · have e8 : ((n5 : Int) == 0) = true := by simp [g8]
    have A0 : Hid (SV Value.bool w a0 n0 c0 l0) := h0
    have A1 : Hid (SV encStr w a1 n1 c1 l1) := h1
    have A2 : Hid (SV encStr w a2 n2 c2 l2) := h2
    have A3 : Hid (SV Value.bool w a3 n3 c3 l3) := h3
    have A5 : Hid (SV encStr w a5 n5 c5 l5) := h5
    have A6 : Hid (SV encStr w a6 n6 c6 l6) := h6
    clear h0 h1 h2 h3 h5 h6
    go_enter Try.func7, Try.ntmps7
    go_wp2_with fail
    refine (bytes33_any _ _ _ _ _ _ _ _ _ _ _ _ _ _ _ _ _ _ _ _ _ _ _ w A1.out A2.out A5.out A6.out).mono ?_
    rintro e w' ⟨⟨r, rfl⟩, hw⟩
    subst w'
    cases r with
    | false => go_wp2; go_ret; exact ⟨rfl, Below.refl _ _⟩
    | true =>
    go_wp2_with fail
    refine (treeBytes_any _ _ _ _ _ _ _ _ _ _ _ _ _ _ _ _ _ _ _ _ _ _ w A1.out A2.out A5.out A6.out).mono ?_
    rintro e w' ⟨⟨x, rfl⟩, hw⟩
    subst w'
    by_cases hx : (1048576 : Int) < x
    · go_wp2; go_ret; exact ⟨rfl, Below.refl _ _⟩
    · go_wp2; go_ret; exact ⟨rfl, Below.refl _ _⟩
  exact keeps_main a0 a1 a2 a3 a5 a6 n0 n1 n2 n3 n5 n6 c0 c1 c2 c3 c5 c6 l0 l3 l1 l2 l5 l6 base w h0 h1 h2 h3 h5 h6 (by omega) (by omega) (by omega) (by omega) (by omega) (by omega) (by omega) (by omega) (by omega)

end Go.Proofs.Qxb6600222a
