import Derived.Test.Qxb6600506aWalks
namespace Go.Proofs.Qxb6600506a
open Go.RowKit
open Go.Proofs.Qxb6600506a.Plain

theorem bytes18_any (a b : Option Addr) (n m ca cb : Nat) (w : World) (hn : n ≤ 9223372036854775807) (hm : m ≤ 9223372036854775807) :
    Calls Try.prog 18 #[.slice a n ca, .slice b m cb] w fun e w' => e = .returned (.bool (decide ((n : Int) + m ≤ 1048576))) ∧ w' = w := by
  by_cases h1 : (1048576 : Int) < (n : Int)
  · rw [decide_eq_false (by omega)]
    go_enter Try.func18, Try.ntmps18
    go_wp2
    go_ret
    exact ⟨rfl, rfl⟩
  · by_cases h2 : (1048576 : Int) < (m : Int)
    · rw [decide_eq_false (by omega)]
      go_enter Try.func18, Try.ntmps18
      go_wp2
      go_ret
      exact ⟨rfl, rfl⟩
    · by_cases h3 : (1048576 : Int) < (n : Int) + (m : Int)
      · rw [decide_eq_false (by omega)]
        go_enter Try.func18, Try.ntmps18
        go_wp2
        go_ret
        exact ⟨rfl, rfl⟩
      · rw [decide_eq_true (by omega)]
        go_enter Try.func18, Try.ntmps18
        go_wp2
        go_ret
        exact ⟨rfl, rfl⟩

theorem zzquoted_none (a : Option Addr) (n cap : Nat) (l : List Int) (w : World) (h : SV w a n cap l) (hsm : n ≤ 1048576) (hq : q l = none) :
    Calls Try.prog 13 #[.slice a n cap] w fun e w' => e = .returned (.tuple #[.slice none 0 0, .bool false]) ∧ w' = w := by
  refine (zzquoted_any a n cap l w h hsm).mono ?_
  rintro e w' ⟨hw, ⟨_, he⟩ | ⟨j, _, hj, _⟩⟩
  · exact ⟨he, hw⟩
  · rw [hq] at hj; cases hj

theorem zzquoted_some (a : Option Addr) (n : Nat) (l : List Int) (w : World) (h : SV w a n n l) (hsm : n ≤ 1048576) (j r : Nat) (hq : q l = some j) (hr : n - j = r) :
    Calls Try.prog 13 #[.slice a n n] w fun e w' => w' = w ∧ ∃ a', e = .returned (.tuple #[.slice a' r r, .bool true]) ∧ Hid (SV w a' r r (l.drop j)) := by
  subst hr
  refine (zzquoted_any a n n l w h hsm).mono ?_
  rintro e w' ⟨hw, ⟨hn, _⟩ | ⟨j', a', hj, _, he, hd⟩⟩
  · rw [hq] at hn; cases hn
  · rw [hq] at hj
    obtain rfl := Option.some.inj hj
    exact ⟨hw, a', he, hd⟩

theorem same_true (a b : Option Addr) (n m ca cb : Nat) (la lb : List Int) (w : World) (ha : SV w a n ca la) (hb : SV w b m cb lb) (he : la = lb) :
    Calls Try.prog 15 #[.slice a n ca, .slice b m cb] w fun e w' => e = .returned (.bool true) ∧ ∃ k, w' = w.drewN k := by
  refine (same_any a b n m ca cb la lb w ha hb).mono ?_
  rintro e w' ⟨h1, h2⟩
  exact ⟨by rw [h1, decide_eq_true he], h2⟩

theorem copied_any (a : Option Addr) (n cap : Nat) (l : List Int) (w : World) (h : SV w a n cap l) (hsm : n ≤ 1048576) :
    Calls Try.prog 12 #[.slice a n cap] w fun e w' => ∃ a', e = .returned (.slice a' n n) ∧ Hid (Below w.heap.size w w') ∧ Hid (SV w' a' n n l) := by
  refine (copy_any a n cap l w h hsm).mono ?_
  rintro e w' ⟨hb, a', he, hs⟩
  exact ⟨a', he, hb, hs⟩

theorem SV.news {w : World} {a : Option Addr} {n cap : Nat} {l : List Int} (h : SV w a n cap l) : ∀ ad, a = some ad → ∀ j u, (l.map (Value.int .u8))[j]? = some u → w.cell? (ad.add j) = some u := by
  intro ad hd j u hu
  have hj : j < l.length := by
    have := (List.getElem?_eq_some_iff.1 hu).1
    simpa using this
  obtain ⟨b, off, rfl, hc⟩ := h.cells (by have := h.len; omega)
  obtain rfl := Option.some.inj hd
  rw [Addr.add_lit, hc j (by have := h.len; omega), ← hu, List.getElem?_map, List.getElem?_eq_getElem hj, List.getD_eq_getElem?_getD, List.getElem?_eq_getElem hj]
  rfl

/-- What the walk's 'b[n-r:]' holds. -/
theorem SV.cut {w : World} {a : Option Addr} {n r : Nat} {l : List Int} (h : SV w a n n l) (hr : r ≤ n) (hnr : ¬ n = n - r) :
    SV w (Option.map (fun x => x.add (n - r)) a) (n - (n - r)) (n - (n - r)) (l.drop (n - r)) := by
  have hd := h.drop (n - r) (by omega)
  rw [if_neg hnr, Nat.mul_one] at hd
  exact hd

theorem SV.cut0 {w : World} {a : Option Addr} {n : Nat} {l : List Int} (h : SV w a n n l) : SV w a 0 0 (l.drop n) := by
  have hd := h.drop n (Nat.le_refl _)
  rw [if_pos rfl, Nat.sub_self] at hd
  exact hd

/-- Behind 'make', in a world that has drawn. -/
theorem stage_make {w1 w2 : World} {k c : Nat} (hown : w2.ownsRow w1.heap.size 5 1 (.slice (some ⟨(w1.drewN k).heap.size, 0, none⟩) 0 c) 0 []) (hg : (w1.drewN k).grownBy w2 none) :
    Hid (w2.ownsRow w1.heap.size 5 1 (.slice (some ⟨w1.heap.size, 0, none⟩) 0 c) 0 []) ∧ Hid (Below w1.heap.size w1 w2) :=
  ⟨hown, (below_drewN (Below.refl _ w1) k).grown hg (by simp) (by intro k h; cases h)⟩

theorem stage_make0 {w1 w2 : World} {c : Nat} (hown : w2.ownsRow w1.heap.size 5 1 (.slice (some ⟨w1.heap.size, 0, none⟩) 0 c) 0 []) (hg : w1.grownBy w2 none) :
    Hid (w2.ownsRow w1.heap.size 5 1 (.slice (some ⟨w1.heap.size, 0, none⟩) 0 c) 0 []) ∧ Hid (Below w1.heap.size w1 w2) :=
  ⟨hown, (Below.refl _ w1).grown hg (Nat.le_refl _) (by intro k h; cases h)⟩

/-- Behind an append onto the row that lies at w0's first new block. -/
theorem stage_app {w0 w2 w3 : World} {n m c : Nat} {xs news : List Value} (hb : Hid (Below w0.heap.size w0 w2)) (hown : w3.ownsRow w0.heap.size 5 1 (.slice (some ⟨w0.heap.size, 0, none⟩) (n + m) c) (n + m) (xs ++ news)) (hg : w2.grownBy w3 (some w0.heap.size)) :
    Hid (w3.ownsRow w0.heap.size 5 1 (.slice (some ⟨w0.heap.size, 0, none⟩) (n + m) c) (n + m) (xs ++ news)) ∧ Hid (Below w0.heap.size w0 w3) :=
  ⟨hown, hb.out.grown hg hb.out.size (by intro k h; cases h; exact Nat.le_refl _)⟩

theorem stage_app0 {w0 w2 w3 : World} {m c : Nat} {news : List Value} (hb : Hid (Below w0.heap.size w0 w2)) (hown : w3.ownsRow w0.heap.size 5 1 (.slice (some ⟨w0.heap.size, 0, none⟩) (0 + m) c) (0 + m) ([] ++ news)) (hg : w2.grownBy w3 (some w0.heap.size)) :
    Hid (w3.ownsRow w0.heap.size 5 1 (.slice (some ⟨w0.heap.size, 0, none⟩) m c) m news) ∧ Hid (Below w0.heap.size w0 w3) := by
  rw [Nat.zero_add, List.nil_append] at hown
  exact ⟨hown, hb.out.grown hg hb.out.size (by intro k h; cases h; exact Nat.le_refl _)⟩

theorem stage_appz {w0 w2 w3 : World} {m c : Nat} {xs news : List Value} (hb : Hid (Below w0.heap.size w0 w2)) (hown : w3.ownsRow w0.heap.size 5 1 (.slice (some ⟨w0.heap.size, 0, none⟩) (0 + m) c) (0 + m) (xs ++ news)) (hg : w2.grownBy w3 (some w0.heap.size)) :
    Hid (w3.ownsRow w0.heap.size 5 1 (.slice (some ⟨w0.heap.size, 0, none⟩) m c) m (xs ++ news)) ∧ Hid (Below w0.heap.size w0 w3) := by
  rw [Nat.zero_add] at hown
  exact ⟨hown, hb.out.grown hg hb.out.size (by intro k h; cases h; exact Nat.le_refl _)⟩

theorem row_sv {w : World} {B g n : Nat} {l x : List Int} (h : w.ownsRow B 5 1 (.slice (some ⟨g, 0, none⟩) n n) n (l.map (Value.int .u8) ++ x.map (Value.int .u8))) (hn : l.length + x.length = n) (hmx : n ≤ maxLen) : SV w (some ⟨g, 0, none⟩) n n (l ++ x) := by
  refine BRow.sv (base := B) ?_ (by rw [List.length_append]; exact hn) (Nat.le_refl _) hmx
  unfold BRow
  rw [List.length_append, hn, List.map_append]
  exact h

set_option maxRecDepth 100000 in
set_option maxHeartbeats 1000000 in
/-- The way on which b is read: j the place behind the closing quote. -/
theorem suffix_main (a b : Option Addr) (n m ca cb j : Nat) (l x : List Int) (w : World) (ha : SV w a n ca l) (hb : SV w b m cb x)
    (hn : n ≤ 524288) (hm : m ≤ 524288) (hq : q l = some j) :
    Calls Try.prog 5 #[.slice a n ca, .slice b m cb] w fun e w' => e = .returned (.bool true) ∧ Below w.heap.size w w' := by
  have HA : Hid (SV w a n ca l) := ha
  have HB : Hid (SV w b m cb x) := hb
  have HQ : Hid (q l = some j) := hq
  have HJ := q_bd hq
  rw [ha.len] at HJ
  obtain ⟨r, hr⟩ : ∃ r, n - j = r := ⟨_, rfl⟩
  have hr1 : r + 2 ≤ n := by omega
  have HRn : Hid (n - j = r ∧ n - r = j) := ⟨hr, by omega⟩
  clear ha hb hq HJ hr
  have h1 : decide ((524288 : Int) < (n : Int)) = false := decide_eq_false (by omega)
  have h2 : decide ((524288 : Int) < (m : Int)) = false := decide_eq_false (by omega)
  have h3 : ¬ (n : Int) - 2 < (r : Int) := by omega
  have HQX : Hid (q (l ++ x) = some j) := q_append HQ.out x
  have HLen : Hid (l.length = n ∧ x.length = m) := ⟨HA.out.len, HB.out.len⟩
  obtain ⟨i0, hi, hz0, hz1, hz2⟩ := info_parts Try.info5
  by_cases hr0 : r = 0
  · subst hr0
    go_enter Try.func5, Try.ntmps5
    go_wp2_with (first
      | (go_at_call 18; refine (bytes18_any _ _ _ _ _ _ _ (by omega) (by omega)).mono ?_; rintro e w' ⟨rfl, hw⟩; subst w'; rw [decide_eq_true (by omega)])
      | (go_at_call 12; refine (copied_any _ _ _ _ _ HA.out (by omega)).mono ?_; rintro e w1 ⟨a', rfl, HB1, HV⟩)
      | (go_at_call 13; refine (zzquoted_some _ _ _ _ ((row_sv HO4.out (by rw [HLen.out.1, HLen.out.2]) (by unfold maxLen; omega)).below HB7.out) (by omega) j m HQX.out (by have := HRn.out.1; have := (q_bd HQ.out).2; rw [HLen.out.1] at this; omega)).mono ?_; rintro e w' ⟨hw, ar2, rfl, HR2⟩; subst w')
      | (go_at_call 13; refine (zzquoted_some _ _ _ _ HV.out (by omega) j 0 HQ.out HRn.out.1).mono ?_; rintro e w' ⟨hw, ar, rfl, HR⟩; subst w')
      | (go_at_call 15; refine (same_true _ _ _ _ _ _ _ _ _ HR2.out (row_sv HO7.out (by rw [List.length_drop, HLen.out.1, HLen.out.2, HRn.out.1, Nat.zero_add]) (by unfold maxLen; omega)) (by rw [List.drop_append_of_le_length (q_bd HQ.out).2])).mono ?_; rintro e wx ⟨rfl, k3, hw3⟩; subst hw3)
      | (go_at_call 15; refine (same_true _ _ _ _ _ _ _ _ _ HR.out HV.out.cut0 (by rw [show n = j from HRn.out.2])).mono ?_; rintro e wx ⟨rfl, k2, hw2⟩; subst hw2)
      | (at_make; refine wpList_make_own _ rfl _ (.tmp 52) 22 rfl w1.heap.size 5 i0 (.int .u8 0) 1 Try.underlying22 hi hz0 hz1 .i64 .i64 _ (n + m) rfl rfl (by omega) (by rw [hz2]; omega) (by unfold maxLen; omega) (Nat.le_refl _) ?_; intro w2 hown1 hgrow1; obtain ⟨HO2, HB2⟩ := stage_make (w1 := w1) hown1 hgrow1; clear hown1 hgrow1)
      | (at_builtin; refine wpList_append_fits_any _ rfl (.tmp 54) (.tmp 55) 22 rfl w1.heap.size 5 i0 1 Try.underlying22 hi hz1 w1.heap.size 0 (n + m) [] rfl HO2.out _ n n (l.map (Value.int .u8)) rfl (by rw [List.length_map, HLen.out.1]; omega) (fun e => HV.out.nil e) (HV.out.below HB2.out).news (ints_oneCell _ _) (by omega) ?_; intro w3 hown2 hgrow2; obtain ⟨HO3, HB3⟩ := stage_app0 HB2 hown2 hgrow2; clear hown2 hgrow2)
      | (at_builtin; refine wpList_append_fits_any _ rfl (.tmp 57) (.tmp 58) 22 rfl w1.heap.size 5 i0 1 Try.underlying22 hi hz1 w1.heap.size n (n + m) (l.map (Value.int .u8)) rfl HO3.out _ m cb (x.map (Value.int .u8)) rfl (by rw [List.length_map, HLen.out.2]; omega) (fun e => HB.out.nil e) ((HB.out.below HB1.out).below HB3.out).news (ints_oneCell _ _) (by omega) ?_; intro w4 hown3 hgrow3; obtain ⟨HO4, HB4⟩ := stage_app HB3 hown3 hgrow3; clear hown3 hgrow3)
      | (at_make; refine wpList_make_own _ rfl _ (.tmp 64) 22 rfl w4.heap.size 5 i0 (.int .u8 0) 1 Try.underlying22 hi hz0 hz1 .i64 .i64 _ m rfl rfl (by omega) (by rw [hz2]; omega) (by unfold maxLen; omega) (Nat.le_refl _) ?_; intro w5 hown4 hgrow4; obtain ⟨HO5, HB5⟩ := stage_make0 (w1 := w4) hown4 hgrow4; clear hown4 hgrow4)
      | (at_builtin; refine wpList_append_fits_any _ rfl (.tmp 66) (.tmp 67) 22 rfl w4.heap.size 5 i0 1 Try.underlying22 hi hz1 w4.heap.size 0 m [] rfl HO5.out _ 0 0 ((l.drop j).map (Value.int .u8)) rfl (by rw [List.length_map, List.length_drop, HLen.out.1, HRn.out.1]) (fun e => HR.out.nil e) ((HR.out.below HB4.out).below HB5.out).news (ints_oneCell _ _) (by omega) ?_; intro w6 hown5 hgrow5; obtain ⟨HO6, HB6⟩ := stage_app0 HB5 hown5 hgrow5; clear hown5 hgrow5)
      | (at_builtin; refine wpList_append_fits_any _ rfl (.tmp 69) (.tmp 70) 22 rfl w4.heap.size 5 i0 1 Try.underlying22 hi hz1 w4.heap.size 0 m ((l.drop j).map (Value.int .u8)) rfl HO6.out _ m cb (x.map (Value.int .u8)) rfl (by rw [List.length_map, HLen.out.2]; omega) (fun e => HB.out.nil e) (((HB.out.below HB1.out).below HB4.out).below HB6.out).news (ints_oneCell _ _) (by omega) ?_; intro w7 hown6 hgrow6; obtain ⟨HO7, HB7⟩ := stage_appz HB6 hown6 hgrow6; clear hown6 hgrow6))
    go_ret
    exact ⟨rfl, below_drewN ((HB1.out.trans (HB4.out.mono HB1.out.size)).trans (HB7.out.mono (Nat.le_trans HB1.out.size HB4.out.size))) _⟩
  · have hnr : ¬ n = n - r := by omega
    have hrn : r ≤ n ∧ (n : Int) - (r : Int) ≤ (n : Int) := by omega
    go_enter Try.func5, Try.ntmps5
    go_wp2_with (first
      | (go_at_call 18; refine (bytes18_any _ _ _ _ _ _ _ (by omega) (by omega)).mono ?_; rintro e w' ⟨rfl, hw⟩; subst w'; rw [decide_eq_true (by omega)])
      | (go_at_call 12; refine (copied_any _ _ _ _ _ HA.out (by omega)).mono ?_; rintro e w1 ⟨a', rfl, HB1, HV⟩)
      | (go_at_call 13; refine (zzquoted_some _ _ _ _ ((row_sv HO4.out (by rw [HLen.out.1, HLen.out.2]) (by unfold maxLen; omega)).below HB7.out) (by omega) j (r + m) HQX.out (by have := HRn.out.1; have := (q_bd HQ.out).2; rw [HLen.out.1] at this; omega)).mono ?_; rintro e w' ⟨hw, ar2, rfl, HR2⟩; subst w')
      | (go_at_call 13; refine (zzquoted_some _ _ _ _ HV.out (by omega) j r HQ.out HRn.out.1).mono ?_; rintro e w' ⟨hw, ar, rfl, HR⟩; subst w')
      | (go_at_call 15; refine (same_true _ _ _ _ _ _ _ _ _ HR2.out (row_sv HO7.out (by rw [List.length_drop, HLen.out.1, HLen.out.2, HRn.out.1]) (by unfold maxLen; omega)) (by rw [List.drop_append_of_le_length (q_bd HQ.out).2])).mono ?_; rintro e wx ⟨rfl, k3, hw3⟩; subst hw3)
      | (go_at_call 15; refine (same_true _ _ _ _ _ _ _ _ _ HR.out (HV.out.cut (by omega) hnr) (by rw [HRn.out.2])).mono ?_; rintro e wx ⟨rfl, k2, hw2⟩; subst hw2)
      | (at_make; refine wpList_make_own _ rfl _ (.tmp 52) 22 rfl w1.heap.size 5 i0 (.int .u8 0) 1 Try.underlying22 hi hz0 hz1 .i64 .i64 _ (n + m) rfl rfl (by omega) (by rw [hz2]; omega) (by unfold maxLen; omega) (Nat.le_refl _) ?_; intro w2 hown1 hgrow1; obtain ⟨HO2, HB2⟩ := stage_make (w1 := w1) hown1 hgrow1; clear hown1 hgrow1)
      | (at_builtin; refine wpList_append_fits_any _ rfl (.tmp 54) (.tmp 55) 22 rfl w1.heap.size 5 i0 1 Try.underlying22 hi hz1 w1.heap.size 0 (n + m) [] rfl HO2.out _ n n (l.map (Value.int .u8)) rfl (by rw [List.length_map, HLen.out.1]; omega) (fun e => HV.out.nil e) (HV.out.below HB2.out).news (ints_oneCell _ _) (by omega) ?_; intro w3 hown2 hgrow2; obtain ⟨HO3, HB3⟩ := stage_app0 HB2 hown2 hgrow2; clear hown2 hgrow2)
      | (at_builtin; refine wpList_append_fits_any _ rfl (.tmp 57) (.tmp 58) 22 rfl w1.heap.size 5 i0 1 Try.underlying22 hi hz1 w1.heap.size n (n + m) (l.map (Value.int .u8)) rfl HO3.out _ m cb (x.map (Value.int .u8)) rfl (by rw [List.length_map, HLen.out.2]; omega) (fun e => HB.out.nil e) ((HB.out.below HB1.out).below HB3.out).news (ints_oneCell _ _) (by omega) ?_; intro w4 hown3 hgrow3; obtain ⟨HO4, HB4⟩ := stage_app HB3 hown3 hgrow3; clear hown3 hgrow3)
      | (at_make; refine wpList_make_own _ rfl _ (.tmp 64) 22 rfl w4.heap.size 5 i0 (.int .u8 0) 1 Try.underlying22 hi hz0 hz1 .i64 .i64 _ (r + m) rfl rfl (by omega) (by rw [hz2]; omega) (by unfold maxLen; omega) (Nat.le_refl _) ?_; intro w5 hown4 hgrow4; obtain ⟨HO5, HB5⟩ := stage_make0 (w1 := w4) hown4 hgrow4; clear hown4 hgrow4)
      | (at_builtin; refine wpList_append_fits_any _ rfl (.tmp 66) (.tmp 67) 22 rfl w4.heap.size 5 i0 1 Try.underlying22 hi hz1 w4.heap.size 0 (r + m) [] rfl HO5.out _ r r ((l.drop j).map (Value.int .u8)) rfl (by rw [List.length_map, List.length_drop, HLen.out.1, HRn.out.1]; omega) (fun e => HR.out.nil e) ((HR.out.below HB4.out).below HB5.out).news (ints_oneCell _ _) (by omega) ?_; intro w6 hown5 hgrow5; obtain ⟨HO6, HB6⟩ := stage_app0 HB5 hown5 hgrow5; clear hown5 hgrow5)
      | (at_builtin; refine wpList_append_fits_any _ rfl (.tmp 69) (.tmp 70) 22 rfl w4.heap.size 5 i0 1 Try.underlying22 hi hz1 w4.heap.size r (r + m) ((l.drop j).map (Value.int .u8)) rfl HO6.out _ m cb (x.map (Value.int .u8)) rfl (by rw [List.length_map, HLen.out.2]; omega) (fun e => HB.out.nil e) (((HB.out.below HB1.out).below HB4.out).below HB6.out).news (ints_oneCell _ _) (by omega) ?_; intro w7 hown6 hgrow6; obtain ⟨HO7, HB7⟩ := stage_app HB6 hown6 hgrow6; clear hown6 hgrow6))
    go_ret
    exact ⟨rfl, below_drewN ((HB1.out.trans (HB4.out.mono HB1.out.size)).trans (HB7.out.mono (Nat.le_trans HB1.out.size HB4.out.size))) _⟩

set_option maxHeartbeats 1000000 in
theorem suffix_walk (a b : Option Addr) (n m ca cb : Nat) (l x : List Int) (w : World) (ha : SV w a n ca l) (hb : SV w b m cb x) :
    Calls Try.prog 5 #[.slice a n ca, .slice b m cb] w fun e w' => e = .returned (.bool true) ∧ Below w.heap.size w w' := by
  have HA : Hid (SV w a n ca l) := ha
  have hn9 : n ≤ 9223372036854775807 := by have := ha.le; have := ha.max; unfold maxLen at this; omega
  have hm9 : m ≤ 9223372036854775807 := by have := hb.le; have := hb.max; unfold maxLen at this; omega
  by_cases hs : (n : Int) + m ≤ 1048576
  · by_cases hn : (524288 : Int) < (n : Int)
    · clear ha hb
      go_enter Try.func5, Try.ntmps5
      go_wp2_with (go_at_call 18; refine (bytes18_any _ _ _ _ _ _ _ hn9 hm9).mono ?_; rintro e w' ⟨rfl, hw⟩; subst w'; rw [decide_eq_true hs])
      go_ret
      exact ⟨rfl, Below.refl _ _⟩
    · by_cases hm : (524288 : Int) < (m : Int)
      · clear ha hb
        go_enter Try.func5, Try.ntmps5
        go_wp2_with (go_at_call 18; refine (bytes18_any _ _ _ _ _ _ _ hn9 hm9).mono ?_; rintro e w' ⟨rfl, hw⟩; subst w'; rw [decide_eq_true hs])
        go_ret
        exact ⟨rfl, Below.refl _ _⟩
      · cases hq : q l with
        | some j => exact suffix_main a b n m ca cb j l x w ha hb (by omega) (by omega) hq
        | none =>
          have HQ : Hid (q l = none) := hq
          clear ha hb hq
          go_enter Try.func5, Try.ntmps5
          go_wp2_with (first
            | (go_at_call 18; refine (bytes18_any _ _ _ _ _ _ _ hn9 hm9).mono ?_; rintro e w' ⟨rfl, hw⟩; subst w'; rw [decide_eq_true hs])
            | (go_at_call 12; refine (copied_any _ _ _ _ _ HA.out (by omega)).mono ?_; rintro e w1 ⟨a', rfl, HB1, HV⟩)
            | (go_at_call 13; refine (zzquoted_none _ _ _ _ _ HV.out (by omega) HQ.out).mono ?_; rintro e w' ⟨rfl, hw⟩; subst w'))
          go_ret
          exact ⟨rfl, HB1.out⟩
  · clear ha hb
    go_enter Try.func5, Try.ntmps5
    go_wp2_with (go_at_call 18; refine (bytes18_any _ _ _ _ _ _ _ hn9 hm9).mono ?_; rintro e w' ⟨rfl, hw⟩; subst w'; rw [decide_eq_false hs])
    go_ret
    exact ⟨rfl, Below.refl _ _⟩
end Go.Proofs.Qxb6600506a
