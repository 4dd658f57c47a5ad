import Derived.Test.Qxb6600222aTree
namespace Go.Proofs.Qxb6600222a
open Go.RowKit

theorem Try.info35 : (Try.prog.info? 35).map (fun i => (i.zero, i.size, i.bytes)) = some (some (.pointer none), 1, 8) := by kernel_rfl
theorem Try.info3 : (Try.prog.info? 3).map (fun i => (i.zero, i.size, i.bytes)) = some (some (.int .i64 0), 1, 8) := by kernel_rfl

def parMod : Tx := [122, 122, 45, 112, 97, 114, 101, 110, 116, 45, 109, 111, 100, 117, 108, 101]
def parName : Tx := [122, 122, 45, 112, 97, 114, 101, 110, 116]
/-- The parent, with its children's slice ch. -/
def parObj (base : Int) (ch : Value) : Obj := .cells #[.int .u8 1, .int .i32 0, encStr parMod, encStr parName, encStr [], .pointer none, ch, .int .i64 0, .int .i64 base] 71

/-- The tree of the law's arguments. -/
def treeOf (l0 : List Bool) (l1 l2 : List Tx) (l3 : List Bool) (base : Int) : TreeQ := ⟨atB l0, atS l1, atS l2, fun j => atB l0 j && atB l3 j, base⟩

theorem RowAt.grown {α : Type} {mk : α → Value} {e : TypeId} {w w' : World} {g n : Nat} {l : List α} (h : RowAt mk e w g n l) (hg : w.grownBy w' none) : RowAt mk e w' g n l := h.keep (hg.block g h.lt (by simp))

theorem grove_start {w w1 w2 w3 w4 : World} {n : Nat} {par : Obj} {x2 x3 x4 : List Value} (q : TreeQ) (ht1 : Turned w w1 w.heap.size par)
    (ho2 : w2.ownsRow w1.heap.size 35 1 (.slice (some ⟨w1.heap.size, 0, none⟩) n n) n x2) (hg2 : w1.grownBy w2 none)
    (ho3 : w3.ownsRow w2.heap.size 35 1 (.slice (some ⟨w2.heap.size, 0, none⟩) n n) n x3) (hg3 : w2.grownBy w3 none)
    (ho4 : w4.ownsRow w3.heap.size 3 1 (.slice (some ⟨w3.heap.size, 0, none⟩) n n) n x4) (hg4 : w3.grownBy w4 none) :
    Grove ⟨w.heap.size, w1.heap.size, w2.heap.size, w3.heap.size⟩ w w4 n 0 par q [] := by
  have r2 : RowAt ptr 35 w2 w1.heap.size n [] := RowAt.made ho2
  have r3 : RowAt ptr 35 w3 w2.heap.size n [] := RowAt.made ho3
  have r4 : RowAt (Value.int .i64) 3 w4 w3.heap.size n [] := RowAt.made ho4
  have l1 := lt_of_heap ht1.at_
  have l2 := r2.lt
  have l3 := r3.lt
  have l4 := r4.lt
  have p2 : w2.heap[w.heap.size]? = some par := (hg2.block _ l1 (by simp)).trans ht1.at_
  have p3 : w3.heap[w.heap.size]? = some par := (hg3.block _ (by omega) (by simp)).trans p2
  have p4 : w4.heap[w.heap.size]? = some par := (hg4.block _ (by omega) (by simp)).trans p3
  have b1 : Below w.heap.size w w1 := (Below.refl _ w).grown ht1.grown (Nat.le_refl _) (by intro k h; injection h with h; omega)
  have b2 := b1.grown hg2 (by omega) (by intro k h; cases h)
  have b3 := b2.grown hg3 (by omega) (by intro k h; cases h)
  have b4 := b3.grown hg4 (by omega) (by intro k h; cases h)
  refine ⟨⟨fun _ _ _ hx => hx, p4, (r2.grown hg3).grown hg4, r3.grown hg4, r4, b4, Nat.le_refl _, l4, rfl, l1, l2, l3⟩, rfl, fun j b hj => by simp at hj, List.nodup_nil⟩

theorem set2_past {z : Pl} {w wr W : World} {n : Nat} {par : Obj} {lk lo : List Nat} {os : List Int} (h : Mid z w wr W n par lk lo os) {c k : Nat} {u v : Value} {x : Obj} (hc : z.R < c) (hx : W.heap[c]? = some x) :
    ((W.setCell ⟨z.K, k, none⟩ u).setCell ⟨z.O, k, none⟩ v).heap[c]? = some x := by
  have := h.ko
  have := h.or
  rw [heap_setCell_other _ _ _ _ (by simp; omega), heap_setCell_other _ _ _ _ (by simp; omega)]
  exact hx

theorem Grove.done {z : Pl} {w wr W : World} {n : Nat} {p p' : Obj} {q : TreeQ} {cb : List Nat} (h : Grove z w wr n n p q cb) (ht : Turned wr W z.P p') : Grove z w W n n p' q cb := by
  have h1 := h.mid.isP
  have h2 := h.mid.pk
  have h3 := h.mid.ko
  have h4 := h.mid.or
  have h5 := h.mid.room
  have kx : KeepX z wr W := ⟨fun c _ hc hx => ht.other hx (by omega), fun c _ _ _ _ _ _ _ ix _ hc hx => ⟨ix, ht.other hx (by omega)⟩⟩
  refine ⟨⟨fun _ _ _ hx => hx, ht.at_, h.mid.kids.turned ht (by omega), h.mid.orig.turned ht (by omega), h.mid.ord.turned ht (by omega), ?_, Nat.le_refl _, ?_, h1, h2, h3, h4⟩, h.len, fun j b hj => (h.kid j b hj).keep kx, h.nodup⟩
  · exact h.mid.bel.grown ht.grown (by omega) (by intro k hk; injection hk with hk; omega)
  · have := ht.grown.size; omega

/-- What 'buildTreeB1' leaves. -/
def BuiltEnd (w : World) (n : Nat) (q : TreeQ) (e : Ending) (W : World) : Prop :=
  ∃ z cb, e = .returned (.tuple #[ptr z.P, .slice (some ⟨z.O, 0, none⟩) n n, .slice (some ⟨z.R, 0, none⟩) n n, .int .i64 (q.ord n - 1)]) ∧ Grove z w W n n (parObj q.base (.slice (some ⟨z.K, 0, none⟩) n n)) q cb

set_option maxHeartbeats 4000000 in
set_option maxRecDepth 100000 in
theorem build_any (a0 a1 a2 a3 : Option Addr) (n n1 n2 n3 c0 c1 c2 c3 : Nat) (l0 l3 : List Bool) (l1 l2 : List Tx) (base : Int) (w : World)
    (h0 : SV Value.bool w a0 n c0 l0) (h1 : SV encStr w a1 n1 c1 l1) (h2 : SV encStr w a2 n2 c2 l2) (h3 : SV Value.bool w a3 n3 c3 l3) (hn : n ≤ 65536) (hb0 : 0 ≤ base) (hb1 : base ≤ 1073741824) :
    Calls Try.prog 19 #[.slice a0 n c0, .slice a1 n1 c1, .slice a2 n2 c2, .slice a3 n3 c3, .int .i64 base] w (BuiltEnd w n (treeOf l0 l1 l2 l3 base)) := by
  have A0 : Hid (SV Value.bool w a0 n c0 l0) := h0
  have A1 : Hid (SV encStr w a1 n1 c1 l1) := h1
  have A2 : Hid (SV encStr w a2 n2 c2 l2) := h2
  have A3 : Hid (SV Value.bool w a3 n3 c3 l3) := h3
  have hmx : n ≤ maxLen := by unfold maxLen; omega
  clear h0 h1 h2 h3
  have QE : Hid (∀ j, (treeOf l0 l1 l2 l3 base).el j = atB l0 j) := fun _ => rfl
  have QM : Hid (∀ j, (treeOf l0 l1 l2 l3 base).md j = atS l1 j) := fun _ => rfl
  have QN : Hid (∀ j, (treeOf l0 l1 l2 l3 base).nm j = atS l2 j) := fun _ => rfl
  have QG : Hid (∀ j, (treeOf l0 l1 l2 l3 base).gr j = (atB l0 j && atB l3 j)) := fun _ => rfl
  have QB : Hid ((treeOf l0 l1 l2 l3 base).base = base) := rfl
  generalize treeOf l0 l1 l2 l3 base = q at *
  obtain ⟨i5, hi5, hy0, hy1, hy2⟩ := info_parts Try.info35
  obtain ⟨i3, hi3, hz0, hz1, hz2⟩ := info_parts Try.info3
  go_enter Try.func19, Try.ntmps19
  go_wp2_with fail
  refine (new38 1 base parMod parName [] w).mono ?_
  rintro e w1 ⟨rfl, ht1⟩
  go_wp2_with (at_make; first | (refine wpList_make_full _ rfl (.tmp 29) (.tmp 29) 36 rfl w1.heap.size 35 i5 (.pointer none) 1 Try.underlying36 hi5 hy0 hy1 .i64 .i64 _ _ n rfl rfl rfl rfl (by rw [hy2]; omega) hmx (Nat.le_refl _) ?_; intro w2 hown2 hgrow2) | (refine wpList_make_full _ rfl (.tmp 31) (.tmp 31) 36 rfl w2.heap.size 35 i5 (.pointer none) 1 Try.underlying36 hi5 hy0 hy1 .i64 .i64 _ _ n rfl rfl rfl rfl (by rw [hy2]; omega) hmx (Nat.le_refl _) ?_; intro w3 hown3 hgrow3) | (refine wpList_make_full _ rfl (.tmp 33) (.tmp 33) 37 rfl w3.heap.size 3 i3 (.int .i64 0) 1 Try.underlying37 hi3 hz0 hz1 .i64 .i64 _ _ n rfl rfl rfl rfl (by rw [hz2]; omega) hmx (Nat.le_refl _) ?_; intro w4 hown4 hgrow4))
  have hG0 := grove_start q ht1 hown2 hgrow2 hown3 hgrow3 hown4 hgrow4
  clear ht1 hown2 hgrow2 hown3 hgrow3 hown4 hgrow4 hi5 hy0 hy1 hy2 hi3 hz0 hz1 hz2
  generalize ez : (⟨w.heap.size, w1.heap.size, w2.heap.size, w3.heap.size⟩ : Pl) = z at hG0
  have e1 : w.heap.size = z.P := by rw [← ez]
  have e2 : w1.heap.size = z.K := by rw [← ez]
  have e3 : w2.heap.size = z.O := by rw [← ez]
  have e4 : w3.heap.size = z.R := by rw [← ez]
  rw [e2, e3, e4]
  have HG0 : Hid (Grove z w w4 n 0 (parObj base (.slice none 0 0)) q []) := hG0
  have E1 : Hid (w.heap.size = z.P) := e1
  unfold ptr
  rw [e1]
  clear ez hG0 e1 e2 e3 e4
  go_wp2
  go_loopw [19, 20] (fun nx i wr => ∃ (k : Nat) (cb : List Nat), k ≤ n ∧ i = .int .i64 k ∧ nx = .int .i64 (q.ord k) ∧ Grove z w wr n k (parObj base (.slice none 0 0)) q cb) (fun _ i _ => n - (intOf i).toNat)
  case atStart => exact ⟨0, [], Nat.zero_le _, rfl, by rw [TreeQ.ord, QB.out], HG0.out⟩
  case round =>
    clear HG0
    obtain ⟨k, cb, hk, rfl, rfl, hG⟩ := hrel
    have HG : Hid (Grove z w wr n k (parObj base (.slice none 0 0)) q cb) := hG
    have ho1 : 0 ≤ q.ord k := by have := (q.ord_bound k).1; rw [QB.out] at this; omega
    have ho2 : q.ord k ≤ 1073741824 + 1 + 2 * 65536 := by have := (q.ord_bound k).2; rw [QB.out] at this; omega
    have HO : Hid (q.ord (k + 1) = q.ord k + 1 + (if q.gr k then 1 else 0)) := by show q.ord (k + 1) = _; rw [TreeQ.ord]
    clear hG
    generalize eo : q.ord k = o at ho1 ho2 HO ⊢
    have EO : Hid (q.ord k = o) := eo
    clear eo
    by_cases hlt : k < n
    · obtain ⟨b0, f0, el, ea, hc, HX⟩ := A0.out.at k hlt
      subst ea
      have hx : wr.cell? ⟨b0, f0 + k, none⟩ = some (.bool el) := (HG.out.mid.bel.cell (World.block_lt_of_cell? _ _ hc)).trans hc
      have hlt' : (k : Int) < (n : Int) := by omega
      have HE : Hid (q.el k = el) := (QE.out k).trans HX.out
      cases el with
      | false =>
        go_wp2_with fail
        refine (atS_any _ _ _ l1 k wr (A1.out.below HG.out.mid.bel)).mono ?_
        rintro e w' ⟨rfl, hw⟩
        subst w'
        go_wp2_with fail
        refine (atS_any _ _ _ l2 k wr (A2.out.below HG.out.mid.bel)).mono ?_
        rintro e w' ⟨rfl, hw⟩
        subst w'
        go_wp2_with fail
        refine (new38 2 o (atS l1 k) (atS l2 k) [116] wr).mono ?_
        rintro e v1 ⟨rfl, ht1⟩
        have T1 : Hid (Turned _ _ _ _) := ht1
        have M1 : Hid (Mid z w wr v1 n (parObj base (.slice none 0 0)) cb cb ((List.range k).map q.ord)) := HG.out.mid.turned ht1 (Nat.le_refl _)
        have HR : Hid (z.R < wr.heap.size) := HG.out.mid.room
        obtain ⟨y1, hy1⟩ := M1.out.ord.slot k hlt
        have hf1 := M1.out.ord.frozen k
        have M2 : Hid (Mid z w wr (v1.setCell ⟨z.R, k, none⟩ (.int .i64 o)) n (parObj base (.slice none 0 0)) cb cb ((List.range k).map q.ord ++ [o])) := M1.out.setOrd (by simp) hlt o
        clear ht1
        go_wp2_with fail
        refine (set39 wr.heap.size _ _ _ _ _ _ _ _ _ z.P _ ((heap_setCell_other v1 _ _ _ (by have := HR.out; simp; omega)).trans T1.out.at_)).mono ?_
        rintro e v3 ⟨rfl, ht3⟩
        have T3 : Hid (Turned _ _ _ _) := ht3
        have M3 : Hid (Mid z w wr v3 n (parObj base (.slice none 0 0)) cb cb ((List.range k).map q.ord ++ [o])) := M2.out.turned ht3 (Nat.le_refl _)
        clear ht3 hy1 hf1 M1 M2 T1
        go_wp2_with fail
        refine (set40 wr.heap.size _ _ _ _ _ _ _ _ _ k v3 T3.out.at_).mono ?_
        rintro e v4 ⟨rfl, ht4⟩
        have T4 : Hid (Turned _ _ _ _) := ht4
        have M4 : Hid (Mid z w wr v4 n (parObj base (.slice none 0 0)) cb cb ((List.range k).map q.ord ++ [o])) := M3.out.turned ht4 (Nat.le_refl _)
        have hx4 : v4.cell? ⟨b0, f0 + k, none⟩ = some (.bool false) := (M4.out.bel.cell (World.block_lt_of_cell? _ _ hc)).trans hc
        clear ht4 M3 T3
        have HM : Hid (q.md k = atS l1 k) := QM.out k
        have HNm : Hid (q.nm k = atS l2 k) := QN.out k
        have HGr : Hid (q.gr k = false) := by show q.gr k = false; rw [QG.out k, ← QE.out k, HE.out]; rfl
        obtain ⟨y5, hy5⟩ := M4.out.kids.slot k hlt
        have hf5 := M4.out.kids.frozen k
        have M8 : Hid (Mid z w wr (v4.setCell ⟨z.K, k, none⟩ (ptr wr.heap.size)) n (parObj base (.slice none 0 0)) (cb ++ [wr.heap.size]) cb ((List.range k).map q.ord ++ [o])) := M4.out.setKids HG.out.len hlt _
        obtain ⟨y6, hy6⟩ := M8.out.orig.slot k hlt
        have hf6 := M8.out.orig.frozen k
        have M9 : Hid (Mid z w wr ((v4.setCell ⟨z.K, k, none⟩ (ptr wr.heap.size)).setCell ⟨z.O, k, none⟩ (ptr wr.heap.size)) n (parObj base (.slice none 0 0)) (cb ++ [wr.heap.size]) (cb ++ [wr.heap.size]) ((List.range k).map q.ord ++ [o])) := M8.out.setOrig HG.out.len hlt _
        have KD : Hid (Kid ((v4.setCell ⟨z.K, k, none⟩ (ptr wr.heap.size)).setCell ⟨z.O, k, none⟩ (ptr wr.heap.size)) z wr.heap.size false (atS l1 k) (atS l2 k) false o) := ⟨HR.out, _, _, set2_past M4.out HR.out T4.out.at_, .inl ⟨rfl, rfl⟩⟩
        have HN : Hid (Grove z w ((v4.setCell ⟨z.K, k, none⟩ (ptr wr.heap.size)).setCell ⟨z.O, k, none⟩ (ptr wr.heap.size)) n (k + 1) (parObj base (.slice none 0 0)) q (cb ++ [wr.heap.size])) := HG.out.next (Nat.le_refl _) (by rw [EO.out]; exact M9.out) (by rw [HE.out, HM.out, HNm.out, HGr.out, EO.out]; exact KD.out)
        unfold ptr at *
        clear M8 M9 M4 T4 KD hx hc
        go_wp2
        go_roundw
        case rel => exact ⟨k + 1, _, by omega, by go_num, by rw [HO.out, HGr.out]; simp, HN.out⟩
        case measure => simp [intOf]; omega
      | true =>
        go_wp2_with fail
        refine (atS_any _ _ _ l1 k wr (A1.out.below HG.out.mid.bel)).mono ?_
        rintro e w' ⟨rfl, hw⟩
        subst w'
        go_wp2_with fail
        refine (atS_any _ _ _ l2 k wr (A2.out.below HG.out.mid.bel)).mono ?_
        rintro e w' ⟨rfl, hw⟩
        subst w'
        go_wp2_with fail
        refine (new38 1 o (atS l1 k) (atS l2 k) [] wr).mono ?_
        rintro e v1 ⟨rfl, ht1⟩
        have T1 : Hid (Turned _ _ _ _) := ht1
        have M1 : Hid (Mid z w wr v1 n (parObj base (.slice none 0 0)) cb cb ((List.range k).map q.ord)) := HG.out.mid.turned ht1 (Nat.le_refl _)
        have HR : Hid (z.R < wr.heap.size) := HG.out.mid.room
        obtain ⟨y1, hy1⟩ := M1.out.ord.slot k hlt
        have hf1 := M1.out.ord.frozen k
        have M2 : Hid (Mid z w wr (v1.setCell ⟨z.R, k, none⟩ (.int .i64 o)) n (parObj base (.slice none 0 0)) cb cb ((List.range k).map q.ord ++ [o])) := M1.out.setOrd (by simp) hlt o
        clear ht1
        go_wp2_with fail
        refine (set39 wr.heap.size _ _ _ _ _ _ _ _ _ z.P _ ((heap_setCell_other v1 _ _ _ (by have := HR.out; simp; omega)).trans T1.out.at_)).mono ?_
        rintro e v3 ⟨rfl, ht3⟩
        have T3 : Hid (Turned _ _ _ _) := ht3
        have M3 : Hid (Mid z w wr v3 n (parObj base (.slice none 0 0)) cb cb ((List.range k).map q.ord ++ [o])) := M2.out.turned ht3 (Nat.le_refl _)
        clear ht3 hy1 hf1 M1 M2 T1
        go_wp2_with fail
        refine (set40 wr.heap.size _ _ _ _ _ _ _ _ _ k v3 T3.out.at_).mono ?_
        rintro e v4 ⟨rfl, ht4⟩
        have T4 : Hid (Turned _ _ _ _) := ht4
        have M4 : Hid (Mid z w wr v4 n (parObj base (.slice none 0 0)) cb cb ((List.range k).map q.ord ++ [o])) := M3.out.turned ht4 (Nat.le_refl _)
        have hx4 : v4.cell? ⟨b0, f0 + k, none⟩ = some (.bool true) := (M4.out.bel.cell (World.block_lt_of_cell? _ _ hc)).trans hc
        clear ht4 M3 T3
        have HM : Hid (q.md k = atS l1 k) := QM.out k
        have HNm : Hid (q.nm k = atS l2 k) := QN.out k
        have HA : Hid (q.gr k = atB l3 k) := by show q.gr k = atB l3 k; rw [QG.out k, ← QE.out k, HE.out]; rfl
        go_wp2_with fail
        refine (atB_any _ _ _ l3 k v4 (A3.out.below M4.out.bel)).mono ?_
        rintro e w' ⟨rfl, hw⟩
        subst w'
        generalize atB l3 k = gr at HA
        have HGr : Hid (q.gr k = gr) := HA
        cases gr with
        | false =>
          obtain ⟨y5, hy5⟩ := M4.out.kids.slot k hlt
          have hf5 := M4.out.kids.frozen k
          have M8 : Hid (Mid z w wr (v4.setCell ⟨z.K, k, none⟩ (ptr wr.heap.size)) n (parObj base (.slice none 0 0)) (cb ++ [wr.heap.size]) cb ((List.range k).map q.ord ++ [o])) := M4.out.setKids HG.out.len hlt _
          obtain ⟨y6, hy6⟩ := M8.out.orig.slot k hlt
          have hf6 := M8.out.orig.frozen k
          have M9 : Hid (Mid z w wr ((v4.setCell ⟨z.K, k, none⟩ (ptr wr.heap.size)).setCell ⟨z.O, k, none⟩ (ptr wr.heap.size)) n (parObj base (.slice none 0 0)) (cb ++ [wr.heap.size]) (cb ++ [wr.heap.size]) ((List.range k).map q.ord ++ [o])) := M8.out.setOrig HG.out.len hlt _
          have KD : Hid (Kid ((v4.setCell ⟨z.K, k, none⟩ (ptr wr.heap.size)).setCell ⟨z.O, k, none⟩ (ptr wr.heap.size)) z wr.heap.size true (atS l1 k) (atS l2 k) false o) := ⟨HR.out, _, _, set2_past M4.out HR.out T4.out.at_, .inl ⟨rfl, rfl⟩⟩
          have HN : Hid (Grove z w ((v4.setCell ⟨z.K, k, none⟩ (ptr wr.heap.size)).setCell ⟨z.O, k, none⟩ (ptr wr.heap.size)) n (k + 1) (parObj base (.slice none 0 0)) q (cb ++ [wr.heap.size])) := HG.out.next (Nat.le_refl _) (by rw [EO.out]; exact M9.out) (by rw [HE.out, HM.out, HNm.out, HGr.out, EO.out]; exact KD.out)
          unfold ptr at *
          clear M8 M9 M4 T4 KD hx hc
          go_wp2
          go_roundw
          case rel => exact ⟨k + 1, _, by omega, by go_num, by rw [HO.out, HGr.out]; simp, HN.out⟩
          case measure => simp [intOf]; omega
        | true =>
          go_wp2_with fail
          refine (new38 2 (o + 1) [] [] [103] v4).mono ?_
          rintro e v5 ⟨rfl, ht5⟩
          have T5 : Hid (Turned _ _ _ _) := ht5
          have M5 : Hid (Mid z w wr v5 n (parObj base (.slice none 0 0)) cb cb ((List.range k).map q.ord ++ [o])) := M4.out.turned ht5 M4.out.size
          have L4 : Hid (wr.heap.size < v4.heap.size) := lt_of_heap T4.out.at_
          have C5 : Hid (_ = _) := ht5.other T4.out.at_ (Nat.ne_of_lt L4.out)
          have hx5 : v5.cell? ⟨b0, f0 + k, none⟩ = some (.bool true) := (M5.out.bel.cell (World.block_lt_of_cell? _ _ hc)).trans hc
          clear ht5
          go_wp2_with fail
          refine (set39 v4.heap.size _ _ _ _ _ _ _ _ _ wr.heap.size v5 T5.out.at_).mono ?_
          rintro e v6 ⟨rfl, ht6⟩
          have T6 : Hid (Turned _ _ _ _) := ht6
          have M6 : Hid (Mid z w wr v6 n (parObj base (.slice none 0 0)) cb cb ((List.range k).map q.ord ++ [o])) := M5.out.turned ht6 M4.out.size
          have C6 : Hid (_ = _) := ht6.other C5.out (Nat.ne_of_lt L4.out)
          have ta := turned_alloc v6 (.cells #[ptr v4.heap.size] 35)
          have TA : Hid (Turned _ _ _ _) := ta
          have L6 : Hid (v4.heap.size < v6.heap.size) := lt_of_heap T6.out.at_
          have M6a : Hid (Mid z w wr (v6.alloc (.cells #[ptr v4.heap.size] 35)) n (parObj base (.slice none 0 0)) cb cb ((List.range k).map q.ord ++ [o])) := M6.out.turned ta M6.out.size
          have C6a : Hid (_ = _) := ta.other C6.out (by have := L4.out; have := L6.out; omega)
          have G6a : Hid (_ = _) := ta.other T6.out.at_ (Nat.ne_of_lt L6.out)
          clear ht6 ta
          unfold ptr
          go_wp2_with fail
          refine (set42 wr.heap.size _ _ _ _ _ _ _ _ _ _ _ _ (v6.alloc (.cells #[ptr v4.heap.size] 35)) C6a.out).mono ?_
          rintro e v7 ⟨rfl, ht7⟩
          have T7 : Hid (Turned _ _ _ _) := ht7
          have M7 : Hid (Mid z w wr v7 n (parObj base (.slice none 0 0)) cb cb ((List.range k).map q.ord ++ [o])) := M6a.out.turned ht7 (Nat.le_refl _)
          have G7 : Hid (_ = _) := ht7.other G6a.out (Nat.ne_of_gt L4.out)
          have R7 : Hid (_ = _) := ht7.other TA.out.at_ (by have := L4.out; have := L6.out; omega)
          have hx7 : v7.cell? ⟨b0, f0 + k, none⟩ = some (.bool true) := (M7.out.bel.cell (World.block_lt_of_cell? _ _ hc)).trans hc
          clear ht7
          obtain ⟨y5, hy5⟩ := M7.out.kids.slot k hlt
          have hf5 := M7.out.kids.frozen k
          have M8 : Hid (Mid z w wr (v7.setCell ⟨z.K, k, none⟩ (ptr wr.heap.size)) n (parObj base (.slice none 0 0)) (cb ++ [wr.heap.size]) cb ((List.range k).map q.ord ++ [o])) := M7.out.setKids HG.out.len hlt _
          obtain ⟨y6, hy6⟩ := M8.out.orig.slot k hlt
          have hf6 := M8.out.orig.frozen k
          have M9 : Hid (Mid z w wr ((v7.setCell ⟨z.K, k, none⟩ (ptr wr.heap.size)).setCell ⟨z.O, k, none⟩ (ptr wr.heap.size)) n (parObj base (.slice none 0 0)) (cb ++ [wr.heap.size]) (cb ++ [wr.heap.size]) ((List.range k).map q.ord ++ [o])) := M8.out.setOrig HG.out.len hlt _
          have KD : Hid (Kid ((v7.setCell ⟨z.K, k, none⟩ (ptr wr.heap.size)).setCell ⟨z.O, k, none⟩ (ptr wr.heap.size)) z wr.heap.size true (atS l1 k) (atS l2 k) true o) := ⟨HR.out, _, _, set2_past M7.out HR.out T7.out.at_, .inr ⟨rfl, v6.heap.size, v4.heap.size, _, _, rfl, by have := HR.out; have := L4.out; omega, by have := HR.out; have := L4.out; have := L6.out; omega, set2_past M7.out (by have := HR.out; have := L4.out; have := L6.out; omega) R7.out, set2_past M7.out (by have := HR.out; have := L4.out; omega) G7.out⟩⟩
          have HN : Hid (Grove z w ((v7.setCell ⟨z.K, k, none⟩ (ptr wr.heap.size)).setCell ⟨z.O, k, none⟩ (ptr wr.heap.size)) n (k + 1) (parObj base (.slice none 0 0)) q (cb ++ [wr.heap.size])) := HG.out.next (Nat.le_refl _) (by rw [EO.out]; exact M9.out) (by rw [HE.out, HM.out, HNm.out, HGr.out, EO.out]; exact KD.out)
          unfold ptr at *
          clear M8 M9 M7 T7 KD hx hc
          go_wp2
          go_roundw
          case rel => exact ⟨k + 1, _, by omega, by go_num, by rw [HO.out, HGr.out]; simp, HN.out⟩
          case measure => simp [intOf]; omega
    · have e : k = n := by omega
      subst e
      go_wp2_with fail
      refine (set42 z.P _ _ _ _ _ _ _ _ _ _ _ _ wr HG.out.mid.par).mono ?_
      rintro e v7 ⟨rfl, ht7⟩
      have HF : Hid (Grove z w v7 k k (parObj base (.slice (some ⟨z.K, 0, none⟩) k k)) q cb) := HG.out.done ht7
      clear ht7
      go_wp2
      refine bodyPost_ret (by simp [results, Try.results19, go_sem]; try rfl) rfl ?_
      refine ⟨z, cb, ?_, by rw [QB.out]; exact HF.out⟩
      rw [EO.out]
      rfl

end Go.Proofs.Qxb6600222a
