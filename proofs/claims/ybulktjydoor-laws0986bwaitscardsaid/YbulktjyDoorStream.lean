import Derived.Test.YbulktjyDoorWait2
import Derived.Test.YbulktjyDoorStamp
namespace Go.Proofs.YbulktjyDoor
open Go.RowKit

def newStamp (old : Int) : Int := if old = 4294967295 then 1 else old + 1

theorem wrap_last {old : Int} (h : old = 4294967295) : IntKind.u32.wrap (old + 1) = 0 := by
  subst h
  decide

theorem restamp_any {w : World} {sb base gw n cw : Nat} {an exv wv : Value} {sd : Bool} {old : Int} {xs : List Value} (hR : RSet w sb base an exv wv sd old gw n cw xs) (hx : ∀ k, k < n → ∃ hd, EntAt xs k old hd) (hb : base ≤ w.heap.size) (h0 : 0 ≤ old) (h1 : old ≤ 4294967295) :
    Calls Ybad.prog 9 #[.pointer (some ⟨sb, 0, none⟩)] w fun e w' => e = .returned (.tuple #[]) ∧ ∃ xs', RSet w' sb base an exv wv sd (newStamp old) gw n cw xs' ∧ Stale xs' n (newStamp old) ∧ StFrame base w w' ∧ ∀ v m zs, w.ownsRow base 72 2 v m zs → w'.ownsRow base 72 2 v m zs := by
  by_cases e : old = 4294967295
  · have hns : newStamp old = 1 := by unfold newStamp; rw [if_pos e]
    rw [hns]
    refine (restamp_wrap hR hb (wrap_last e)).mono ?_
    rintro e w' ⟨rfl, hR', hf, hw⟩
    exact ⟨rfl, zeros n, hR', fun k hk => ⟨0, 0, zeros_ent n k hk, by decide⟩, hf, hw⟩
  · have hns : newStamp old = old + 1 := by unfold newStamp; rw [if_neg e]
    rw [hns]
    refine (restamp_up hR h0 (by omega)).mono ?_
    rintro e w' ⟨rfl, rfl⟩
    obtain ⟨hR', hf, hw⟩ := stamp_step (old + 1) hR hb
    exact ⟨rfl, xs, hR', fun k hk => by obtain ⟨hd, he⟩ := hx k hk; exact ⟨old, hd, he, by omega⟩, hf, hw⟩

/-- one field of the run set is stored: the field's place, and what the cells then are -/
theorem field_step {w : World} {sb base gw n cw gw' n' cw' : Nat} {an exv wv an' exv' wv' : Value} {sd sd' : Bool} {st st' : Int} {xs : List Value} (j : Nat) (u : Value) (hR : RSet w sb base an exv wv sd st gw n cw xs) (hb : base ≤ w.heap.size)
    (hc : (rsCells an sd exv wv (.slice (some ⟨gw, 0, none⟩) n cw) st).setIfInBounds j u = rsCells an' sd' exv' wv' (.slice (some ⟨gw', 0, none⟩) n' cw') st') :
    (w.setCell ⟨sb, j, none⟩ u).heap[sb]? = some (.cells (rsCells an' sd' exv' wv' (.slice (some ⟨gw', 0, none⟩) n' cw') st') 84 (0, 0)) ∧ (∀ v m zs, w.ownsRow base 69 4 v m zs → (w.setCell ⟨sb, j, none⟩ u).ownsRow base 69 4 v m zs) ∧
    StFrame base w (w.setCell ⟨sb, j, none⟩ u) ∧ ∀ v m zs, w.ownsRow base 72 2 v m zs → (w.setCell ⟨sb, j, none⟩ u).ownsRow base 72 2 v m zs := by
  obtain ⟨hsb, hown, hbs⟩ := hR
  have g := grownBy_setCell w ⟨sb, j, none⟩ u
  refine ⟨?_, fun v m zs h => own_other h g hsb (by decide), (StFrame.refl _ _).grown g hb ?_, fun v m zs h => own_other h g hsb (by decide)⟩
  · rw [heap_setCell_same w sb j _ 84 _ hsb, hc]
  · intro k e
    simp at e
    subst e
    exact ⟨hbs, _, 84, (0, 0), hsb, .inl rfl⟩

/-- the anchors that the run begins at -/
def Anch (w : World) (ao : Option Addr) (m : Nat) (sa : Nat → Nat) : Prop := ∀ i, i < m → ∃ g cur, ao = some ⟨g, 0, none⟩ ∧ w.heap[g]? = some (.cells cur 24 (0, 0)) ∧ cur[i]? = some (.int .u32 (sa i : Nat))
theorem Anch.kept {w w' : World} {ao : Option Addr} {m base : Nat} {sa : Nat → Nat} (h : Anch w ao m sa) (hf : StFrame base w w') : Anch w' ao m sa := by
  intro i hi
  obtain ⟨g, cur, e, hh, hc⟩ := h i hi
  exact ⟨g, cur, e, hf.kept _ _ _ _ hh (by decide) (by decide) (by decide), hc⟩

theorem info69 : (Ybad.prog.info? 69).map (fun i => (i.zero, i.size, i.bytes)) = some (some zeroV, 4, 16) := by kernel_rfl

theorem own_ptr {w : World} {base : Nat} {e : TypeId} {size n cap : Nat} {ao : Option Addr} {xs : List Value} (h : w.ownsRow base e size (.slice ao n cap) n xs) : (ao = none ∧ n = 0 ∧ cap = 0) ∨ ∃ g, ao = some ⟨g, 0, none⟩ := by
  rcases h.2 with ⟨e, h0⟩ | ⟨g, cap', cur, e, _⟩
  · simp at e
    exact .inl ⟨e.1, h0, e.2.2⟩
  · simp at e
    exact .inr ⟨g, e.1⟩

theorem made_zeros : (madeCells zeroV.cells (11 * 4)).toList = zeros 11 := by kernel_rfl

theorem made_step {w0 w3 w4 : World} {sb base gw n cw mw : Nat} {an exv wv : Value} {sd : Bool} {ns : Int} {xs zs : List Value} (hR : RSet w3 sb base an exv wv sd ns gw n cw xs) (hf : StFrame base w0 w3) (hw : w3.ownsRow base 72 2 wv mw zs)
    (hown4 : w4.ownsRow base 69 4 (.slice (some ⟨w3.heap.size, 0, none⟩) 11 11) 11 (madeCells zeroV.cells (11 * 4)).toList) (hg : w3.grownBy w4 none) (hb : base ≤ w3.heap.size) :
    w4.heap[sb]? = some (.cells (rsCells an sd exv wv (.slice (some ⟨gw, 0, none⟩) n cw) ns) 84 (0, 0)) ∧
    RSet (w4.setCell ⟨sb, 15, none⟩ (.slice (some ⟨w3.heap.size, 0, none⟩) 11 11)) sb base an exv wv sd ns w3.heap.size 11 11 (zeros 11) ∧
    StFrame base w0 (w4.setCell ⟨sb, 15, none⟩ (.slice (some ⟨w3.heap.size, 0, none⟩) 11 11)) ∧ (w4.setCell ⟨sb, 15, none⟩ (.slice (some ⟨w3.heap.size, 0, none⟩) 11 11)).ownsRow base 72 2 wv mw zs := by
  have hR4 : RSet w4 sb base an exv wv sd ns gw n cw xs := ⟨blk_none hg hR.1, own_none hR.2.1 hg, hR.2.2⟩
  have hb4 : base ≤ w4.heap.size := Nat.le_trans hb hg.size
  obtain ⟨h1, h2, h3, h4⟩ := field_step (an' := an) (exv' := exv) (wv' := wv) (sd' := sd) (st' := ns) (gw' := w3.heap.size) (n' := 11) (cw' := 11) 15 (.slice (some ⟨w3.heap.size, 0, none⟩) 11 11) hR4 hb4 rfl
  rw [made_zeros] at hown4
  exact ⟨hR4.1, ⟨h1, h2 _ _ _ hown4, hR.2.2⟩, (hf.grown hg hb (by simp)).trans h3, h4 _ _ _ (own_none hw hg)⟩

theorem allTo_lenTo (ch fst cnt nd : Nat → Nat) (S : St) (M : Nat) (hc : ∀ i, i < M → cnt (nd i) ≤ 3) : ∀ i, i ≤ M → (allTo ch fst cnt nd i S).1.length ≤ S.1.length + 3 * i
  | 0, _ => Nat.le_refl _
  | i + 1, hi => by
    have h1 := allTo_lenTo ch fst cnt nd S M hc i (by omega)
    have h2 := nodeTo_len ch (fst (nd i)) (allTo ch fst cnt nd i S) (cnt (nd i))
    have h3 := hc i (by omega)
    show (if nd i = 0 then allTo ch fst cnt nd i S else nodeTo ch (fst (nd i)) (cnt (nd i)) (allTo ch fst cnt nd i S)).1.length ≤ _
    split <;> omega

theorem own_cut {w : World} {base : Nat} {e : TypeId} {size n cap : Nat} {ao : Option Addr} {xs : List Value} (h : w.ownsRow base e size (.slice ao n cap) n xs) : w.ownsRow base e size (.slice ao 0 cap) 0 [] := by
  obtain ⟨hl, h⟩ := h
  refine ⟨by simp, ?_⟩
  rcases h with ⟨e, rfl⟩ | ⟨g, c, cur, e, hb, hh, hn, hm, hs, _⟩
  · exact .inl ⟨e, rfl⟩
  · simp at e
    obtain ⟨rfl, rfl⟩ := e
    exact .inr ⟨g, _, cur, rfl, hb, hh, Nat.zero_le _, hm, hs, by simp⟩

theorem cut_step {w0 w5 : World} {sb base gw n cw gx mw cap : Nat} {an : Value} {ao : Option Addr} {ns : Int} {xs zs : List Value} (hR : RSet w5 sb base an (.slice (some ⟨gx, 0, none⟩) 2 2) (.slice ao mw cap) true ns gw n cw xs) (hst : Stale xs n ns) (hf : StFrame base w0 w5) (hw : w5.ownsRow base 72 2 (.slice ao mw cap) mw zs) (hb : base ≤ w5.heap.size) :
    SInv ((w5.setCell ⟨sb, 13, none⟩ (.slice (some ⟨gx, 0, none⟩) 0 2)).setCell ⟨sb, 14, none⟩ (.slice ao 0 cap)).drew sb base an (.slice (some ⟨gx, 0, none⟩) 0 2) ns gw n cw ([], fun _ => -1) ∧
    StFrame base w0 ((w5.setCell ⟨sb, 13, none⟩ (.slice (some ⟨gx, 0, none⟩) 0 2)).setCell ⟨sb, 14, none⟩ (.slice ao 0 cap)).drew := by
  obtain ⟨h1, h2, h3, h4⟩ := field_step (an' := an) (exv' := .slice (some ⟨gx, 0, none⟩) 0 2) (wv' := .slice ao mw cap) (sd' := true) (st' := ns) (gw' := gw) (n' := n) (cw' := cw) 13 (.slice (some ⟨gx, 0, none⟩) 0 2) hR hb rfl
  have hR1 : RSet (w5.setCell ⟨sb, 13, none⟩ (.slice (some ⟨gx, 0, none⟩) 0 2)) sb base an (.slice (some ⟨gx, 0, none⟩) 0 2) (.slice ao mw cap) true ns gw n cw xs := ⟨h1, h2 _ _ _ hR.2.1, hR.2.2⟩
  have hb1 := Nat.le_trans hb h3.below.size
  obtain ⟨k1, k2, k3, k4⟩ := field_step (an' := an) (exv' := .slice (some ⟨gx, 0, none⟩) 0 2) (wv' := .slice ao 0 cap) (sd' := true) (st' := ns) (gw' := gw) (n' := n) (cw' := cw) 14 (.slice ao 0 cap) hR1 hb1 rfl
  have hg := grownBy_drewN ((w5.setCell ⟨sb, 13, none⟩ (.slice (some ⟨gx, 0, none⟩) 0 2)).setCell ⟨sb, 14, none⟩ (.slice ao 0 cap)) 1 none
  have hS : SInv ((w5.setCell ⟨sb, 13, none⟩ (.slice (some ⟨gx, 0, none⟩) 0 2)).setCell ⟨sb, 14, none⟩ (.slice ao 0 cap)) sb base an (.slice (some ⟨gx, 0, none⟩) 0 2) ns gw n cw ([], fun _ => -1) :=
    ⟨ao, cap, xs, ⟨k1, k2 _ _ _ hR1.2.1, hR.2.2⟩, fun k hk => (by obtain ⟨st, hd, he, hne⟩ := hst k hk; exact ⟨st, hd, he, .inl ⟨rfl, hne⟩⟩), k4 _ _ _ (h4 _ _ _ (own_cut hw))⟩
  exact ⟨hS.none hg, ((hf.trans h3).trans k3).drewN 1⟩

theorem SInv.an0 {w : World} {sb base gw n cw : Nat} {an exv : Value} {ns : Int} {S : St} (h : SInv w sb base an exv ns gw n cw S) : w.cell? ⟨sb, 0, Option.none⟩ = some an := by
  obtain ⟨ao, cap, xs, hR, _⟩ := h
  exact rs_cell hR.1 0 rfl

theorem allTo_skip {ch fst cnt nd : Nat → Nat} {i : Nat} {S : St} (h : nd i = 0) : allTo ch fst cnt nd (i + 1) S = allTo ch fst cnt nd i S := by
  show (if nd i = 0 then _ else _) = _
  rw [if_pos h]
theorem allTo_take {ch fst cnt nd : Nat → Nat} {i : Nat} {S : St} (h : nd i ≠ 0) : allTo ch fst cnt nd (i + 1) S = nodeTo ch (fst (nd i)) (cnt (nd i)) (allTo ch fst cnt nd i S) := by
  show (if nd i = 0 then _ else _) = _
  rw [if_neg h]

set_option maxRecDepth 100000 in
set_option maxHeartbeats 2000000 in
theorem stream_any (d : SD) {N E A : Nat} {fst cnt ch nd : Nat → Nat} (k : Holds d N E A fst cnt ch nd) (sb base gw n cw : Nat) (aa : Option Addr) (Ns ca gx : Nat) (sa : Nat → Nat) (ao : Option Addr) (mw cap : Nat) (old : Int) (xs zs : List Value)
    (hsa : ∀ i, i < Ns → sa i < A) (hNs : Ns ≤ 256) (hn2 : n ≤ 1000) (w : World) (hs : Stat w d) (ha : Anch w aa Ns sa) (hR : RSet w sb base (.slice aa Ns ca) (.slice (some ⟨gx, 0, none⟩) 2 2) (.slice ao mw cap) false old gw n cw xs) (hx : ∀ k, k < n → ∃ hd, EntAt xs k old hd)
    (hw : w.ownsRow base 72 2 (.slice ao mw cap) mw zs) (hb : base ≤ w.heap.size) (h0 : 0 ≤ old) (h1 : old ≤ 4294967295) :
    Calls Ybad.prog 6 #[.pointer (some ⟨sb, 0, none⟩), .pointer (some ⟨d.tb, 0, none⟩), .pointer (some ⟨d.lb, 0, none⟩), .slice none 0 0] w fun e w' => e = .returned (.tuple #[]) ∧
      ∃ gw' n' cw', 11 ≤ n' ∧ SInv w' sb base (.slice aa Ns ca) (.slice (some ⟨gx, 0, none⟩) 0 2) (newStamp old) gw' n' cw' (allTo ch fst cnt (fun i => nd (sa i)) Ns ([], fun _ => -1)) ∧ StFrame base w w' := by
  have c2 := rs_cell hR.1 2 (v := .bool true) rfl
  have c12 := rs_cell hR.1 12 (v := .bool false) rfl
  have f12 : w.frozen? ⟨sb, 12, none⟩ = false := frozen_of_row w _ _ _ 84 hR.1
  obtain ⟨hb1, ho1, hf1, hw1⟩ := field_step (an' := .slice aa Ns ca) (exv' := .slice (some ⟨gx, 0, none⟩) 2 2) (wv' := .slice ao mw cap) (sd' := true) (st' := old) (gw' := gw) (n' := n) (cw' := cw) 12 (.bool true) hR hb rfl
  have hR1 : RSet (w.setCell ⟨sb, 12, none⟩ (.bool true)) sb base (.slice aa Ns ca) (.slice (some ⟨gx, 0, none⟩) 2 2) (.slice ao mw cap) true old gw n cw xs := ⟨hb1, ho1 _ _ _ hR.2.1, hR.2.2⟩
  have hs1 := Nat.le_trans hb hf1.below.size
  have HP := hide (And.intro hR1 (And.intro hf1 (hw1 _ _ _ hw)))
  have HS := hide (And.intro hs (And.intro ha hx))
  have HK := hide k
  clear hR hb1 ho1 hw1 hR1 hs ha hx hf1 hw k
  go_enter Ybad.func6, Ybad.ntmps6
  go_wp2_with fail
  refine (restamp_any HP.out.1 HS.out.2.2 hs1 h0 h1).mono ?_
  rintro e w2 ⟨rfl, xs2, hR2, hst2, hf2, hw2⟩
  have hff2 := HP.out.2.1.trans hf2
  have hs2 := Nat.le_trans hb hff2.below.size
  have H2 := hide (And.intro hR2 (And.intro hst2 (And.intro hff2 (hw2 _ _ _ HP.out.2.2))))
  clear hR2 hst2 hf2 hw2 hff2 HP c2 c12 f12
  generalize hns : newStamp old = ns at *
  have hnp : ns ≠ 0 := by rw [← hns]; unfold newStamp; split <;> omega
  have HN := hide hns
  clear hns
  go_wp2_with fail
  refine (len_any d.lb d.pb d.gc w2 ((HS.out.1.kept H2.out.2.2.1).kinds HK.out) (lt_of_block (HS.out.1.kept H2.out.2.2.1).l) (lt_of_block (HS.out.1.kept H2.out.2.2.1).c)).mono ?_
  rintro e w3 ⟨rfl, m3, hw3⟩
  have g3 : w2.grownBy w3 none := by rw [hw3]; exact ⟨rfl, rfl, rfl, by simp, fun k hk _ => Below.heap_alloc w2 _ k hk⟩
  have hf3 : StFrame base w w3 := H2.out.2.2.1.grown g3 hs2 (by simp)
  have hR3 : RSet w3 sb base (.slice aa Ns ca) (.slice (some ⟨gx, 0, none⟩) 2 2) (.slice ao mw cap) true ns gw n cw xs2 := ⟨blk_none g3 H2.out.1.1, own_none H2.out.1.2.1 g3, H2.out.1.2.2⟩
  have hw3' := own_none H2.out.2.2.2 g3
  have hs3 := Nat.le_trans hb hf3.below.size
  have c15 := rs_cell hR3.1 15 (v := .slice (some ⟨gw, 0, none⟩) n cw) rfl
  have H3 := hide (And.intro hR3 (And.intro H2.out.2.1 (And.intro hf3 hw3')))
  clear hw3 g3 hf3 hR3 hw3' H2 hs2
  by_cases hn11 : (n : Int) < 11
  · obtain ⟨i0, hi, hz0, hz1, hz2⟩ := info_parts info69
    go_wp2_with (at_make; refine wpList_make_full _ rfl (.tmp 38) (.tmp 38) 67 rfl base 69 i0 _ 4 Ybad.underlying67 hi hz0 hz1 .i64 .i64 _ _ 11 rfl rfl rfl rfl (by rw [hz2]; omega) (by unfold maxLen; omega) hs3 ?_; intro w4 hown4 hgrow4; have S4 := hide (made_step H3.out.1 H3.out.2.2.1 H3.out.2.2.2 hown4 hgrow4 hs3); have d15 := rs_cell S4.out.1 15 (v := .slice (some ⟨gw, 0, none⟩) n cw) rfl; have df15 := frozen_of_row w4 sb 15 _ 84 S4.out.1; clear hown4 hgrow4)
    clear hi hz0 hz1 hz2 c15
    obtain ⟨w5, hw5⟩ : ∃ w5, w5 = w4.setCell ⟨sb, 15, none⟩ (.slice (some ⟨w3.heap.size, 0, none⟩) 11 11) := ⟨_, rfl⟩
    rw [← hw5]
    have H5 := hide (show RSet w5 sb base (.slice aa Ns ca) (.slice (some ⟨gx, 0, none⟩) 2 2) (.slice ao mw cap) true ns w3.heap.size 11 11 (zeros 11) ∧ Stale (zeros 11) 11 ns ∧ StFrame base w w5 ∧ w5.ownsRow base 72 2 (.slice ao mw cap) mw zs ∧ ((ao = none ∧ mw = 0 ∧ cap = 0) ∨ ∃ g, ao = some ⟨g, 0, none⟩) from by
      rw [hw5]
      exact ⟨S4.out.2.1, fun k hk => ⟨0, 0, zeros_ent 11 k hk, fun e => hnp e.symm⟩, S4.out.2.2.1, S4.out.2.2.2, own_ptr S4.out.2.2.2⟩)
    clear hw5 S4 d15 df15 H3
    rcases H5.out.2.2.2.2 with ⟨rfl, rfl, rfl⟩ | ⟨g, rfl⟩
    · have c13 := rs_cell H5.out.1.1 13 (v := .slice (some ⟨gx, 0, none⟩) 2 2) rfl
      have c14 := rs_cell H5.out.1.1 14 (v := .slice none 0 0) rfl
      have f13 : w5.frozen? ⟨sb, 13, none⟩ = false := frozen_of_row w5 _ _ _ 84 H5.out.1.1
      have f14 : w5.frozen? ⟨sb, 14, none⟩ = false := frozen_of_row w5 _ _ _ 84 H5.out.1.1
      go_region
      obtain ⟨w6, hw6⟩ : ∃ w6 : World, w6 = ((w5.setCell ⟨sb, 13, none⟩ (.slice (some ⟨gx, 0, none⟩) 0 2)).setCell ⟨sb, 14, none⟩ (.slice none 0 0)).drew := ⟨_, rfl⟩
      rw [← hw6]
      have H6 := hide (show SInv w6 sb base (.slice aa Ns ca) (.slice (some ⟨gx, 0, none⟩) 0 2) ns w3.heap.size 11 11 ([], fun _ => -1) ∧ StFrame base w w6 from by
        rw [hw6]
        exact cut_step H5.out.1 H5.out.2.1 H5.out.2.2.1 H5.out.2.2.2.1 (Nat.le_trans hb H5.out.2.2.1.below.size))
      have q0 := H6.out.1.an0
      clear hw6 c13 c14 f13 f14 H5
      go_wp2_with fail
      clear q0
      go_loopw [63] (fun u wr => ∃ i : Nat, i ≤ Ns ∧ u = .int .i64 (i : Int) ∧ Hid (SInv wr sb base (.slice aa Ns ca) (.slice (some ⟨gx, 0, none⟩) 0 2) ns w3.heap.size 11 11 (allTo ch fst cnt (fun i => nd (sa i)) i ([], fun _ => -1)) ∧ StFrame base w wr)) (fun u _ => Ns - (intOf u).toNat)
      case atStart => exact ⟨0, Nat.zero_le _, rfl, H6.out⟩
      case round =>
        obtain ⟨i, hi, rfl, HR⟩ := hrel
        by_cases hiN : i < Ns
        · obtain ⟨g', cur, rfl, hh, hc⟩ := (HS.out.2.1.kept HR.out.2) i hiN
          have r0 : wr.cell? ⟨g', i, none⟩ = some (.int .u32 (sa i : Nat)) := by rw [cell_of_row wr _ _ _ 24 (0, 0) hh]; exact hc
          obtain ⟨c1, l1⟩ := HK.out.l1
          have hst := HS.out.1.kept HR.out.2
          have r1 : wr.cell? ⟨d.lb, 1, none⟩ = some (.slice (some ⟨d.ga, 0, none⟩) A c1) := by rw [cell_of_row wr _ _ _ 49 (0, 0) hst.l]; exact l1
          have r2 : wr.cell? ⟨d.ga, sa i * 9, none⟩ = some (.int .u32 (nd (sa i) : Nat)) := by rw [cell_of_row wr _ _ _ 66 (0, 0) hst.a]; exact HK.out.a0 _ (hsa i hiN)
          have hq := hsa i hiN
          have hvN := HK.out.an _ hq
          have hA := HK.out.hA
          have hNN := HK.out.hN
          have HQ := hide hst
          have hlen := allTo_lenTo ch fst cnt (fun i => nd (sa i)) ([], fun _ => -1) Ns (fun j hj => (HK.out.bd _ (HK.out.an _ (hsa j hj))).2) i hi
          have HL := hide hlen
          have hsr := Nat.le_trans hb HR.out.2.below.size
          clear hst hh hc l1 hlen
          have hE0 : nd (sa i) = 0 → allTo ch fst cnt (fun i => nd (sa i)) (i + 1) ([], fun _ => -1) = allTo ch fst cnt (fun i => nd (sa i)) i ([], fun _ => -1) := fun h => allTo_skip h
          have hE1 : nd (sa i) ≠ 0 → allTo ch fst cnt (fun i => nd (sa i)) (i + 1) ([], fun _ => -1) = nodeTo ch (fst (nd (sa i))) (cnt (nd (sa i))) (allTo ch fst cnt (fun i => nd (sa i)) i ([], fun _ => -1)) := fun h => allTo_take h
          have HE := hide (And.intro hE0 hE1)
          clear hE0 hE1
          generalize hqq : sa i = q at r0 r2 hq hvN HE
          generalize hvv : nd q = v at r2 hvN HE
          by_cases hv0 : v = 0
          · subst hv0
            go_wp2_with fail
            go_roundw
            case rel =>
              refine ⟨i + 1, hiN, by go_num, ?_⟩
              rw [HE.out.1 rfl]
              exact HR.out
            case measure => simp [intOf]; omega
          · have hvi : ¬ ((v : Int) = 0) := by omega
            go_wp2_with fail
            refine (wait_any d HK.out sb base w3.heap.size 11 11 _ _ ns _ v hvN (by omega) (by omega) (by have := HL.out; simp at this; omega) wr HQ.out HR.out.1 hsr).mono ?_
            rintro e w7 ⟨x, rfl, hS7, hF7⟩
            have H7 := hide (And.intro hS7 (HR.out.2.trans hF7))
            clear hS7 hF7 r0 r1 r2 HR
            go_wp2_with fail
            go_roundw
            case rel =>
              refine ⟨i + 1, hiN, by go_num, ?_⟩
              rw [HE.out.2 hv0]
              exact H7.out
            case measure => simp [intOf]; omega
        · obtain rfl : i = Ns := by omega
          go_wp2_with fail
          go_end0
          rw [HN.out]
          exact ⟨rfl, w3.heap.size, 11, 11, (by omega), HR.out.1, HR.out.2⟩
    · have c13 := rs_cell H5.out.1.1 13 (v := .slice (some ⟨gx, 0, none⟩) 2 2) rfl
      have c14 := rs_cell H5.out.1.1 14 (v := .slice (some ⟨g, 0, none⟩) mw cap) rfl
      have f13 : w5.frozen? ⟨sb, 13, none⟩ = false := frozen_of_row w5 _ _ _ 84 H5.out.1.1
      have f14 : w5.frozen? ⟨sb, 14, none⟩ = false := frozen_of_row w5 _ _ _ 84 H5.out.1.1
      go_region
      obtain ⟨w6, hw6⟩ : ∃ w6 : World, w6 = ((w5.setCell ⟨sb, 13, none⟩ (.slice (some ⟨gx, 0, none⟩) 0 2)).setCell ⟨sb, 14, none⟩ (.slice (some ⟨g, 0, none⟩) 0 cap)).drew := ⟨_, rfl⟩
      rw [← hw6]
      have H6 := hide (show SInv w6 sb base (.slice aa Ns ca) (.slice (some ⟨gx, 0, none⟩) 0 2) ns w3.heap.size 11 11 ([], fun _ => -1) ∧ StFrame base w w6 from by
        rw [hw6]
        exact cut_step H5.out.1 H5.out.2.1 H5.out.2.2.1 H5.out.2.2.2.1 (Nat.le_trans hb H5.out.2.2.1.below.size))
      have q0 := H6.out.1.an0
      clear hw6 c13 c14 f13 f14 H5
      go_wp2_with fail
      clear q0
      go_loopw [63] (fun u wr => ∃ i : Nat, i ≤ Ns ∧ u = .int .i64 (i : Int) ∧ Hid (SInv wr sb base (.slice aa Ns ca) (.slice (some ⟨gx, 0, none⟩) 0 2) ns w3.heap.size 11 11 (allTo ch fst cnt (fun i => nd (sa i)) i ([], fun _ => -1)) ∧ StFrame base w wr)) (fun u _ => Ns - (intOf u).toNat)
      case atStart => exact ⟨0, Nat.zero_le _, rfl, H6.out⟩
      case round =>
        obtain ⟨i, hi, rfl, HR⟩ := hrel
        by_cases hiN : i < Ns
        · obtain ⟨g', cur, rfl, hh, hc⟩ := (HS.out.2.1.kept HR.out.2) i hiN
          have r0 : wr.cell? ⟨g', i, none⟩ = some (.int .u32 (sa i : Nat)) := by rw [cell_of_row wr _ _ _ 24 (0, 0) hh]; exact hc
          obtain ⟨c1, l1⟩ := HK.out.l1
          have hst := HS.out.1.kept HR.out.2
          have r1 : wr.cell? ⟨d.lb, 1, none⟩ = some (.slice (some ⟨d.ga, 0, none⟩) A c1) := by rw [cell_of_row wr _ _ _ 49 (0, 0) hst.l]; exact l1
          have r2 : wr.cell? ⟨d.ga, sa i * 9, none⟩ = some (.int .u32 (nd (sa i) : Nat)) := by rw [cell_of_row wr _ _ _ 66 (0, 0) hst.a]; exact HK.out.a0 _ (hsa i hiN)
          have hq := hsa i hiN
          have hvN := HK.out.an _ hq
          have hA := HK.out.hA
          have hNN := HK.out.hN
          have HQ := hide hst
          have hlen := allTo_lenTo ch fst cnt (fun i => nd (sa i)) ([], fun _ => -1) Ns (fun j hj => (HK.out.bd _ (HK.out.an _ (hsa j hj))).2) i hi
          have HL := hide hlen
          have hsr := Nat.le_trans hb HR.out.2.below.size
          clear hst hh hc l1 hlen
          have hE0 : nd (sa i) = 0 → allTo ch fst cnt (fun i => nd (sa i)) (i + 1) ([], fun _ => -1) = allTo ch fst cnt (fun i => nd (sa i)) i ([], fun _ => -1) := fun h => allTo_skip h
          have hE1 : nd (sa i) ≠ 0 → allTo ch fst cnt (fun i => nd (sa i)) (i + 1) ([], fun _ => -1) = nodeTo ch (fst (nd (sa i))) (cnt (nd (sa i))) (allTo ch fst cnt (fun i => nd (sa i)) i ([], fun _ => -1)) := fun h => allTo_take h
          have HE := hide (And.intro hE0 hE1)
          clear hE0 hE1
          generalize hqq : sa i = q at r0 r2 hq hvN HE
          generalize hvv : nd q = v at r2 hvN HE
          by_cases hv0 : v = 0
          · subst hv0
            go_wp2_with fail
            go_roundw
            case rel =>
              refine ⟨i + 1, hiN, by go_num, ?_⟩
              rw [HE.out.1 rfl]
              exact HR.out
            case measure => simp [intOf]; omega
          · have hvi : ¬ ((v : Int) = 0) := by omega
            go_wp2_with fail
            refine (wait_any d HK.out sb base w3.heap.size 11 11 _ _ ns _ v hvN (by omega) (by omega) (by have := HL.out; simp at this; omega) wr HQ.out HR.out.1 hsr).mono ?_
            rintro e w7 ⟨x, rfl, hS7, hF7⟩
            have H7 := hide (And.intro hS7 (HR.out.2.trans hF7))
            clear hS7 hF7 r0 r1 r2 HR
            go_wp2_with fail
            go_roundw
            case rel =>
              refine ⟨i + 1, hiN, by go_num, ?_⟩
              rw [HE.out.2 hv0]
              exact H7.out
            case measure => simp [intOf]; omega
        · obtain rfl : i = Ns := by omega
          go_wp2_with fail
          go_end0
          rw [HN.out]
          exact ⟨rfl, w3.heap.size, 11, 11, (by omega), HR.out.1, HR.out.2⟩
  · go_wp2_with fail
    have H5 := hide (And.intro H3.out.1 (And.intro H3.out.2.1 (And.intro H3.out.2.2.1 (And.intro H3.out.2.2.2 (own_ptr H3.out.2.2.2)))))
    clear H3 c15
    obtain ⟨w5, rfl⟩ : ∃ w5, w5 = w3 := ⟨_, rfl⟩
    rcases H5.out.2.2.2.2 with ⟨rfl, rfl, rfl⟩ | ⟨g, rfl⟩
    · have c13 := rs_cell H5.out.1.1 13 (v := .slice (some ⟨gx, 0, none⟩) 2 2) rfl
      have c14 := rs_cell H5.out.1.1 14 (v := .slice none 0 0) rfl
      have f13 : w5.frozen? ⟨sb, 13, none⟩ = false := frozen_of_row w5 _ _ _ 84 H5.out.1.1
      have f14 : w5.frozen? ⟨sb, 14, none⟩ = false := frozen_of_row w5 _ _ _ 84 H5.out.1.1
      go_region
      obtain ⟨w6, hw6⟩ : ∃ w6 : World, w6 = ((w5.setCell ⟨sb, 13, none⟩ (.slice (some ⟨gx, 0, none⟩) 0 2)).setCell ⟨sb, 14, none⟩ (.slice none 0 0)).drew := ⟨_, rfl⟩
      rw [← hw6]
      have H6 := hide (show SInv w6 sb base (.slice aa Ns ca) (.slice (some ⟨gx, 0, none⟩) 0 2) ns gw n cw ([], fun _ => -1) ∧ StFrame base w w6 from by
        rw [hw6]
        exact cut_step H5.out.1 H5.out.2.1 H5.out.2.2.1 H5.out.2.2.2.1 (Nat.le_trans hb H5.out.2.2.1.below.size))
      have q0 := H6.out.1.an0
      clear hw6 c13 c14 f13 f14 H5
      go_wp2_with fail
      clear q0
      go_loopw [63] (fun u wr => ∃ i : Nat, i ≤ Ns ∧ u = .int .i64 (i : Int) ∧ Hid (SInv wr sb base (.slice aa Ns ca) (.slice (some ⟨gx, 0, none⟩) 0 2) ns gw n cw (allTo ch fst cnt (fun i => nd (sa i)) i ([], fun _ => -1)) ∧ StFrame base w wr)) (fun u _ => Ns - (intOf u).toNat)
      case atStart => exact ⟨0, Nat.zero_le _, rfl, H6.out⟩
      case round =>
        obtain ⟨i, hi, rfl, HR⟩ := hrel
        by_cases hiN : i < Ns
        · obtain ⟨g', cur, rfl, hh, hc⟩ := (HS.out.2.1.kept HR.out.2) i hiN
          have r0 : wr.cell? ⟨g', i, none⟩ = some (.int .u32 (sa i : Nat)) := by rw [cell_of_row wr _ _ _ 24 (0, 0) hh]; exact hc
          obtain ⟨c1, l1⟩ := HK.out.l1
          have hst := HS.out.1.kept HR.out.2
          have r1 : wr.cell? ⟨d.lb, 1, none⟩ = some (.slice (some ⟨d.ga, 0, none⟩) A c1) := by rw [cell_of_row wr _ _ _ 49 (0, 0) hst.l]; exact l1
          have r2 : wr.cell? ⟨d.ga, sa i * 9, none⟩ = some (.int .u32 (nd (sa i) : Nat)) := by rw [cell_of_row wr _ _ _ 66 (0, 0) hst.a]; exact HK.out.a0 _ (hsa i hiN)
          have hq := hsa i hiN
          have hvN := HK.out.an _ hq
          have hA := HK.out.hA
          have hNN := HK.out.hN
          have HQ := hide hst
          have hlen := allTo_lenTo ch fst cnt (fun i => nd (sa i)) ([], fun _ => -1) Ns (fun j hj => (HK.out.bd _ (HK.out.an _ (hsa j hj))).2) i hi
          have HL := hide hlen
          have hsr := Nat.le_trans hb HR.out.2.below.size
          clear hst hh hc l1 hlen
          have hE0 : nd (sa i) = 0 → allTo ch fst cnt (fun i => nd (sa i)) (i + 1) ([], fun _ => -1) = allTo ch fst cnt (fun i => nd (sa i)) i ([], fun _ => -1) := fun h => allTo_skip h
          have hE1 : nd (sa i) ≠ 0 → allTo ch fst cnt (fun i => nd (sa i)) (i + 1) ([], fun _ => -1) = nodeTo ch (fst (nd (sa i))) (cnt (nd (sa i))) (allTo ch fst cnt (fun i => nd (sa i)) i ([], fun _ => -1)) := fun h => allTo_take h
          have HE := hide (And.intro hE0 hE1)
          clear hE0 hE1
          generalize hqq : sa i = q at r0 r2 hq hvN HE
          generalize hvv : nd q = v at r2 hvN HE
          by_cases hv0 : v = 0
          · subst hv0
            go_wp2_with fail
            go_roundw
            case rel =>
              refine ⟨i + 1, hiN, by go_num, ?_⟩
              rw [HE.out.1 rfl]
              exact HR.out
            case measure => simp [intOf]; omega
          · have hvi : ¬ ((v : Int) = 0) := by omega
            go_wp2_with fail
            refine (wait_any d HK.out sb base gw n cw _ _ ns _ v hvN (by omega) hn2 (by have := HL.out; simp at this; omega) wr HQ.out HR.out.1 hsr).mono ?_
            rintro e w7 ⟨x, rfl, hS7, hF7⟩
            have H7 := hide (And.intro hS7 (HR.out.2.trans hF7))
            clear hS7 hF7 r0 r1 r2 HR
            go_wp2_with fail
            go_roundw
            case rel =>
              refine ⟨i + 1, hiN, by go_num, ?_⟩
              rw [HE.out.2 hv0]
              exact H7.out
            case measure => simp [intOf]; omega
        · obtain rfl : i = Ns := by omega
          go_wp2_with fail
          go_end0
          rw [HN.out]
          exact ⟨rfl, gw, n, cw, (by omega), HR.out.1, HR.out.2⟩
    · have c13 := rs_cell H5.out.1.1 13 (v := .slice (some ⟨gx, 0, none⟩) 2 2) rfl
      have c14 := rs_cell H5.out.1.1 14 (v := .slice (some ⟨g, 0, none⟩) mw cap) rfl
      have f13 : w5.frozen? ⟨sb, 13, none⟩ = false := frozen_of_row w5 _ _ _ 84 H5.out.1.1
      have f14 : w5.frozen? ⟨sb, 14, none⟩ = false := frozen_of_row w5 _ _ _ 84 H5.out.1.1
      go_region
      obtain ⟨w6, hw6⟩ : ∃ w6 : World, w6 = ((w5.setCell ⟨sb, 13, none⟩ (.slice (some ⟨gx, 0, none⟩) 0 2)).setCell ⟨sb, 14, none⟩ (.slice (some ⟨g, 0, none⟩) 0 cap)).drew := ⟨_, rfl⟩
      rw [← hw6]
      have H6 := hide (show SInv w6 sb base (.slice aa Ns ca) (.slice (some ⟨gx, 0, none⟩) 0 2) ns gw n cw ([], fun _ => -1) ∧ StFrame base w w6 from by
        rw [hw6]
        exact cut_step H5.out.1 H5.out.2.1 H5.out.2.2.1 H5.out.2.2.2.1 (Nat.le_trans hb H5.out.2.2.1.below.size))
      have q0 := H6.out.1.an0
      clear hw6 c13 c14 f13 f14 H5
      go_wp2_with fail
      clear q0
      go_loopw [63] (fun u wr => ∃ i : Nat, i ≤ Ns ∧ u = .int .i64 (i : Int) ∧ Hid (SInv wr sb base (.slice aa Ns ca) (.slice (some ⟨gx, 0, none⟩) 0 2) ns gw n cw (allTo ch fst cnt (fun i => nd (sa i)) i ([], fun _ => -1)) ∧ StFrame base w wr)) (fun u _ => Ns - (intOf u).toNat)
      case atStart => exact ⟨0, Nat.zero_le _, rfl, H6.out⟩
      case round =>
        obtain ⟨i, hi, rfl, HR⟩ := hrel
        by_cases hiN : i < Ns
        · obtain ⟨g', cur, rfl, hh, hc⟩ := (HS.out.2.1.kept HR.out.2) i hiN
          have r0 : wr.cell? ⟨g', i, none⟩ = some (.int .u32 (sa i : Nat)) := by rw [cell_of_row wr _ _ _ 24 (0, 0) hh]; exact hc
          obtain ⟨c1, l1⟩ := HK.out.l1
          have hst := HS.out.1.kept HR.out.2
          have r1 : wr.cell? ⟨d.lb, 1, none⟩ = some (.slice (some ⟨d.ga, 0, none⟩) A c1) := by rw [cell_of_row wr _ _ _ 49 (0, 0) hst.l]; exact l1
          have r2 : wr.cell? ⟨d.ga, sa i * 9, none⟩ = some (.int .u32 (nd (sa i) : Nat)) := by rw [cell_of_row wr _ _ _ 66 (0, 0) hst.a]; exact HK.out.a0 _ (hsa i hiN)
          have hq := hsa i hiN
          have hvN := HK.out.an _ hq
          have hA := HK.out.hA
          have hNN := HK.out.hN
          have HQ := hide hst
          have hlen := allTo_lenTo ch fst cnt (fun i => nd (sa i)) ([], fun _ => -1) Ns (fun j hj => (HK.out.bd _ (HK.out.an _ (hsa j hj))).2) i hi
          have HL := hide hlen
          have hsr := Nat.le_trans hb HR.out.2.below.size
          clear hst hh hc l1 hlen
          have hE0 : nd (sa i) = 0 → allTo ch fst cnt (fun i => nd (sa i)) (i + 1) ([], fun _ => -1) = allTo ch fst cnt (fun i => nd (sa i)) i ([], fun _ => -1) := fun h => allTo_skip h
          have hE1 : nd (sa i) ≠ 0 → allTo ch fst cnt (fun i => nd (sa i)) (i + 1) ([], fun _ => -1) = nodeTo ch (fst (nd (sa i))) (cnt (nd (sa i))) (allTo ch fst cnt (fun i => nd (sa i)) i ([], fun _ => -1)) := fun h => allTo_take h
          have HE := hide (And.intro hE0 hE1)
          clear hE0 hE1
          generalize hqq : sa i = q at r0 r2 hq hvN HE
          generalize hvv : nd q = v at r2 hvN HE
          by_cases hv0 : v = 0
          · subst hv0
            go_wp2_with fail
            go_roundw
            case rel =>
              refine ⟨i + 1, hiN, by go_num, ?_⟩
              rw [HE.out.1 rfl]
              exact HR.out
            case measure => simp [intOf]; omega
          · have hvi : ¬ ((v : Int) = 0) := by omega
            go_wp2_with fail
            refine (wait_any d HK.out sb base gw n cw _ _ ns _ v hvN (by omega) hn2 (by have := HL.out; simp at this; omega) wr HQ.out HR.out.1 hsr).mono ?_
            rintro e w7 ⟨x, rfl, hS7, hF7⟩
            have H7 := hide (And.intro hS7 (HR.out.2.trans hF7))
            clear hS7 hF7 r0 r1 r2 HR
            go_wp2_with fail
            go_roundw
            case rel =>
              refine ⟨i + 1, hiN, by go_num, ?_⟩
              rw [HE.out.2 hv0]
              exact H7.out
            case measure => simp [intOf]; omega
        · obtain rfl : i = Ns := by omega
          go_wp2_with fail
          go_end0
          rw [HN.out]
          exact ⟨rfl, gw, n, cw, (by omega), HR.out.1, HR.out.2⟩
end Go.Proofs.YbulktjyDoor
