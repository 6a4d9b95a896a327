import Derived.Test.YbulktjyDoorWait
namespace Go.Proofs.YbulktjyDoor
open Go.RowKit

theorem SInv.none {w w' : World} {sb base gw n cw : Nat} {an exv : Value} {ns : Int} {S : St} (h : SInv w sb base an exv ns gw n cw S) (hg : w.grownBy w' Option.none) : SInv w' sb base an exv ns gw n cw S := by
  obtain ⟨ao, cap, xs, ⟨hb, ho, hs⟩, he, hw⟩ := h
  exact ⟨ao, cap, xs, ⟨blk_none hg hb, own_none ho hg, hs⟩, he, own_none hw hg⟩

theorem stepE_no {c u : Nat} {S : St} (h : kB c = false) : stepE c u S = S := by unfold stepE; rw [h]; rfl
theorem stepE_yes {c u : Nat} {S : St} (h : kB c = true) : stepE c u S = (S.1 ++ [(u, S.2 (kN c))], fun k => if k = kN c then (S.1.length : Int) else S.2 k) := by unfold stepE; rw [h]; rfl

/-- the one block that the translation lays for a waiter that is appended -/
def newRW (u : Int) (x : Int) : Obj := .cells #[.int .u32 u, .int .i32 x] 72
theorem newRW_cells (w : World) (u x : Int) : ∀ j v, [Value.int .u32 u, .int .i32 x][j]? = some v → (w.alloc (newRW u x)).cell? ((⟨w.heap.size, 0, none⟩ : Addr).add j) = some v := by
  intro j v hj
  have hh : (w.alloc (newRW u x)).heap[w.heap.size]? = some (.cells #[.int .u32 u, .int .i32 x] 72 (0, 0)) := (MapKept.heap_alloc w _).1
  match j, hj with
  | 0, hj => simp at hj; subst hj; exact (two_cells hh).1
  | 1, hj => simp at hj; subst hj; exact (two_cells hh).2
theorem rw_oneCell (u x : Int) : ∀ v ∈ [Value.int .u32 u, .int .i32 x], v.oneCell' = true := by
  intro v hv
  simp at hv
  rcases hv with rfl | rfl <;> rfl

theorem app_step {w6 w7 : World} {sb base gw n cw cap c7 g7 kk L u : Nat} {an exv : Value} {ao : Option Addr} {ns x : Int} {xs' : List Value} {W : List (Nat × Int)} {last : Nat → Int} {X : Obj}
    (hR : RSet w6 sb base an exv (.slice ao L cap) true ns gw n cw xs') (hE : EntK xs' n ns last kk) (hown6 : w6.ownsRow base 72 2 (.slice ao L cap) L (waitV W)) (hL : L = W.length) (hx : x = last kk)
    (hown7 : w7.ownsRow base 72 2 (.slice (some ⟨g7, 0, none⟩) (L + 1) c7) (L + 1) (waitV W ++ [.int .u32 (u : Nat), .int .i32 x])) (hgrow : ((w6.alloc X).drew).grownBy w7 (Value.slice ao L cap).ownBlock) (hk : kk < n) (hb : base ≤ w6.heap.size) :
    (w7.heap[sb]? = some (.cells (rsCells an true exv (.slice ao L cap) (.slice (some ⟨gw, 0, none⟩) n cw) ns) 84 (0, 0)) ∧ w7.ownsRow base 69 4 (.slice (some ⟨gw, 0, none⟩) n cw) n xs') ∧
    SInv ((w7.setCell ⟨sb, 14, none⟩ (.slice (some ⟨g7, 0, none⟩) (L + 1) c7)).setCell ⟨gw, kk * 4 + 1, none⟩ (.int .i32 (L : Int))) sb base an exv ns gw n cw (W ++ [(u, last kk)], fun k => if k = kk then (W.length : Int) else last k) ∧
    StFrame base w6 ((w7.setCell ⟨sb, 14, none⟩ (.slice (some ⟨g7, 0, none⟩) (L + 1) c7)).setCell ⟨gw, kk * 4 + 1, none⟩ (.int .i32 (L : Int))) := by
  obtain ⟨hsb, hown, hbs⟩ := hR
  subst hx
  have h6 : w6.grownBy ((w6.alloc X).drew) Option.none := ⟨rfl, rfl, rfl, by simp, fun k hk _ => Below.heap_alloc w6 X k hk⟩
  have hown6' := own_none hown6 h6
  have hsb' := blk_none h6 hsb
  have hown' := own_none hown h6
  have hsz : base ≤ ((w6.alloc X).drew).heap.size := Nat.le_trans hb h6.size
  -- the append
  have hrow : ∀ k, (Value.slice ao L cap).ownBlock = some k → base ≤ k ∧ ∃ cur t fr, ((w6.alloc X).drew).heap[k]? = some (.cells cur t fr) ∧ (t = 84 ∨ t = 69 ∨ t = 72) := by
    intro k e
    obtain ⟨h1, cur, h2⟩ := own_block hown6' e
    exact ⟨h1, cur, 72, (0, 0), h2, .inr (.inr rfl)⟩
  have f7 : StFrame base w6 w7 := ((StFrame.refl base w6).grown h6 hb (by simp)).grown hgrow hsz hrow
  have hsb7 : w7.heap[sb]? = some (.cells (rsCells an true exv (.slice ao L cap) (.slice (some ⟨gw, 0, none⟩) n cw) ns) 84 (0, 0)) := by
    cases hv : (Value.slice ao L cap).ownBlock with
    | none => rw [hv] at hgrow; exact blk_none hgrow hsb'
    | some k =>
      rw [hv] at hgrow
      obtain ⟨_, cur, h2⟩ := own_block hown6' hv
      exact blk_other hgrow h2 hsb' (by decide)
  have hown7g : w7.ownsRow base 69 4 (.slice (some ⟨gw, 0, none⟩) n cw) n xs' := by
    cases hv : (Value.slice ao L cap).ownBlock with
    | none => rw [hv] at hgrow; exact own_none hown' hgrow
    | some k =>
      rw [hv] at hgrow
      obtain ⟨_, cur, h2⟩ := own_block hown6' hv
      exact own_other hown' hgrow h2 (by decide)
  refine ⟨⟨hsb7, hown7g⟩, ?_, ?_⟩
  · -- the two stores
    have g1 := grownBy_setCell w7 ⟨sb, 14, none⟩ (.slice (some ⟨g7, 0, none⟩) (L + 1) c7)
    have hsb8 : (w7.setCell ⟨sb, 14, none⟩ (.slice (some ⟨g7, 0, none⟩) (L + 1) c7)).heap[sb]? = some (.cells (rsCells an true exv (.slice (some ⟨g7, 0, none⟩) (L + 1) c7) (.slice (some ⟨gw, 0, none⟩) n cw) ns) 84 (0, 0)) := by
      rw [heap_setCell_same w7 sb 14 _ 84 _ hsb7]; rfl
    have hown8 := own_other hown7g g1 hsb7 (by decide)
    have hw8 := own_other hown7 g1 hsb7 (by decide)
    obtain ⟨_, cur, hgh⟩ := own_block hown8 (g := gw) rfl
    have g2 := grownBy_setCell (w7.setCell ⟨sb, 14, none⟩ (.slice (some ⟨g7, 0, none⟩) (L + 1) c7)) ⟨gw, kk * 4 + 1, none⟩ (.int .i32 (L : Int))
    have hlen : (W ++ [(u, last kk)]).length = L + 1 := by simp [hL]
    refine ⟨some ⟨g7, 0, none⟩, c7, xs'.set (kk * 4 + 1) (.int .i32 (L : Int)), ⟨?_, (hown8.stored _ _).1, hbs⟩, ?_, ?_⟩
    · rw [hlen]; exact blk_other g2 hgh hsb8 (by decide)
    · intro k hkn
      by_cases e : k = kk
      · subst e
        obtain ⟨⟨wd, rf, h0, h1, h2, h3⟩, _⟩ := hE
        refine ⟨ns, (L : Int), ⟨wd, rf, ?_, ?_, ?_, ?_⟩, .inr ⟨?_, rfl, ?_⟩⟩
        · rw [List.getElem?_set_ne (by omega)]; exact h0
        · rw [List.getElem?_set_self (by have := hown.1; omega)]
        · rw [List.getElem?_set_ne (by omega)]; exact h2
        · rw [List.getElem?_set_ne (by omega)]; exact h3
        · simp only [if_true]; omega
        · simp only [if_true]; rw [hL]
      · obtain ⟨st, hd, he, hc⟩ := hE.2 k hkn e
        refine ⟨st, hd, he.other (by omega) e, ?_⟩
        simp only [if_neg e]
        exact hc
    · rw [hlen, ← waitV_snoc]
      exact own_other hw8 g2 hgh (by decide)
  · have g1 := grownBy_setCell w7 ⟨sb, 14, none⟩ (.slice (some ⟨g7, 0, none⟩) (L + 1) c7)
    have hown8 := own_other hown7g g1 hsb7 (by decide)
    obtain ⟨hgb, cur, hgh⟩ := own_block hown8 (g := gw) rfl
    have g2 := grownBy_setCell (w7.setCell ⟨sb, 14, none⟩ (.slice (some ⟨g7, 0, none⟩) (L + 1) c7)) ⟨gw, kk * 4 + 1, none⟩ (.int .i32 (L : Int))
    have hs7 : base ≤ w7.heap.size := Nat.le_trans hsz hgrow.size
    refine (f7.grown g1 hs7 ?_).grown g2 (Nat.le_trans hs7 g1.size) ?_
    · intro k e
      simp at e
      subst e
      exact ⟨hbs, _, 84, (0, 0), hsb7, .inl rfl⟩
    · intro k e
      simp at e
      subst e
      exact ⟨hgb, cur, 69, (0, 0), hgh, .inr (.inl rfl)⟩

set_option maxHeartbeats 2000000 in
theorem wait_any (d : SD) {N E A : Nat} {fst cnt ch nd : Nat → Nat} (k : Holds d N E A fst cnt ch nd) (sb base gw n cw : Nat) (an exv : Value) (ns : Int) (S : St) (v : Nat) (hv : v < N) (hn : 11 ≤ n) (hn2 : n ≤ 1000) (hS : S.1.length ≤ 10000) (w : World) (hs : Stat w d) (hi : SInv w sb base an exv ns gw n cw S) (hb : base ≤ w.heap.size) :
    Calls Ybad.prog 11 #[.pointer (some ⟨sb, 0, none⟩), .pointer (some ⟨d.tb, 0, none⟩), .pointer (some ⟨d.lb, 0, none⟩), .int .u32 (v : Int)] w fun e w' => ∃ x, e = .returned (.bool x) ∧ SInv w' sb base an exv ns gw n cw (nodeTo ch (fst v) (cnt v) S) ∧ StFrame base w w' := by
  obtain ⟨ct, t0⟩ := k.t0
  obtain ⟨m0, m1, ⟨x2, m2⟩, x3, m3⟩ := k.n0 v hv
  have hbd := k.bd v hv
  have hN := k.hN
  have hE := k.hE
  have c0 : w.cell? ⟨d.tb, 0, none⟩ = some (.slice (some ⟨d.gn, 0, none⟩) N ct) := by rw [cell_of_row w _ 0 _ 63 (0, 0) hs.t]; exact t0
  have e0 : w.cell? ⟨d.gn, v * 4, none⟩ = some (.int .u32 (fst v : Nat)) := by rw [cell_of_row w _ _ _ 88 (0, 0) hs.n]; exact m0
  have e1 : w.cell? ⟨d.gn, v * 4 + 1, none⟩ = some (.int .u32 (cnt v : Nat)) := by rw [cell_of_row w _ _ _ 88 (0, 0) hs.n]; exact m1
  have e2 : w.cell? ⟨d.gn, v * 4 + 2, none⟩ = some (.int .u32 x2) := by rw [cell_of_row w _ _ _ 88 (0, 0) hs.n]; exact m2
  have e3 : w.cell? ⟨d.gn, v * 4 + 3, none⟩ = some (.int .u32 x3) := by rw [cell_of_row w _ _ _ 88 (0, 0) hs.n]; exact m3
  have HK := hide k
  have HS := hide (And.intro hs hi)
  clear k hs hi t0 m0 m1 m2 m3
  obtain ⟨hbd1, hbd2⟩ := hbd
  generalize hf : fst v = f at *
  generalize hc : cnt v = c at *
  go_enter Ybad.func11, Ybad.ntmps11
  go_wp2_with fail
  obtain ⟨V, hV⟩ : ∃ V : World, V = w.alloc (.cells #[.int .u32 (f : Int), .int .u32 (c : Int), .int .u32 x2, .int .u32 x3] 88) := ⟨_, rfl⟩
  rw [← hV]
  have hVn : V.heap[w.heap.size]? = some (.cells #[.int .u32 (f : Int), .int .u32 (c : Int), .int .u32 x2, .int .u32 x3] 88 (0, 0)) := by rw [hV]; exact (MapKept.heap_alloc w _).1
  have hVf : StFrame base w V := by rw [hV]; exact (StFrame.refl _ _).alloc hb _
  have hVi : SInv V sb base an exv ns gw n cw S := by rw [hV]; exact HS.out.2.none (World.grownBy_alloc w _ Option.none)
  have HV := hide (And.intro hVn (And.intro hVf (And.intro hVi (HS.out.1.kept hVf))))
  clear hV hVn hVf hVi c0 e0 e1 e2 e3 HS
  go_loopw [11, 10] (fun u x wr => ∃ (j : Nat) (b : Bool), j ≤ c ∧ u = .int .u32 ((f : Int) + 1 + (j : Int)) ∧ x = .bool b ∧ Hid (SInv wr sb base an exv ns gw n cw (nodeTo ch f j S) ∧ StFrame base V wr)) (fun u _ _ => f + c + 2 - (intOf u).toNat)
  case atStart => exact ⟨0, false, Nat.zero_le _, by simp, rfl, HV.out.2.2.1, StFrame.refl _ _⟩
  case round =>
    obtain ⟨j, b, hj, rfl, rfl, HR⟩ := hrel
    have hnb : wr.heap[w.heap.size]? = some (.cells #[.int .u32 (f : Int), .int .u32 (c : Int), .int .u32 x2, .int .u32 x3] 88 (0, 0)) := HR.out.2.kept _ _ _ _ HV.out.1 (by decide) (by decide) (by decide)
    have q0 : wr.cell? ⟨w.heap.size, 0, none⟩ = some (.int .u32 (f : Int)) := by rw [cell_of_row wr _ 0 _ 88 (0, 0) hnb]; rfl
    have q1 : wr.cell? ⟨w.heap.size, 1, none⟩ = some (.int .u32 (c : Int)) := by rw [cell_of_row wr _ 1 _ 88 (0, 0) hnb]; rfl
    clear hnb
    by_cases hjc : j < c
    · have hst := HV.out.2.2.2.kept HR.out.2
      have hkd := hst.kinds HK.out
      obtain ⟨ce, t1⟩ := HK.out.t1
      have hchm := HK.out.tb (f + j) (by omega)
      have r1 : wr.cell? ⟨d.tb, 1, none⟩ = some (.slice (some ⟨d.ge, 0, none⟩) E ce) := by rw [cell_of_row wr _ 1 _ 63 (0, 0) hst.t]; exact t1
      have r2 : wr.cell? ⟨d.ge, f + j, none⟩ = some (.int .i32 (ch (f + j) : Nat)) := by rw [cell_of_row wr _ _ _ 21 (0, 0) hst.e]; exact HK.out.e0 (f + j) (by omega)
      have HQ := hide (And.intro hst (And.intro hkd hchm))
      clear hst hkd hchm t1
      generalize hcc : ch (f + j) = cc at *
      go_wp2_with fail
      go_quiet ((go_at_call 15; exact index_quiet HQ.out.2.1 HQ.out.2.2 _))
      have R5 := hide (And.intro (HR.out.1.none (grownBy_drewN wr nq Option.none)) (HR.out.2.drewN nq))
      have hsz5 : base ≤ (wr.drewN nq).heap.size := Nat.le_trans (Nat.le_trans hb HV.out.2.1.below.size) R5.out.2.below.size
      generalize wr.drewN nq = w5 at R5 hsz5 ⊢
      clear q0 q1 r1 r2 HR
      cases hkb : kB cc
      · have hE1 : nodeTo ch f (j + 1) S = nodeTo ch f j S := by show stepE (ch (f + j)) _ _ = _; rw [hcc]; exact stepE_no hkb
        have HE := hide hE1
        clear hE1 hkb
        go_wp2_with fail
        go_roundw
        case rel =>
          refine ⟨j + 1, true, by omega, by go_num, rfl, ?_⟩
          rw [HE.out]
          exact R5.out
        case measure => simp [intOf]; omega
      · obtain ⟨hik, hk11⟩ := iN_noise HQ.out.2.2 hkb
        have hE1 : nodeTo ch f (j + 1) S = ((nodeTo ch f j S).1 ++ [(f + 1 + j, (nodeTo ch f j S).2 (kN cc))], fun k => if k = kN cc then ((nodeTo ch f j S).1.length : Int) else (nodeTo ch f j S).2 k) := by show stepE (ch (f + j)) _ _ = _; rw [hcc]; exact stepE_yes hkb
        have hlen := nodeTo_len ch f S j
        have HE := hide hE1
        rw [hik]
        clear hE1 hkb hik
        generalize nodeTo ch f j S = T at *
        generalize kN cc = kk at *
        obtain ⟨ao, cap, xs, hR, hEn, hW⟩ := R5.out.1
        have HF := hide (wf_any hR hEn (k := kk) (by omega))
        have HW5 := hide hW
        clear hR hEn hW
        go_wp2_with fail
        refine HF.out.mono ?_
        rintro e w6 ⟨rfl, xs', hR6, hE6, hF6, hW6⟩
        have hown6 := hW6 _ _ _ HW5.out
        have h14 := rs_cell hR6.1 14 (v := .slice ao T.1.length cap) rfl
        have hf14 : w6.frozen? ⟨sb, 14, none⟩ = false := frozen_of_row w6 _ _ _ 84 hR6.1
        obtain ⟨q0, q1, -⟩ := own_entry hR6.2.1 (show kk < n by omega) hE6.1
        have hfg : w6.frozen? ⟨gw, kk * 4 + 1, none⟩ = false := hR6.2.1.frozenAt _
        have hs6 : base ≤ w6.heap.size := Nat.le_trans hsz5 hF6.below.size
        have hlt6 := lt_of_block hR6.1
        have H6 := hide (And.intro hR6 (And.intro hE6 (R5.out.2.trans hF6)))
        clear hR6 hE6 hF6 hW6 HF HW5 q0
        go_wp2_with fail
        obtain ⟨i0, hi', hz0, hz1, hz2⟩ := info_parts info72
        go_region_law (refine step_append_shape rfl (.tmp 58) (.tmp 65) 70 rfl base 72 i0 _ 2 8 Ybad.underlying70 hi' hz0 hz1 hz2 rfl (by decide) (.slice ao T.1.length cap) T.1.length (waitV T.1) (by simp [Act.eval]) ((hown6.alloc (newRW ((f : Int) + 1 + (j : Int)) (T.2 kk))).drew) ⟨w6.heap.size, 0, none⟩ 1 1 [.int .u32 ((f : Int) + 1 + (j : Int)), .int .i32 (T.2 kk)] (by simp [Act.eval]) rfl (fun i x h => newRW_cells w6 _ _ i x h) (rw_oneCell _ _) (by unfold maxLen; omega) (by omega) (by simp; omega) (by decide) ?_; intro g7 c7 w7 hown7 hgrow7; have S7 := hide (app_step (u := f + 1 + j) H6.out.1 H6.out.2.1 hown6 rfl rfl (by simpa using hown7) hgrow7 (by omega) hs6); have d14 := rs_cell S7.out.1.1 14 (v := .slice ao T.1.length cap) rfl; have df14 := frozen_of_row w7 sb 14 _ 84 S7.out.1.1; have d1 := (own_entry S7.out.1.2 (show kk < n by omega) H6.out.2.1.1).2.1; have dfg := S7.out.1.2.frozenAt (kk * 4 + 1); clear hown7 hgrow7)
        all_goals
          clear hi' hz0 hz1 hz2 h14 hf14 hown6 q1 hfg
          go_wp2_with fail
          go_roundw
          case rel =>
            refine ⟨j + 1, b, by omega, by go_num, rfl, ?_⟩
            rw [HE.out]
            exact ⟨S7.out.2.1, H6.out.2.2.trans S7.out.2.2⟩
          case measure => simp [intOf]; omega
    · obtain rfl : j = c := by omega
      clear hjc
      go_wp2_with fail
      go_ret
      exact ⟨b, rfl, HR.out.1, HV.out.2.1.trans HR.out.2⟩
end Go.Proofs.YbulktjyDoor
