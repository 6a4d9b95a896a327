import Derived.Test.YbulktloPutMap
namespace Go.Proofs.Ybulktlo
open Go.RowKit Go.WideMaps

theorem run_makeMap31 (n : Int) (w : World) : (Instr.makeMap 31 (some (.int .i64 n))).run Yba.prog w = .ok (.map (some w.heap.size)) (w.alloc (.map #[] 0)) := by
  simp [Instr.makeMap, run_underlying Yba.underlying31, asInt, asIntOf]

theorem make_step {w2 : World} {kb n N : Nat} {lv mv : Value} {xs : List Value} (hN : N = w2.heap.size) (hb2 : w2.heap[kb]? = some (.cells #[lv, mv] 33 (0, 0))) (hown2 : w2.ownsRow (kb + 1) 29 2 lv n xs) :
    ((w2.setCell ⟨kb, 1, none⟩ (.map (some N))).alloc (.map #[] 0)).heap[kb]? = some (.cells #[lv, .map (some N)] 33 (0, 0)) ∧
    ((w2.setCell ⟨kb, 1, none⟩ (.map (some N))).alloc (.map #[] 0)).ownsRow (kb + 1) 29 2 lv n xs ∧
    ((w2.setCell ⟨kb, 1, none⟩ (.map (some N))).alloc (.map #[] 0)).ownsMap Yba.prog 9 (plainElem (H := Unit) Yba.prog 3) N 0 (.map []) ∧
    Frame kb w2 ((w2.setCell ⟨kb, 1, none⟩ (.map (some N))).alloc (.map #[] 0)) := by
  have hlt := lt_of_block hb2
  have hsz : (w2.setCell ⟨kb, 1, none⟩ (.map (some N))).heap.size = w2.heap.size := by simp [World.setCell]
  have hb3 := two_store1 (u := .map (some N)) hb2
  refine ⟨by rw [Below.heap_alloc _ _ _ (lt_of_block hb3)]; exact hb3, (ownsRow_setCell_below hown2 (Nat.lt_succ_self kb) _).alloc _, ?_, ((Frame.refl kb w2).grown (grownBy_setCell _ _ _) (Nat.le_of_lt hlt) ?_).alloc (by rw [hsz]; exact Nat.le_of_lt hlt) _⟩
  · have h := World.ownsMap_made (w2.setCell ⟨kb, 1, none⟩ (.map (some N))) Yba.prog 9 (plainElem (H := Unit) Yba.prog 3)
    rw [hsz, ← hN] at h
    exact h
  · intro k e
    simp at e
    subst e
    exact ⟨Nat.le_refl _, fun cur fr => by rw [hb2]; simp⟩

theorem pair_cells {w : World} {base g cap : Nat} {ks : List ByteArray} {xs : List Value} (hown : w.ownsRow base 29 2 (.slice (some ⟨g, 0, none⟩) ks.length cap) ks.length xs) (hxs : Pairs ks xs) {i : Nat} (hi : i < ks.length) :
    w.cell? ⟨g, i * 2, none⟩ = some (.string (at' ks i)) ∧ ∃ x, w.cell? ⟨g, i * 2 + 1, none⟩ = some (.int .i64 x) := by
  rw [hown.cellAt _ (by omega), hown.cellAt _ (by omega)]
  exact hxs i hi

theorem row_lt {w : World} {base g n cap k : Nat} {e : TypeId} {size : Nat} {xs : List Value} (h : w.ownsRow base e size (.slice (some ⟨g, 0, none⟩) n cap) n xs) (_hk : k < n) : g < w.heap.size := by
  obtain ⟨_, cur, hh⟩ := own_block h (g := g) rfl
  exact lt_of_block hh

theorem at'_size {ks : List ByteArray} (h : ∀ s ∈ ks, s.size ≤ maxLen) {i : Nat} (hi : i < ks.length) : (at' ks i).size ≤ maxLen := by
  unfold at'
  rw [List.getD_eq_getElem?_getD, List.getElem?_eq_getElem hi]
  exact h _ (List.getElem_mem hi)

set_option maxHeartbeats 800000 in
theorem put_make {w : World} {kb : Nat} {ks : List ByteArray} {lv : Value} {xs : List Value} (hb : w.heap[kb]? = some (.cells #[lv, .map none] 33 (0, 0))) (hown : w.ownsRow (kb + 1) 29 2 lv ks.length xs)
    (hxs : Pairs ks xs) (hn : 16 ≤ ks.length) (hn2 : ks.length ≤ 100000) (hall : ∀ s ∈ ks, s.size ≤ maxLen) {q : ByteArray} (hq : q.size ≤ maxLen) (ha : Absent ks ks.length q) (v : Int) :
    Calls Yba.prog 13 #[.pointer (some ⟨kb, 0, none⟩), .string q, .int .i64 v] w fun e w' => e = .returned (.tuple #[]) ∧ KInv w' kb (ks ++ [q]) ∧ Frame kb w w' := by
  have HF := hide (find_k_miss (w := w) ⟨lv, _, xs, hb, hown, hxs, .inl rfl⟩ (by omega) hq ha)
  have hm := fun (w : World) (r : Option Nat) => run_neq_map_nil (P := Yba.prog) w 31 9 3 r Yba.underlying31
  have hmk := run_makeMap31
  obtain ⟨i0, hi, hz0, hz1, hz2⟩ := info_parts info29
  have h0 := two_cell0 hb
  have HB := hide hb
  have HX := hide hxs
  have hlv : ∃ ao cap, lv = .slice ao ks.length cap := by obtain ⟨ao, cap, e, _⟩ := list_cells hown hxs; exact ⟨ao, cap, e⟩
  obtain ⟨ao, lcap, rfl⟩ := hlv
  clear hb hxs
  go_enter Yba.func13, Yba.ntmps13
  go_wp2_with (first | (go_at_call 11; refine HF.out.mono ?_; rintro e w2 ⟨rfl, hw⟩; subst w2) | (at_builtin; refine wpList_append_shape _ rfl _ _ 27 rfl (kb + 1) 29 i0 _ 2 24 Yba.underlying27 hi hz0 hz1 hz2 rfl (by decide) (.slice ao ks.length lcap) _ _ rfl (hown.alloc (newKV q v)) ⟨w.heap.size, 0, none⟩ 1 1 [.string q, .int .i64 v] rfl rfl (newKV_cells _ _ _) (kv_oneCell _ _) (by unfold maxLen; omega) (by omega) (by simp; have := lt_of_block HB.out; omega) (by decide) ?_; intro g cap w1 hown1 hgrow1; have S := hide (append_step HB.out hown hown1 hgrow1); have c0 := two_cell0 S.out.1; have c1 := two_cell1 S.out.1; have f0 := two_free S.out.1 0; have f1 := two_free S.out.1 1; have hlt := lt_of_block S.out.1; clear hown1 hgrow1))
  obtain ⟨_, hb2, hown2, hfr, _⟩ := S.out
  have hN : w1.heap.size = (w1.setCell ⟨kb, 0, none⟩ (.slice (some ⟨g, 0, none⟩) (ks.length + 1) cap)).heap.size := by simp [World.setCell]
  obtain ⟨hb3, hown3, hmap3, hfr3⟩ := make_step hN hb2 hown2
  have hfr4 := hfr.trans hfr3
  have hP := keys_snoc (q := q) (v := v) hown.1 HX.out
  have hlen : (ks ++ [q]).length = ks.length + 1 := by simp
  have hsz : ∀ s ∈ ks ++ [q], s.size ≤ maxLen := by
    intro s hs
    simp at hs
    rcases hs with hs | rfl
    · exact hall s hs
    · exact hq
  have HP := hide hP
  have HL := hide hlen
  have HS := hide hsz
  generalize hks : ks ++ [q] = ks' at HP HL HS
  generalize hxs' : xs ++ [Value.string q, .int .i64 v] = xs' at HP hown2 hown3
  have R0 := hide (And.intro hb3 (And.intro hown3 (And.intro hmap3 hfr4)))
  clear hb2 hb3 hown2 hown3 hmap3 hfr hfr3 hfr4 hP hlen hsz hxs' S HF hm hmk hi hz0 hz1 hz2 h0 HB HX hown hall c0 c1 f0 f1 ha hN
  generalize w1.heap.size = bm at *
  go_loopw [74] (fun i wr => ∃ (k : Nat), k ≤ ks.length + 1 ∧ i = .int .i64 k ∧ Hid (wr.heap[kb]? = some (.cells #[.slice (some ⟨g, 0, none⟩) (ks.length + 1) cap, .map (some bm)] 33 (0, 0)) ∧ wr.ownsRow (kb + 1) 29 2 (.slice (some ⟨g, 0, none⟩) (ks.length + 1) cap) (ks.length + 1) xs' ∧ wr.ownsMap Yba.prog 9 (plainElem (H := Unit) Yba.prog 3) bm k (keyDTo ks' k) ∧ Frame kb w wr)) (fun i _ => ks.length + 1 - (intOf i).toNat)
  case atStart => exact ⟨0, Nat.zero_le _, rfl, R0.out⟩
  case round =>
    obtain ⟨k, hk, rfl, HR⟩ := hrel
    by_cases hkl : k < ks.length + 1
    · obtain ⟨hb, hown, hmap, hfr⟩ := HR.out
      have hown' := hown
      rw [← HL.out] at hown'
      obtain ⟨hc0, x, hc1⟩ := pair_cells hown' HP.out (i := k) (by rw [HL.out]; exact hkl)
      have hss := at'_size HS.out (i := k) (by rw [HL.out]; exact hkl)
      have hm1 := two_cell1 hb
      have hltw := lt_of_block hb
      have hbg := row_lt hown hkl
      obtain ⟨w3, hrun, hown3, hgrow3⟩ := (hmap.alloc (newKV (at' ks' k) x)).drew.update law9 Yba.underlying31 (by unfold maxLen; omega) (keyOf_string_mk Yba.underlying9 hss) (plainElem_int Yba.underlying3 (a := (k : Int)) (WalkArith.wf_i64 (by omega)))
      have R1 := hide (upd_step (w2 := (wr.alloc (newKV (at' ks' k) x)).drew) (by exact (Below.heap_alloc wr _ _ hltw).trans hb) (hown.alloc _) ((hmap.alloc _).drew) hlt hgrow3)
      have R2 := hide (And.intro hown3 hfr)
      clear hown' hown hmap hfr hb hgrow3 hown3 R0
      generalize hs : at' ks' k = s at *
      have HSS := hide hs
      clear hs
      unfold newKV at *
      go_wp2_with fail
      go_region
      go_wp2_with fail
      go_roundw
      case rel =>
        refine ⟨k + 1, by omega, by go_num, ?_⟩
        obtain ⟨g1, g2, g3⟩ := R1.out
        refine ⟨g1, g2, ?_, (R2.out.2.alloc (Nat.le_of_lt hltw) _).drew.trans g3⟩
        show w3.ownsMap _ _ _ _ _ ((keyDTo ks' k).put (.string (at' ks' k).data.toList) (.lit (.int .i64 (k : Nat))))
        rw [HSS.out]
        exact R2.out.1
      case measure => simp [intOf]; omega
    · obtain rfl : k = ks.length + 1 := by omega
      clear R0
      go_wp2_with fail
      first | go_end0 | refine bodyPost_ret (results_none rfl _ _ _) rfl ?_
      obtain ⟨hb, hown, hmap, hfr⟩ := HR.out
      rw [hks]
      have HLo := HL.out
      exact ⟨rfl, ⟨_, _, xs', hb, by rw [HLo]; exact hown, HP.out, .inr ⟨bm, hlt, rfl, by rw [HLo]; exact hmap⟩⟩, hfr⟩
end Go.Proofs.Ybulktlo
