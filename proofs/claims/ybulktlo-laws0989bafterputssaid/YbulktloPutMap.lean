import Derived.Test.YbulktloPut
namespace Go.Proofs.Ybulktlo
open Go.RowKit Go.WideMaps

theorem upd_step {w2 w3 : World} {kb bm n m : Nat} {lv mv : Value} {xs : List Value} {D : DataW Unit} (hb2 : w2.heap[kb]? = some (.cells #[lv, mv] 33 (0, 0))) (hown2 : w2.ownsRow (kb + 1) 29 2 lv n xs)
    (hm2 : w2.ownsMap Yba.prog 9 (plainElem Yba.prog 3) bm m D) (hbm : kb < bm) (hgrow : w2.grownBy w3 (some bm)) :
    w3.heap[kb]? = some (.cells #[lv, mv] 33 (0, 0)) ∧ w3.ownsRow (kb + 1) 29 2 lv n xs ∧ Frame kb w2 w3 := by
  obtain ⟨es, clock, hmb, _⟩ := hm2
  refine ⟨by rw [hgrow.block kb (lt_of_block hb2) (by simp; omega)]; exact hb2, hown2.kept hgrow ?_, (Frame.refl _ _).grown hgrow (Nat.le_of_lt (lt_of_block hb2)) ?_⟩
  · right
    intro e
    obtain ⟨_, cur, hh⟩ := own_block hown2 e
    rw [hh] at hmb
    simp at hmb
  · intro k e
    simp at e
    subst e
    exact ⟨by omega, fun cur fr => by rw [hmb]; simp⟩

set_option maxHeartbeats 400000 in
theorem put_map {w : World} {kb : Nat} {ks : List ByteArray} {lv : Value} {bm : Nat} {xs : List Value} (hb : w.heap[kb]? = some (.cells #[lv, .map (some bm)] 33 (0, 0))) (hown : w.ownsRow (kb + 1) 29 2 lv ks.length xs)
    (hxs : Pairs ks xs) (hbm : kb < bm) (hmap : w.ownsMap Yba.prog 9 (plainElem Yba.prog 3) bm ks.length (keyDTo ks ks.length)) (hn : ks.length ≤ 1000000) {q : ByteArray} (hq : q.size ≤ maxLen) (ha : Absent ks ks.length q) (v : Int) :
    Calls Yba.prog 13 #[.pointer (some ⟨kb, 0, none⟩), .string q, .int .i64 v] w fun e w' => e = .returned (.tuple #[]) ∧ KInv w' kb (ks ++ [q]) ∧ Frame kb w w' := by
  have HF := hide (find_k_miss (w := w) ⟨lv, _, xs, hb, hown, hxs, .inr ⟨bm, hbm, rfl, hmap⟩⟩ (by omega) hq ha)
  have hm := fun (w : World) (r : Option Nat) => run_neq_map_nil (P := Yba.prog) w 31 9 3 r Yba.underlying31
  obtain ⟨i0, hi, hz0, hz1, hz2⟩ := info_parts info29
  have h0 := two_cell0 hb
  have HB := hide hb
  have HX := hide hxs
  have hlv : ∃ ao cap, lv = .slice ao ks.length cap := by obtain ⟨ao, cap, e, _⟩ := list_cells hown hxs; exact ⟨ao, cap, e⟩
  obtain ⟨ao, lcap, rfl⟩ := hlv
  clear hb hxs
  go_enter Yba.func13, Yba.ntmps13
  go_wp2_with (first | (go_at_call 11; refine HF.out.mono ?_; rintro e w2 ⟨rfl, hw⟩; subst w2) | (at_builtin; refine wpList_append_shape _ rfl _ _ 27 rfl (kb + 1) 29 i0 _ 2 24 Yba.underlying27 hi hz0 hz1 hz2 rfl (by decide) (.slice ao ks.length lcap) _ _ rfl (hown.alloc (newKV q v)) ⟨w.heap.size, 0, none⟩ 1 1 [.string q, .int .i64 v] rfl rfl (newKV_cells _ _ _) (kv_oneCell _ _) (by unfold maxLen; omega) (by omega) (by simp; have := lt_of_block HB.out; omega) (by decide) ?_; intro g cap w1 hown1 hgrow1; have S := hide (append_step HB.out hown hown1 hgrow1); have c0 := two_cell0 S.out.1; have c1 := two_cell1 S.out.1; have f0 := two_free S.out.1 0; clear hown1 hgrow1))
  have hm2 := (S.out.2.2.2.2 bm _ _ hmap).drew
  obtain ⟨w3, hrun, hown3, hgrow3⟩ := hm2.update law9 Yba.underlying31 (by unfold maxLen; omega) (keyOf_string_mk Yba.underlying9 hq) (plainElem_int Yba.underlying3 (a := (ks.length : Int)) (WalkArith.wf_i64 (by omega)))
  clear hm2 HF hm hi hz0 hz1 hz2
  go_region
  first | go_end0 | refine bodyPost_ret (results_none rfl _ _ _) rfl ?_
  obtain ⟨_, hb2, hown2, hfr, _⟩ := S.out
  have hm2 := (S.out.2.2.2.2 bm _ _ hmap).drew
  have U := upd_step (w2 := (w1.setCell ⟨kb, 0, none⟩ (.slice (some ⟨g, 0, none⟩) (ks.length + 1) cap)).drew) hb2 hown2.drew hm2 hbm hgrow3
  refine ⟨rfl, ⟨_, _, xs ++ [.string q, .int .i64 v], U.1, by simpa using U.2.1, keys_snoc hown.1 HX.out, .inr ⟨bm, hbm, rfl, ?_⟩⟩, hfr.drew.trans U.2.2⟩
  rw [List.length_append, List.length_singleton, keyDTo_snoc]
  exact hown3
end Go.Proofs.Ybulktlo
