import Derived.Test.YbulktloSome
namespace Go.Proofs.Ybulktlo
open Go.RowKit

/-! ascendSome, at the closures 19 and 20 -/
set_option maxHeartbeats 1000000 in
theorem some19 (bl bc bm base lim tb tt : Nat) (mk : Nat → Nat) (hmk : ∀ i, mk i < 256) (ht1 : tt ≤ bl) (ht2 : tt ≤ bc) (htb : tt ≤ base) : ∀ (d : Nat) (p : Option Addr) (lo n : Nat) (w : World) (L : List Nat),
    TreeAt w tb tt mk d p lo n → LogInv w bl bc bm base lim L → L.length ≤ lim → L.length + n ≤ 10000 →
    Calls Yba.prog 15 #[.pointer p, .func (.func 19) #[] #[], .func (.func 20) #[] #[.pointer (some ⟨bl, 0, none⟩), .pointer (some ⟨bc, 0, none⟩), .pointer (some ⟨bm, 0, none⟩)]] w fun e w' =>
      e = .returned (.bool (after L (sel kp0 mk lo n) lim).1) ∧ LogInv w' bl bc bm base lim (after L (sel kp0 mk lo n) lim).2 ∧ LogFrame bl bc base w w' := by
  intro d
  induction d with
  | zero =>
    rintro p lo n w L ⟨rfl, rfl⟩ hlog hL hb
    have HL := hide hlog
    clear hlog hmk
    go_enter Yba.func15, Yba.ntmps15
    go_wp2_with fail
    go_ret
    have e : after L (sel kp0 mk lo 0) lim = (true, L) := after_nil L lim hL
    rw [e]
    exact ⟨rfl, HL.out, LogFrame.refl _ _ _ _⟩
  | succ d ih =>
    intro p lo n w L htree hlog hL hb
    have IH := hide ih
    have HL := hide hlog
    have HMK := hide hmk
    clear ih hlog hmk
    rcases htree with ⟨rfl, rfl⟩ | ⟨b, l, r, a, c, rfl, hbb, hbt, rfl, hh, hTl, hTr⟩
    · go_enter Yba.func15, Yba.ntmps15
      go_wp2_with fail
      go_ret
      have e : after L (sel kp0 mk lo 0) lim = (true, L) := after_nil L lim hL
      rw [e]
      exact ⟨rfl, HL.out, LogFrame.refl _ _ _ _⟩
    · have c0 : w.cell? ⟨b, 0, none⟩ = some (.pointer l) := by rw [cell_of_row w b 0 _ 62 (0, 0) hh]; rfl
      have c6 : w.cell? ⟨b, 6, none⟩ = some (.int .u64 ((orN mk lo (a + 1 + c) : Nat) : Int)) := by rw [cell_of_row w b 6 _ 62 (0, 0) hh]; rfl
      have HH := hide (And.intro hh (And.intro hTl hTr))
      clear hh hTl hTr
      have HK1 := hide (keep19 (orN mk lo (a + 1 + c)) w)
      cases hkp : kp0 (orN mk lo (a + 1 + c))
      · have HN := hide hkp
        clear hkp
        go_enter Yba.func15, Yba.ntmps15
        go_wp2_with fail
        refine HK1.out.mono ?_
        rintro e w1 ⟨rfl, hw1⟩
        subst w1
        have hkq := HN.out
        rw [show (orN mk lo (a + 1 + c) != 0) = false from hkq]
        clear hkq
        go_wp2_with fail
        go_ret
        have e : after L (sel kp0 mk lo (a + 1 + c)) lim = (true, L) := by rw [sel_none good_0 mk _ _ HN.out]; exact after_nil L lim hL
        rw [e]
        exact ⟨rfl, HL.out, LogFrame.refl _ _ _ _⟩
      · have HN := hide hkp
        clear hkp
        go_enter Yba.func15, Yba.ntmps15
        go_wp2_with fail
        refine HK1.out.mono ?_
        rintro e w1 ⟨rfl, hw1⟩
        subst w1
        have hkq := HN.out
        rw [show (orN mk lo (a + 1 + c) != 0) = true from hkq]
        clear hkq
        go_wp2_with fail
        refine (IH.out l lo a w L HH.out.2.1 HL.out hL (by omega)).mono ?_
        rintro e w1 ⟨rfl, hlog1, hf1⟩
        have hsp := sel_split kp0 mk a lo c
        cases hr1 : (after L (sel kp0 mk lo a) lim).1
        · have e : after L (sel kp0 mk lo (a + 1 + c)) lim = after L (sel kp0 mk lo a) lim := by rw [hsp]; exact after_stop hr1
          have HZ := hide (And.intro hlog1 (And.intro hf1 (And.intro hr1 e)))
          clear hlog1 hf1 hr1 hsp e c0 c6
          go_wp2_with fail
          go_ret
          rw [HZ.out.2.2.2]
          exact ⟨by rw [HZ.out.2.2.1]; rfl, HZ.out.1, HZ.out.2.1⟩
        · have hmore := fun G => after_more (G := G) hr1
          have ht := after_true hr1
          have hlen : (after L (sel kp0 mk lo a) lim).2.length + c + 1 ≤ 10000 := by
            rw [ht.1, List.length_append]
            have := sel_len kp0 mk lo a
            omega
          have hlim : (after L (sel kp0 mk lo a) lim).2.length ≤ lim := by rw [ht.1]; exact ht.2
          have hE := hmore ((if kp0 (mk (lo + a)) then [lo + a] else []) ++ sel kp0 mk (lo + a + 1) c)
          rw [← hsp] at hE
          clear hmore ht hsp
          generalize (after L (sel kp0 mk lo a) lim).2 = L1 at hlog1 hlen hlim hE
          have HE := hide hE
          clear hE
          have hbk : ∀ k, k < tt → w1.heap[k]? = w.heap[k]? := fun k hk => hf1.block k (by omega) (by omega) (by omega)
          have hh1 : w1.heap[b]? = some (.cells (nodeCells l r (lo + a) (mk (lo + a)) (orN mk lo (a + 1 + c))) 62 (0, 0)) := by rw [hbk b hbt]; exact HH.out.1
          have hTr1 : TreeAt w1 tb tt mk d r (lo + a + 1) c := TreeAt.kept (fun k _ hk => hbk k hk) (Nat.le_refl _) (Nat.le_refl _) _ _ _ _ HH.out.2.2
          have e1 : w1.cell? ⟨b, 1, none⟩ = some (.pointer r) := by rw [cell_of_row w1 b 1 _ 62 (0, 0) hh1]; rfl
          have e3 : w1.cell? ⟨b, 3, none⟩ = some (.int .i64 ((lo + a : Nat) : Int)) := by rw [cell_of_row w1 b 3 _ 62 (0, 0) hh1]; rfl
          have e4 : w1.cell? ⟨b, 4, none⟩ = some (.int .u64 ((mk (lo + a) : Nat) : Int)) := by rw [cell_of_row w1 b 4 _ 62 (0, 0) hh1]; rfl
          have e5 : w1.cell? ⟨b, 5, none⟩ = some (.int .u64 ((mk (lo + a) : Nat) : Int)) := by rw [cell_of_row w1 b 5 _ 62 (0, 0) hh1]; rfl
          have HK2 := hide (keep19 (mk (lo + a)) w1)
          have H1 := hide (And.intro hlog1 (And.intro hf1 (And.intro hTr1 hh1)))
          clear hlog1 hf1 hTr1 hh1 c0 c6 hbk hr1
          go_wp2_with fail
          refine HK2.out.mono ?_
          rintro e w2 ⟨rfl, hw2⟩
          subst w2
          cases hk2 : kp0 (mk (lo + a))
          · rw [show (mk (lo + a) != 0) = false from hk2]
            have hE2 := HE.out
            rw [hk2, if_neg (by simp), List.nil_append] at hE2
            have HE2 := hide hE2
            clear hk2 hE2 HE
            go_wp2_with fail
            refine (IH.out r (lo + a + 1) c w1 L1 H1.out.2.2.1 H1.out.1 hlim (by omega)).mono ?_
            rintro e w3 ⟨rfl, hlog3, hf3⟩
            have H3 := hide (And.intro hlog3 (H1.out.2.1.trans hf3))
            clear hlog3 hf3
            go_wp2_with fail
            go_ret
            rw [HE2.out]
            exact ⟨rfl, H3.out⟩
          · rw [show (mk (lo + a) != 0) = true from hk2]
            have hE2 := HE.out
            rw [hk2, if_pos rfl] at hE2
            have H1o := hide (after_one L1 (lo + a) lim hlim)
            have HE2 := hide hE2
            clear hk2 hE2 HE
            go_wp2_with fail
            refine (yield20 H1.out.1 (by omega) (lo + a) _ (by omega) _).mono ?_
            rintro e w3 ⟨rfl, hlog3, hf3⟩
            cases hd : decide (L1.length + 1 ≤ lim)
            · have hfin : after L1 ([lo + a] ++ sel kp0 mk (lo + a + 1) c) lim = (false, L1 ++ [lo + a]) := by
                rw [after_stop (by rw [H1o.out]; exact hd), H1o.out, hd]
              have H3 := hide (And.intro hlog3 (And.intro (H1.out.2.1.trans hf3) (HE2.out.trans hfin)))
              clear hlog3 hf3 hfin hd
              go_wp2_with fail
              go_ret
              rw [H3.out.2.2]
              exact ⟨rfl, H3.out.1, H3.out.2.1⟩
            · have hfin : after L1 ([lo + a] ++ sel kp0 mk (lo + a + 1) c) lim = after (L1 ++ [lo + a]) (sel kp0 mk (lo + a + 1) c) lim := by
                rw [after_more (by rw [H1o.out]; exact hd), H1o.out]
              have HE3 := hide (HE2.out.trans hfin)
              have hl3 : (L1 ++ [lo + a]).length ≤ lim := by simpa using hd
              have hl4 : (L1 ++ [lo + a]).length + c ≤ 10000 := by rw [List.length_append, List.length_singleton]; omega
              have hbk : ∀ k, k < tt → w3.heap[k]? = w1.heap[k]? := fun k hk => hf3.block k (by omega) (by omega) (by omega)
              have hTr3 : TreeAt w3 tb tt mk d r (lo + a + 1) c := TreeAt.kept (fun k _ hk => hbk k hk) (Nat.le_refl _) (Nat.le_refl _) _ _ _ _ H1.out.2.2.1
              have hh3 : w3.heap[b]? = some (.cells (nodeCells l r (lo + a) (mk (lo + a)) (orN mk lo (a + 1 + c))) 62 (0, 0)) := by rw [hbk b hbt]; exact H1.out.2.2.2
              have k1 : w3.cell? ⟨b, 1, none⟩ = some (.pointer r) := by rw [cell_of_row w3 b 1 _ 62 (0, 0) hh3]; rfl
              have H3 := hide (And.intro hlog3 (And.intro (H1.out.2.1.trans hf3) hTr3))
              clear hlog3 hf3 hfin hd hTr3 hh3 hbk e1 e3 e4 e5
              generalize L1 ++ [lo + a] = L3 at H3 hl3 hl4 HE3
              go_wp2_with fail
              refine (IH.out r (lo + a + 1) c w3 L3 H3.out.2.2 H3.out.1 hl3 hl4).mono ?_
              rintro e w4 ⟨rfl, hlog4, hf4⟩
              have H4 := hide (And.intro hlog4 (H3.out.2.1.trans hf4))
              clear hlog4 hf4
              go_wp2_with fail
              go_ret
              rw [HE3.out]
              exact ⟨rfl, H4.out⟩

end Go.Proofs.Ybulktlo
