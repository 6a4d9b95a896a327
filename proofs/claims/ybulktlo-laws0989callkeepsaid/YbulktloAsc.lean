import Derived.Test.YbulktloSome2
namespace Go.Proofs.Ybulktlo
open Go.RowKit

def kpT (_ : Nat) : Bool := true

/-! ascend, at the closure 22 -/
set_option maxHeartbeats 1000000 in
theorem asc22 (bl bc bm base lim tb tt : Nat) (mk : Nat → Nat) (ht1 : tt ≤ bl) (ht2 : tt ≤ bc) (htb : tt ≤ base) : ∀ (d : Nat) (p : Option Addr) (lo n : Nat) (w : World) (L : List Nat),
    TreeAt w tb tt mk d p lo n → LogInv w bl bc bm base lim L → L.length ≤ lim → L.length + n ≤ 10000 →
    Calls Yba.prog 21 #[.pointer p, .func (.func 22) #[] #[.pointer (some ⟨bl, 0, none⟩), .pointer (some ⟨bc, 0, none⟩), .pointer (some ⟨bm, 0, none⟩)]] w fun e w' =>
      e = .returned (.bool (after L (sel kpT mk lo n) lim).1) ∧ LogInv w' bl bc bm base lim (after L (sel kpT mk lo n) lim).2 ∧ LogFrame bl bc base w w' := by
  intro d
  induction d with
  | zero =>
    rintro p lo n w L ⟨rfl, rfl⟩ hlog hL hb
    have HL := hide hlog
    clear hlog
    go_enter Yba.func21, Yba.ntmps21
    go_wp2_with fail
    go_ret
    have e : after L (sel kpT mk lo 0) lim = (true, L) := after_nil L lim hL
    rw [e]
    exact ⟨rfl, HL.out, LogFrame.refl _ _ _ _⟩
  | succ d ih =>
    intro p lo n w L htree hlog hL hb
    have IH := hide ih
    have HL := hide hlog
    clear ih hlog
    rcases htree with ⟨rfl, rfl⟩ | ⟨b, l, r, a, c, rfl, hbb, hbt, rfl, hh, hTl, hTr⟩
    · go_enter Yba.func21, Yba.ntmps21
      go_wp2_with fail
      go_ret
      have e : after L (sel kpT mk lo 0) lim = (true, L) := after_nil L lim hL
      rw [e]
      exact ⟨rfl, HL.out, LogFrame.refl _ _ _ _⟩
    · have c0 : w.cell? ⟨b, 0, none⟩ = some (.pointer l) := by rw [cell_of_row w b 0 _ 62 (0, 0) hh]; rfl
      have HH := hide (And.intro hh (And.intro hTl hTr))
      clear hh hTl hTr
      go_enter Yba.func21, Yba.ntmps21
      go_wp2_with fail
      refine (IH.out l lo a w L HH.out.2.1 HL.out hL (by omega)).mono ?_
      rintro e w1 ⟨rfl, hlog1, hf1⟩
      have hsp := sel_split kpT mk a lo c
      rw [if_pos (show kpT (mk (lo + a)) = true from rfl)] at hsp
      cases hr1 : (after L (sel kpT mk lo a) lim).1
      · have e : after L (sel kpT mk lo (a + 1 + c)) lim = after L (sel kpT mk lo a) lim := by rw [hsp]; exact after_stop hr1
        have HZ := hide (And.intro hlog1 (And.intro hf1 (And.intro hr1 e)))
        clear hlog1 hf1 hr1 hsp e c0
        go_wp2_with fail
        go_ret
        rw [HZ.out.2.2.2]
        exact ⟨by rw [HZ.out.2.2.1]; rfl, HZ.out.1, HZ.out.2.1⟩
      · have hmore := fun G => after_more (G := G) hr1
        have ht := after_true hr1
        have hlen : (after L (sel kpT mk lo a) lim).2.length + c + 1 ≤ 10000 := by
          rw [ht.1, List.length_append]
          have := sel_len kpT mk lo a
          omega
        have hlim : (after L (sel kpT mk lo a) lim).2.length ≤ lim := by rw [ht.1]; exact ht.2
        have hE2 := hmore ([lo + a] ++ sel kpT mk (lo + a + 1) c)
        rw [← hsp] at hE2
        clear hmore ht hsp
        generalize (after L (sel kpT mk lo a) lim).2 = L1 at hlog1 hlen hlim hE2
        have HE2 := hide hE2
        clear hE2
        have hbk : ∀ k, k < tt → w1.heap[k]? = w.heap[k]? := fun k hk => hf1.block k (by omega) (by omega) (by omega)
        have hh1 : w1.heap[b]? = some (.cells (nodeCells l r (lo + a) (mk (lo + a)) (orN mk lo (a + 1 + c))) 62 (0, 0)) := by rw [hbk b hbt]; exact HH.out.1
        have hTr1 : TreeAt w1 tb tt mk d r (lo + a + 1) c := TreeAt.kept (fun k _ hk => hbk k hk) (Nat.le_refl _) (Nat.le_refl _) _ _ _ _ HH.out.2.2
        have e3 : w1.cell? ⟨b, 3, none⟩ = some (.int .i64 ((lo + a : Nat) : Int)) := by rw [cell_of_row w1 b 3 _ 62 (0, 0) hh1]; rfl
        have e4 : w1.cell? ⟨b, 4, none⟩ = some (.int .u64 ((mk (lo + a) : Nat) : Int)) := by rw [cell_of_row w1 b 4 _ 62 (0, 0) hh1]; rfl
        have H1o := hide (after_one L1 (lo + a) lim hlim)
        have H1 := hide (And.intro hlog1 (And.intro hf1 (And.intro hTr1 hh1)))
        clear hlog1 hf1 hTr1 hh1 c0 hbk hr1
        go_wp2_with fail
        refine (yield22 H1.out.1 (by omega) (lo + a) _ (by omega) _).mono ?_
        rintro e w3 ⟨rfl, hlog3, hf3⟩
        cases hd : decide (L1.length + 1 ≤ lim)
        · have hfin : after L1 ([lo + a] ++ sel kpT mk (lo + a + 1) c) lim = (false, L1 ++ [lo + a]) := by
            rw [after_stop (by rw [H1o.out]; exact hd), H1o.out, hd]
          have H3 := hide (And.intro hlog3 (And.intro (H1.out.2.1.trans hf3) (HE2.out.trans hfin)))
          clear hlog3 hf3 hfin hd
          go_wp2_with fail
          go_ret
          rw [H3.out.2.2]
          exact ⟨rfl, H3.out.1, H3.out.2.1⟩
        · have hfin : after L1 ([lo + a] ++ sel kpT mk (lo + a + 1) c) lim = after (L1 ++ [lo + a]) (sel kpT mk (lo + a + 1) c) lim := by
            rw [after_more (by rw [H1o.out]; exact hd), H1o.out]
          have HE3 := hide (HE2.out.trans hfin)
          have hl3 : (L1 ++ [lo + a]).length ≤ lim := by simpa using hd
          have hl4 : (L1 ++ [lo + a]).length + c ≤ 10000 := by rw [List.length_append, List.length_singleton]; omega
          have hbk : ∀ k, k < tt → w3.heap[k]? = w1.heap[k]? := fun k hk => hf3.block k (by omega) (by omega) (by omega)
          have hTr3 : TreeAt w3 tb tt mk d r (lo + a + 1) c := TreeAt.kept (fun k _ hk => hbk k hk) (Nat.le_refl _) (Nat.le_refl _) _ _ _ _ H1.out.2.2.1
          have hh3 : w3.heap[b]? = some (.cells (nodeCells l r (lo + a) (mk (lo + a)) (orN mk lo (a + 1 + c))) 62 (0, 0)) := by rw [hbk b hbt]; exact H1.out.2.2.2
          have k1 : w3.cell? ⟨b, 1, none⟩ = some (.pointer r) := by rw [cell_of_row w3 b 1 _ 62 (0, 0) hh3]; rfl
          have H3 := hide (And.intro hlog3 (And.intro (H1.out.2.1.trans hf3) hTr3))
          clear hlog3 hf3 hfin hd hTr3 hh3 hbk e3 e4
          generalize L1 ++ [lo + a] = L3 at H3 hl3 hl4 HE3
          go_wp2_with fail
          refine (IH.out r (lo + a + 1) c w3 L3 H3.out.2.2 H3.out.1 hl3 hl4).mono ?_
          rintro e w4 ⟨rfl, hlog4, hf4⟩
          have H4 := hide (And.intro hlog4 (H3.out.2.1.trans hf4))
          clear hlog4 hf4
          go_wp2_with fail
          go_ret
          rw [HE3.out]
          exact ⟨rfl, H4.out⟩
end Go.Proofs.Ybulktlo
