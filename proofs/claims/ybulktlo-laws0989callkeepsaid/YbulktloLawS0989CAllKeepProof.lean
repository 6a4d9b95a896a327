import Derived.Test.YbulktloRows
import Derived.WalkKit
import Derived.ProofKit
import Derived.OpenShut
import Derived.ShutString
import Derived.ChangeOld
import Derived.Below
import Derived.WalkSpells
import Derived.WalkLawsBesides
import Derived.Test.YbulktloJoin
import Derived.Test.YbulktloAsc
namespace Go.Proofs.Ybulktlo.lawS0989CAllKeep
open Go.ChangeShapes Go.WideShapes Go.ChangeAt Go.RowKit
open Go.ChangeMaps (open_string shut_string)
set_option linter.unusedVariables false

theorem own : ownKnob Yba.prog.godebug = none := by kernel_rfl
theorem laidOut : laidOutB Yba.prog = true := by kernel_rfl
theorem info52 : (Yba.prog.info? 52).map (fun i => (i.zero, i.size, i.bytes)) = some (some (.agg #[.int .u8 0, .int .u8 0]), 2, 2) := by kernel_rfl

theorem walk_long (ao : Option Addr) (len cap : Nat) (y : Int) (w : World) (hlen : (256 : Int) < (len : Int)) :
    Calls Yba.prog 8 #[.slice ao len cap, .int .u16 y] w fun e w' => e = .returned (.bool true) ∧ Below w.heap.size w w' := by
  go_enter Yba.func8, Yba.ntmps8
  go_wp2_with fail
  go_ret
  exact ⟨rfl, Below.refl _ _⟩

theorem row_step {w wr : World} {g n k : Nat} {xs : List Value} {u v : Value} (hown : wr.ownsRow g 52 2 (.slice (some ⟨g, 0, none⟩) n n) n xs) (hg : w.heap.size ≤ g) (hbel : Below w.heap.size w wr) :
    ((wr.setCell ⟨g, k * 2, none⟩ u).setCell ⟨g, k * 2 + 1, none⟩ v).ownsRow g 52 2 (.slice (some ⟨g, 0, none⟩) n n) n ((xs.set (k * 2) u).set (k * 2 + 1) v) ∧
    Below w.heap.size w ((wr.setCell ⟨g, k * 2, none⟩ u).setCell ⟨g, k * 2 + 1, none⟩ v) :=
  ⟨((hown.stored _ u).1.stored _ v).1, (hbel.setCell hg _).setCell hg _⟩

def Copied (xs : List Value) (mk pk : Nat → Nat) (k : Nat) : Prop := ∀ i, i < k → xs[i * 2]? = some (.int .u8 ((mk i ||| 1 : Nat) : Int)) ∧ xs[i * 2 + 1]? = some (.int .u8 ((pk i : Nat) : Int))

theorem copied_step {xs : List Value} {mk pk : Nat → Nat} {n k : Nat} (hl : xs.length = n * 2) (hk : k < n) (h : Copied xs mk pk k) :
    Copied ((xs.set (k * 2) (.int .u8 ((mk k ||| 1 : Nat) : Int))).set (k * 2 + 1) (.int .u8 ((pk k : Nat) : Int))) mk pk (k + 1) := by
  intro i hi
  by_cases e : i = k
  · subst e
    rw [List.getElem?_set_ne (by omega), List.getElem?_set_self (by omega), List.getElem?_set_self (by simp; omega)]
    exact ⟨rfl, rfl⟩
  · rw [List.getElem?_set_ne (by omega), List.getElem?_set_ne (by omega), List.getElem?_set_ne (by omega), List.getElem?_set_ne (by omega)]
    exact h i (by omega)

theorem five_new (w : World) (o0 o1 o2 o3 o4 : Obj) : (((((w.alloc o0).alloc o1).alloc o2).alloc o3).alloc o4).heap.size = w.heap.size + 1 + 1 + 1 + 1 + 1 ∧
    (((((w.alloc o0).alloc o1).alloc o2).alloc o3).alloc o4).heap[w.heap.size]? = some o0 ∧ (((((w.alloc o0).alloc o1).alloc o2).alloc o3).alloc o4).heap[w.heap.size + 1]? = some o1 ∧
    (((((w.alloc o0).alloc o1).alloc o2).alloc o3).alloc o4).heap[w.heap.size + 1 + 1]? = some o2 ∧ (((((w.alloc o0).alloc o1).alloc o2).alloc o3).alloc o4).heap[w.heap.size + 1 + 1 + 1]? = some o3 ∧
    (((((w.alloc o0).alloc o1).alloc o2).alloc o3).alloc o4).heap[w.heap.size + 1 + 1 + 1 + 1]? = some o4 ∧
    Below w.heap.size w (((((w.alloc o0).alloc o1).alloc o2).alloc o3).alloc o4) := by
  obtain ⟨hs, h0, h1, h2, h3, hb⟩ := four_new w o0 o1 o2 o3
  refine ⟨by simp, ?_, ?_, ?_, ?_, ?_, hb.alloc (by omega) _⟩
  · rw [Below.heap_alloc _ _ _ (by omega)]; exact h0
  · rw [Below.heap_alloc _ _ _ (by omega)]; exact h1
  · rw [Below.heap_alloc _ _ _ (by omega)]; exact h2
  · rw [Below.heap_alloc _ _ _ (by omega)]; exact h3
  · rw [← hs]
    exact (MapKept.heap_alloc _ o4).1

theorem items_own {w : World} {base g n cap : Nat} {xs : List Value} {mk pk : Nat → Nat} (h : w.ownsRow base 52 2 (.slice (some ⟨g, 0, none⟩) n cap) n xs) (hc : Copied xs mk pk n) : Items w g 0 n (fun i => mk i ||| 1) pk := by
  intro i hi
  rw [Nat.zero_add, h.cellAt _ (by omega), h.cellAt _ (by omega)]
  exact hc i hi

/-- a slice of the first log stays while the second is written -/
theorem reads_frame {w w' : World} {ao : Option Addr} {n base base1 bl bc cap : Nat} {L : List Nat} (h : w.ownsRow base1 3 1 (.slice ao n cap) n (intV L)) (hf : LogFrame bl bc base w w') (hB : base = w.heap.size) (h1 : bl < base1) (h2 : bc < base1) : Reads w' ao n (fun i => ((L.getD i 0 : Nat) : Int)) := by
  intro i hi
  obtain ⟨g, e, hc⟩ := reads_own h i hi
  refine ⟨g, e, ?_⟩
  subst e
  obtain ⟨hg, cur, hh⟩ := own_block h (g := g) rfl
  have hlt := lt_of_block hh
  have hblk : w'.heap[g]? = w.heap[g]? := hf.block g (by omega) (by omega) (by omega)
  rw [World.cell?_of_block (w := w) (a := ⟨g, i, none⟩) hblk]
  exact hc

theorem sel_one : sel kp0 (fun _ => 1) 0 0 = sel kpT (fun _ => 1) 0 0 := rfl
theorem sel_all (mk : Nat → Nat) (n : Nat) : sel kp0 (fun i => mk i ||| 1) 0 n = sel kpT (fun i => mk i ||| 1) 0 n := by
  unfold sel
  apply List.filter_congr
  intro i _
  simp [kp0, kpT]

set_option maxHeartbeats 1000000 in
theorem walk_some (b off len cap : Nat) (mk pk : Nat → Nat) (hmk : ∀ i, mk i < 256) (hpk : ∀ i, pk i < 256) (lim : Nat) (hlim : lim ≤ 65535) (w : World) (hlen : len ≤ 256) (hb : b < w.heap.size) (hit : Items w b off len mk pk) :
    Calls Yba.prog 8 #[.slice (some ⟨b, off, none⟩) len cap, .int .u16 (lim : Int)] w fun e w' => e = .returned (.bool true) ∧ Below w.heap.size w w' := by
  have HM := hide hmk
  have HP := hide hpk
  have HI := hide hit
  obtain ⟨i0, hi, hz0, hz1, hz2⟩ := info_parts info52
  clear hmk hpk hit
  go_enter Yba.func8, Yba.ntmps8
  go_wp2_with (at_make; refine wpList_make_full _ rfl (.tmp 19) (.tmp 19) 41 rfl w.heap.size 52 i0 _ 2 Yba.underlying41 hi hz0 hz1 .i64 .i64 _ _ len rfl rfl rfl rfl (by rw [hz2]; omega) (by unfold maxLen; omega) (Nat.le_refl _) ?_; intro w1 hown1 hgrow1)
  have R0 := hide (And.intro hown1 ((Below.refl _ _).grown hgrow1 (Nat.le_refl _) (by simp)))
  clear hi hz0 hz1 hz2 hown1 hgrow1
  go_loopw [23] (fun i wr => ∃ (k : Nat) (xs : List Value), k ≤ len ∧ i = .int .i64 k ∧ Hid (wr.ownsRow w.heap.size 52 2 (.slice (some ⟨w.heap.size, 0, none⟩) len len) len xs ∧ Copied xs mk pk k ∧ Below w.heap.size w wr)) (fun i _ => len - (intOf i).toNat)
  case atStart => exact ⟨0, _, Nat.zero_le _, rfl, R0.out.1, fun i hi => absurd hi (Nat.not_lt_zero _), R0.out.2⟩
  case round =>
    obtain ⟨k, xs, hk, rfl, HR⟩ := hrel
    clear R0
    by_cases hkl : k < len
    · obtain ⟨hown, hcp, hbel⟩ := HR.out
      have hf0 := hown.frozenAt (k * 2)
      have hf1 := hown.frozenAt (k * 2 + 1)
      obtain ⟨v0, hv0⟩ := own_cell hown (j := k * 2) (by omega)
      obtain ⟨v1, hv1⟩ := own_cell hown (j := k * 2 + 1) (by omega)
      obtain ⟨c0, c1⟩ := HI.out.below hbel hb k hkl
      have hm1 := HM.out k
      have hp1 := HP.out k
      have hbit : bits .or .u8 ((mk k : Nat) : Int) 1 = ((mk k ||| 1 : Nat) : Int) := u8_or_nat (mk k) 1 hm1 (by decide)
      have R := hide (row_step (k := k) (u := .int .u8 ((mk k ||| 1 : Nat) : Int)) (v := .int .u8 ((pk k : Nat) : Int)) hown (Nat.le_refl _) hbel)
      have HC := hide (copied_step hown.1 hkl hcp)
      clear hown hcp hbel HR
      go_wp2_with fail
      go_region
      go_wp2_with fail
      go_roundw
      case rel => exact ⟨k + 1, _, by omega, by go_num, R.out.1.drew, HC.out, R.out.2.drew⟩
      case measure => simp [intOf]; omega
    · obtain rfl : k = len := by omega
      clear hkl hk
      obtain ⟨hown, hcp, hbel⟩ := HR.out
      have hI2 := items_own hown hcp
      have hglt : w.heap.size < wr.heap.size := by obtain ⟨_, cur, hh⟩ := own_block hown (g := w.heap.size) rfl; exact lt_of_block hh
      have HQ := hide (And.intro hI2 hbel)
      clear HR hown hcp hbel hI2
      go_wp2_with fail
      refine (build_any w.heap.size 0 k k (fun i => mk i ||| 1) pk (fun i => or_lt (HM.out i) (by decide)) HP.out (by omega) k 0 k _ _ wr rfl (by omega) (by omega) (Nat.le_refl _) hglt HQ.out.1).mono ?_
      rintro e w1 ⟨p, rfl, hT, hB1⟩
      have H1 := hide (And.intro hT (HQ.out.2.trans (hB1.mono (Nat.le_of_lt hglt))))
      clear hT hB1 HQ HI
      go_wp2_with fail
      obtain ⟨V, hV⟩ : ∃ V : World, V = ((((w1.alloc (.cells #[.int .i64 (lim : Int)] 3)).alloc (.cells #[.slice none 0 0] 44)).alloc (.cells #[.slice none 0 0] 44)).alloc (.cells #[.int .i64 0] 3)).alloc (.cells #[.int .i64 0] 3) := ⟨_, rfl⟩
      have hF := five_new w1 (.cells #[.int .i64 (lim : Int)] 3) (.cells #[.slice none 0 0] 44) (.cells #[.slice none 0 0] 44) (.cells #[.int .i64 0] 3) (.cells #[.int .i64 0] 3)
      rw [← hV] at hF ⊢
      obtain ⟨hs, n0, n1, n2, n3, n4, hBV⟩ := hF
      have hlog : LogInv V (w1.heap.size + 1) (w1.heap.size + 1 + 1 + 1) w1.heap.size (w1.heap.size + 1 + 1 + 1 + 1 + 1) lim [] :=
        ⟨⟨by omega, by omega, by omega, by omega, by omega, by omega, by omega⟩, n3, n0, none, 0, n1, World.ownsRow_nil _ _ _ _⟩
      have hTV : TreeAt V wr.heap.size w1.heap.size (fun i => mk i ||| 1) k p 0 k := TreeAt.kept (fun k _ hk => hBV.block k hk) (Nat.le_refl _) (Nat.le_refl _) _ _ _ _ H1.out.1
      have HV := hide (And.intro hBV (And.intro hs (And.intro n0 (And.intro n2 n4))))
      clear hV hBV hs n0 n1 n2 n3 n4
      refine (some19 _ _ _ (w1.heap.size + 1 + 1 + 1 + 1 + 1) lim wr.heap.size w1.heap.size (fun i => mk i ||| 1) (fun i => or_lt (HM.out i) (by decide)) (by omega) (by omega) (by omega) k p 0 k V [] hTV hlog (Nat.zero_le _) (by simp; try omega)).mono ?_
      rintro e w2 ⟨rfl, hlog2, hf2⟩
      obtain ⟨g1, g2, g3, g4, g5⟩ := HV.out
      have hsz2 : w1.heap.size + 1 + 1 + 1 + 1 + 1 ≤ w2.heap.size := by have := hf2.size; omega
      have hTW : TreeAt w2 wr.heap.size w1.heap.size (fun i => mk i ||| 1) k p 0 k := TreeAt.kept (fun k _ hk => hf2.block k (by omega) (by omega) (by omega)) (Nat.le_refl _) (Nat.le_refl _) _ _ _ _ hTV
      have k0 : w2.heap[w1.heap.size]? = some (.cells #[.int .i64 (lim : Int)] 3 (0, 0)) := by rw [hf2.block _ (by omega) (by omega) (by omega)]; exact g3
      have k2 : w2.heap[w1.heap.size + 1 + 1]? = some (.cells #[.slice none 0 0] 44 (0, 0)) := by rw [hf2.block _ (by omega) (by omega) (by omega)]; exact g4
      have k4 : w2.heap[w1.heap.size + 1 + 1 + 1 + 1]? = some (.cells #[.int .i64 0] 3 (0, 0)) := by rw [hf2.block _ (by omega) (by omega) (by omega)]; exact g5
      have hlogB : LogInv w2 (w1.heap.size + 1 + 1) (w1.heap.size + 1 + 1 + 1 + 1) w1.heap.size w2.heap.size lim [] :=
        ⟨⟨by omega, by omega, by omega, by omega, by omega, by omega, Nat.le_refl _⟩, k4, k0, none, 0, k2, World.ownsRow_nil _ _ _ _⟩
      have hB2 : Below w1.heap.size w1 w2 := g1.trans (hf2.below (by omega) (by omega) (by omega))
      have H2 := hide (And.intro hlog2 (And.intro hB2 (And.intro hTW hlogB)))
      clear hlog hTV hlog2 hf2 g1 g2 g3 g4 g5 hTW k0 k2 k4 hlogB hB2 HV
      go_wp2_with fail
      refine (asc22 _ _ _ w2.heap.size lim wr.heap.size w1.heap.size (fun i => mk i ||| 1) (by omega) (by omega) (by omega) k p 0 k w2 [] H2.out.2.2.1 H2.out.2.2.2 (Nat.zero_le _) (by simp; try omega)).mono ?_
      rintro e w3 ⟨rfl, hlog3, hf3⟩
      obtain ⟨⟨b1, b2, b3, b4, b5, b6, b7⟩, hlc, hlm, la, lc, hll, hlown⟩ := H2.out.1
      obtain ⟨-, -, -, lb, ld, hll3, hlown3⟩ := hlog3
      rw [sel_all] at hll hlown ⊢
      have l1 : w3.cell? ⟨w1.heap.size + 1, 0, none⟩ = some (.slice la (after [] (sel kpT (fun i => mk i ||| 1) 0 k) lim).2.length lc) := by
        have hblk : w3.heap[w1.heap.size + 1]? = w2.heap[w1.heap.size + 1]? := hf3.block _ (by omega) (by omega) (by omega)
        rw [hll] at hblk
        exact cell_of_one hblk
      have l2 := cell_of_one hll3
      have r1 := reads_frame hlown hf3 rfl (by omega) (by omega)
      have r2 := reads_own hlown3
      have hfin : Below w.heap.size w w3 := (H1.out.2.trans (H2.out.2.1.mono H1.out.2.size)).trans (hf3.below (by have := H1.out.2.size; omega) (by have := H1.out.2.size; omega) (by have := H1.out.2.size; omega))
      have hel : (after [] (sel kpT (fun i => mk i ||| 1) 0 k) lim).2.length ≤ 10000 := by
        have := sel_len kpT (fun i => mk i ||| 1) 0 k
        unfold after
        split
        · simp; omega
        · simp [List.length_take]; omega
      have H3 := hide (And.intro hfin (And.intro r1 r2))
      clear hlc hlm hll hlown hll3 hlown3 hf3 hfin r1 r2 H1 H2 b1 b2 b3 b4 b5 b6 b7
      generalize after [] (sel kpT (fun i => mk i ||| 1) 0 k) lim = R at H3 hel l1 l2 ⊢
      have hRR : (R.1 == R.1) = true := by simp
      go_wp2_with fail
      refine (eq_any R.2.length lc ld la lb _ (by omega) w3 H3.out.2.1 H3.out.2.2).mono ?_
      rintro e w7 ⟨rfl, hb7⟩
      have H7 := hide (H3.out.1.trans (hb7.mono H3.out.1.size))
      clear hb7
      go_wp2_with fail
      go_ret
      exact ⟨rfl, H7.out⟩

set_option maxHeartbeats 1000000 in
theorem walk_zero (ao : Option Addr) (cap : Nat) (lim : Nat) (hlim : lim ≤ 65535) (w : World) :
    Calls Yba.prog 8 #[.slice ao 0 cap, .int .u16 (lim : Int)] w fun e w' => e = .returned (.bool true) ∧ Below w.heap.size w w' := by
  obtain ⟨i0, hi, hz0, hz1, hz2⟩ := info_parts info52
  go_enter Yba.func8, Yba.ntmps8
  go_wp2_with (at_make; refine wpList_make_full _ rfl (.tmp 19) (.tmp 19) 41 rfl w.heap.size 52 i0 _ 2 Yba.underlying41 hi hz0 hz1 .i64 .i64 _ _ 0 rfl rfl rfl rfl (by rw [hz2]; omega) (by unfold maxLen; omega) (Nat.le_refl _) ?_; intro w1 hown1 hgrow1)
  have R0 := hide ((Below.refl w.heap.size w).grown hgrow1 (Nat.le_refl _) (by simp))
  clear hi hz0 hz1 hz2 hown1 hgrow1
  refine wp_loop_rounds 1 ?_
  rw [rounds_succ]
  go_wp2_with fail
  refine (build_zero _ _ w1).mono ?_
  rintro e w9 ⟨rfl, hw9⟩
  subst w9
  obtain ⟨p, hp⟩ : ∃ p : Option Addr, p = none := ⟨none, rfl⟩
  have H1 := hide (And.intro (show TreeAt w1 w1.heap.size w1.heap.size (fun _ => 1) 0 p 0 0 from ⟨hp, rfl⟩) R0.out)
  rw [← hp]
  clear R0 hp
  go_wp2_with fail
  obtain ⟨V, hV⟩ : ∃ V : World, V = ((((w1.alloc (.cells #[.int .i64 (lim : Int)] 3)).alloc (.cells #[.slice none 0 0] 44)).alloc (.cells #[.slice none 0 0] 44)).alloc (.cells #[.int .i64 0] 3)).alloc (.cells #[.int .i64 0] 3) := ⟨_, rfl⟩
  have hF := five_new w1 (.cells #[.int .i64 (lim : Int)] 3) (.cells #[.slice none 0 0] 44) (.cells #[.slice none 0 0] 44) (.cells #[.int .i64 0] 3) (.cells #[.int .i64 0] 3)
  rw [← hV] at hF ⊢
  obtain ⟨hs, n0, n1, n2, n3, n4, hBV⟩ := hF
  have hlog : LogInv V (w1.heap.size + 1) (w1.heap.size + 1 + 1 + 1) w1.heap.size (w1.heap.size + 1 + 1 + 1 + 1 + 1) lim [] :=
    ⟨⟨by omega, by omega, by omega, by omega, by omega, by omega, by omega⟩, n3, n0, none, 0, n1, World.ownsRow_nil _ _ _ _⟩
  have hTV : TreeAt V w1.heap.size w1.heap.size (fun _ => 1) 0 p 0 0 := TreeAt.kept (fun k _ hk => hBV.block k hk) (Nat.le_refl _) (Nat.le_refl _) _ _ _ _ H1.out.1
  have HV := hide (And.intro hBV (And.intro hs (And.intro n0 (And.intro n2 n4))))
  clear hV hBV hs n0 n1 n2 n3 n4
  refine (some19 _ _ _ (w1.heap.size + 1 + 1 + 1 + 1 + 1) lim w1.heap.size w1.heap.size (fun _ => 1) (fun _ => by decide) (by omega) (by omega) (by omega) 0 p 0 0 V [] hTV hlog (Nat.zero_le _) (by simp; try omega)).mono ?_
  rintro e w2 ⟨rfl, hlog2, hf2⟩
  obtain ⟨g1, g2, g3, g4, g5⟩ := HV.out
  have hsz2 : w1.heap.size + 1 + 1 + 1 + 1 + 1 ≤ w2.heap.size := by have := hf2.size; omega
  have hTW : TreeAt w2 w1.heap.size w1.heap.size (fun _ => 1) 0 p 0 0 := TreeAt.kept (fun k _ hk => hf2.block k (by omega) (by omega) (by omega)) (Nat.le_refl _) (Nat.le_refl _) _ _ _ _ hTV
  have k0 : w2.heap[w1.heap.size]? = some (.cells #[.int .i64 (lim : Int)] 3 (0, 0)) := by rw [hf2.block _ (by omega) (by omega) (by omega)]; exact g3
  have k2 : w2.heap[w1.heap.size + 1 + 1]? = some (.cells #[.slice none 0 0] 44 (0, 0)) := by rw [hf2.block _ (by omega) (by omega) (by omega)]; exact g4
  have k4 : w2.heap[w1.heap.size + 1 + 1 + 1 + 1]? = some (.cells #[.int .i64 0] 3 (0, 0)) := by rw [hf2.block _ (by omega) (by omega) (by omega)]; exact g5
  have hlogB : LogInv w2 (w1.heap.size + 1 + 1) (w1.heap.size + 1 + 1 + 1 + 1) w1.heap.size w2.heap.size lim [] :=
    ⟨⟨by omega, by omega, by omega, by omega, by omega, by omega, Nat.le_refl _⟩, k4, k0, none, 0, k2, World.ownsRow_nil _ _ _ _⟩
  have hB2 : Below w1.heap.size w1 w2 := g1.trans (hf2.below (by omega) (by omega) (by omega))
  have H2 := hide (And.intro hlog2 (And.intro hB2 (And.intro hTW hlogB)))
  clear hlog hTV hlog2 hf2 g1 g2 g3 g4 g5 hTW k0 k2 k4 hlogB hB2 HV
  go_wp2_with fail
  refine (asc22 _ _ _ w2.heap.size lim w1.heap.size w1.heap.size (fun _ => 1) (by omega) (by omega) (by omega) 0 p 0 0 w2 [] H2.out.2.2.1 H2.out.2.2.2 (Nat.zero_le _) (by simp; try omega)).mono ?_
  rintro e w3 ⟨rfl, hlog3, hf3⟩
  obtain ⟨⟨b1, b2, b3, b4, b5, b6, b7⟩, hlc, hlm, la, lc, hll, hlown⟩ := H2.out.1
  obtain ⟨-, -, -, lb, ld, hll3, hlown3⟩ := hlog3
  rw [sel_one] at hll hlown ⊢
  have l1 : w3.cell? ⟨w1.heap.size + 1, 0, none⟩ = some (.slice la (after [] (sel kpT (fun _ => 1) 0 0) lim).2.length lc) := by
    have hblk : w3.heap[w1.heap.size + 1]? = w2.heap[w1.heap.size + 1]? := hf3.block _ (by omega) (by omega) (by omega)
    rw [hll] at hblk
    exact cell_of_one hblk
  have l2 := cell_of_one hll3
  have r1 := reads_frame hlown hf3 rfl (by omega) (by omega)
  have r2 := reads_own hlown3
  have hfin : Below w.heap.size w w3 := (H1.out.2.trans (H2.out.2.1.mono H1.out.2.size)).trans (hf3.below (by have := H1.out.2.size; omega) (by have := H1.out.2.size; omega) (by have := H1.out.2.size; omega))
  have hel : (after [] (sel kpT (fun _ => 1) 0 0) lim).2.length ≤ 10000 := by
    have := sel_len kpT (fun _ => 1) 0 0
    unfold after
    split
    · simp; omega
    · simp [List.length_take]; omega
  have H3 := hide (And.intro hfin (And.intro r1 r2))
  clear hlc hlm hll hlown hll3 hlown3 hf3 hfin r1 r2 H1 H2 b1 b2 b3 b4 b5 b6 b7
  generalize after [] (sel kpT (fun _ => 1) 0 0) lim = R at H3 hel l1 l2 ⊢
  have hRR : (R.1 == R.1) = true := by simp
  go_wp2_with fail
  refine (eq_any R.2.length lc ld la lb _ (by omega) w3 H3.out.2.1 H3.out.2.2).mono ?_
  rintro e w7 ⟨rfl, hb7⟩
  have H7 := hide (H3.out.1.trans (hb7.mono H3.out.1.size))
  clear hb7
  go_wp2_with fail
  go_ret
  exact ⟨rfl, H7.out⟩

theorem walk (a0 : Option Addr) (len0 cap0 : Nat) (z0 : (Nat → Nat) × (Nat → Nat)) (a1 : Int) (w : World) (w0 : IsItems w a0 len0 cap0 z0) (w1 : (Lit.int .u16 a1).wf = true) :
    Calls Yba.prog 8 #[.slice a0 len0 cap0, .int .u16 a1] w fun e w' => e = .returned (.bool true) ∧ Below w.heap.size w w' := by
  have hb1 := bounds_u16 w1
  obtain ⟨x, rfl⟩ := Int.eq_ofNat_of_zero_le hb1.1
  by_cases hl : 256 < len0
  · exact walk_long a0 len0 cap0 x w (by omega)
  · rcases w0.2 with rfl | ⟨b, off, rfl, hb, hit⟩
    · exact walk_zero a0 cap0 x (by omega) w
    · exact walk_some b off len0 cap0 z0.1 z0.2 w0.1.1 w0.1.2 x (by omega) w (by omega) hb hit

/-! ### THE ROW's STEP (after the guide's shell) -/
set_option maxRecDepth 100000 in
theorem lifted (os : Os) (started : os.Started) (H : Type) (enc : TypeId × Value → H) :
    ReturnsInHanded {} Yba.checked os 8 .any (Rows.lawS0989CAllKeepSpec.pre6 enc Yba.prog Yba.f8 Rows.lawS0989CAllKeepRow.domain false) (Rows.lawS0989CAllKeepSpec.post enc Yba.prog Yba.f8 false true false false) := by
  refine returnsInHanded_of_change (C := Yba.checked) own started (by kernel_rfl) Yba.func8
    (ChangeSpec.witness6 (enc := enc) (C := Yba.checked) false ⟨#[], #[.slice none 0 0, .int .u16 0], []⟩ 8 (by kernel_rfl) (by kernel_rfl) (by kernel_rfl) (by kernel_rfl)) ?_
  intro W base args ds gs before hval0 hW hcnd _
  have hval : ∀ (j : Nat) t v, Yba.f8.params[j]? = some t → args[j]? = some v → Value.okWide Yba.prog W .any base t v := hval0
  have hW' := hW
  obtain ⟨p, q, hA0, hV, rfl, hfz, hnd⟩ := hW
  have hA : DataW.TrodAll enc Yba.prog W 0 (fun _ => true) true Yba.f8.params.toList args.toList ds p := hA0
  rw [Yba.params8] at hA hval
  obtain ⟨v0, vs0, d0, ds0, p0, q0, hargs, rfl, rfl, h0, r0⟩ := trodAll_cons hA
  obtain ⟨v1, vs1, d1, ds1, p1, q1, rfl, rfl, rfl, h1, r1⟩ := trodAll_cons r0
  obtain ⟨rfl, rfl, rfl⟩ := trodAll_nil r1
  obtain rfl : args = #[v0, v1] := by cases args; simp_all
  obtain ⟨rfl, rfl⟩ := trodVars_none hV
  obtain ⟨a0, len0, cap0, rfl⟩ := okWide_slice Yba.underlying41 (hval 0 41 v0 rfl rfl)
  have k0 := h0
  have lt0 : ∀ x ∈ p0, x.block < W.heap.size := by obtain ⟨m, hm⟩ := k0; exact DataW.trod_lt m _ _ _ hm
  obtain ⟨z0, w0⟩ : ∃ zs, IsItems W a0 len0 cap0 zs := isItems_open h0
  obtain ⟨a1, rfl, rfl, rfl, w1⟩ := open_int Yba.underlying37 (hval 1 37 v1 rfl rfl) h1
  clear hA0 hval0
  refine (walk a0 len0 cap0 z0 a1 W w0 w1).mono fun e W' ⟨he, bel⟩ => ?_
  subst he
  exact ⟨_, rfl, _, _, _, [], _, [], hW', trodAll_mk1 (shut_bool Yba.underlying4 _), (trodAll_cons_mk (Below.trod laidOut (by kernel_rfl) (of_decide_eq_true (by kernel_rfl)) k0 bel lt0) (trodAll_cons_mk (shut_int Yba.underlying37 w1) trodAll_mk0)), rfl, bel.frame _, fun h => by cases h⟩

theorem over : Rows.lawS0989CAllKeepRow.holds Yba.pinned (OpenSpec.ofChange Rows.lawS0989CAllKeepSpec) :=
  OpenClaim.holds_of_wide 8 Yba.f8 rfl rfl rfl rfl rfl rfl rfl ⟨rfl, rfl, rfl, rfl, rfl⟩ rfl rfl rfl rfl rfl (by kernel_rfl) Yba.func8 (by kernel_rfl)
    (of_decide_eq_true (by kernel_rfl)) (by unfold Func.isWrapper; first | (rw [if_pos (by decide +kernel)]; kernel_rfl) | (rw [if_neg (by decide +kernel)]; exact ⟨rfl, rfl⟩))
    (fun os started H enc _ => lifted os started H enc)

theorem proved : Rows.LawS0989CAllKeepSaid := over
#print axioms proved
end Go.Proofs.Ybulktlo.lawS0989CAllKeep
