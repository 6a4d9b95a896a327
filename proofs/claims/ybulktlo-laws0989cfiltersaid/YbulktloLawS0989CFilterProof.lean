import Derived.Test.YbulktloRows
import Derived.WalkKit
import Derived.ProofKit
import Derived.OpenShut
import Derived.ShutString
import Derived.ChangeOld
import Derived.Below
import Derived.WalkSpells
import Derived.WalkLawsBesides
import Derived.Test.YbulktloJoin
namespace Go.Proofs.Ybulktlo.lawS0989CFilter
open Go.ChangeShapes Go.WideShapes Go.ChangeAt Go.RowKit
open Go.ChangeMaps (open_string shut_string)
set_option linter.unusedVariables false

theorem own : ownKnob Yba.prog.godebug = none := by kernel_rfl
theorem laidOut : laidOutB Yba.prog = true := by kernel_rfl

theorem walk_long (ao : Option Addr) (len cap : Nat) (x y : Int) (w : World) (hlen : (256 : Int) < (len : Int)) :
    Calls Yba.prog 7 #[.slice ao len cap, .int .u8 x, .int .u16 y] w fun e w' => e = .returned (.bool true) ∧ Below w.heap.size w w' := by
  go_enter Yba.func7, Yba.ntmps7
  go_wp2_with fail
  go_ret
  exact ⟨rfl, Below.refl _ _⟩

set_option maxHeartbeats 1000000 in
theorem walk_some (b off len cap : Nat) (mk pk : Nat → Nat) (hmk : ∀ i, mk i < 256) (hpk : ∀ i, pk i < 256) (W lim : Nat) (hW : W < 256) (hlim : lim ≤ 65535) (w : World) (hlen : len ≤ 256) (hb : b < w.heap.size) (hit : Items w b off len mk pk) :
    Calls Yba.prog 7 #[.slice (some ⟨b, off, none⟩) len cap, .int .u8 (W : Int), .int .u16 (lim : Int)] w fun e w' => e = .returned (.bool true) ∧ Below w.heap.size w w' := by
  have HM := hide hmk
  have HP := hide hpk
  have HI := hide hit
  obtain ⟨i0, hi, hz0, hz1, hz2⟩ := info_parts info3
  clear hmk hpk hit
  go_enter Yba.func7, Yba.ntmps7
  go_wp2_with fail
  refine (build_any b off len cap mk pk HM.out HP.out (by omega) len 0 len _ _ w rfl (by omega) (by omega) (Nat.le_refl _) hb HI.out).mono ?_
  rintro e w1 ⟨p, rfl, hT, hB1⟩
  have H1 := hide (And.intro hT hB1)
  clear hT hB1
  go_wp2_with fail
  obtain ⟨V, hV⟩ : ∃ V : World, V = (((w1.alloc (.cells #[.int .u64 (W : Int)] 22)).alloc (.cells #[.int .i64 (lim : Int)] 3)).alloc (.cells #[.slice none 0 0] 44)).alloc (.cells #[.int .i64 0] 3) := ⟨_, rfl⟩
  have hF := four_new w1 (.cells #[.int .u64 (W : Int)] 22) (.cells #[.int .i64 (lim : Int)] 3) (.cells #[.slice none 0 0] 44) (.cells #[.int .i64 0] 3)
  rw [← hV] at hF ⊢
  obtain ⟨hs, n0, n1, n2, n3, hBV⟩ := hF
  have hlog : LogInv V (w1.heap.size + 1 + 1) (w1.heap.size + 1 + 1 + 1) (w1.heap.size + 1) (w1.heap.size + 1 + 1 + 1 + 1) lim [] :=
    ⟨⟨by omega, by omega, by omega, by omega, by omega, by omega, by omega⟩, n3, n1, none, 0, n2, World.ownsRow_nil _ _ _ _⟩
  have hTV : TreeAt V w.heap.size w1.heap.size mk len p 0 len := TreeAt.kept (fun k _ hk => hBV.block k hk) (Nat.le_refl _) (Nat.le_refl _) _ _ _ _ H1.out.1
  have HV := hide (And.intro hBV hs)
  clear hV hBV hs n1 n2 n3
  refine (some16 w1.heap.size W _ _ _ (w1.heap.size + 1 + 1 + 1 + 1) lim w.heap.size w1.heap.size mk HM.out hW ⟨by omega, by omega, by omega⟩ (by omega) (by omega) (by omega) len p 0 len V [] hTV n0 hlog (Nat.zero_le _) (by simp; omega)).mono ?_
  rintro e w2 ⟨rfl, hlog2, hf2⟩
  have hB2 : Below w1.heap.size w1 w2 := HV.out.1.trans (hf2.below (by omega) (by omega) (by omega))
  have n0' : w2.heap[w1.heap.size]? = some (.cells #[.int .u64 (W : Int)] 22 (0, 0)) := by rw [hf2.block _ (by omega) (by omega) (by omega)]; exact n0
  have hs2 : w1.heap.size + 1 + 1 + 1 + 1 ≤ w2.heap.size := by have := hf2.size; rw [HV.out.2] at this; exact this
  have H2 := hide (And.intro hlog2 (And.intro hB2 n0'))
  clear hlog hTV n0 hlog2 hf2 hB2 n0' HV
  go_wp2_with fail
  go_loopw [14, 13] (fun i v wr => ∃ (k : Nat) (ao : Option Addr) (cx : Nat), k ≤ len ∧ i = .int .i64 k ∧ v = .slice ao (sel (kpW W) mk 0 k).length cx ∧ Hid (wr.ownsRow w2.heap.size 3 1 v (sel (kpW W) mk 0 k).length (intV (sel (kpW W) mk 0 k)) ∧ Below w2.heap.size w2 wr)) (fun i _ _ => len - (intOf i).toNat)
  case atStart => exact ⟨0, none, 0, Nat.zero_le _, rfl, rfl, World.ownsRow_nil _ _ _ _, Below.refl _ _⟩
  case round =>
    obtain ⟨k, ao, cx, hk, rfl, rfl, HR⟩ := hrel
    by_cases hkl : k < len
    · have hBw : Below w.heap.size w wr := (H1.out.2.trans (H2.out.2.1.mono H1.out.2.size)).trans (HR.out.2.mono (by have := H1.out.2.size; omega))
      have c0 := (HI.out.below hBw hb k hkl).1
      have c8 : wr.cell? ⟨w1.heap.size, 0, none⟩ = some (.int .u64 (W : Int)) := by rw [HR.out.2.cell (by show w1.heap.size < _; omega)]; exact cell_of_one H2.out.2.2
      have hmk := HM.out k
      have hbit : bits .and .u64 ((mk k : Nat) : Int) (W : Int) = ((mk k &&& W : Nat) : Int) := u64_and_nat _ _ (by omega) (by omega)
      have hel := sel_len (kpW W) mk 0 k
      clear hBw
      cases hkp : kpW W (mk k)
      · have hz : (((mk k &&& W : Nat) : Int) != 0) = false := by rw [nz_cast]; exact hkp
        have hS : sel (kpW W) mk 0 (k + 1) = sel (kpW W) mk 0 k := by rw [sel_succ, hkp]; simp
        have HS := hide hS
        clear hS hkp
        go_wp2_with fail
        go_quiet (fail)
        go_wp2_with fail
        go_roundw
        case rel =>
          refine ⟨k + 1, ao, cx, by omega, by go_num, by rw [HS.out], ?_⟩
          rw [HS.out]
          exact ⟨HR.out.1, HR.out.2.trans ⟨rfl, rfl, rfl, Nat.le_refl _, fun _ _ => rfl⟩⟩
        case measure => simp [intOf]; omega
      · have hz : (((mk k &&& W : Nat) : Int) != 0) = true := by rw [nz_cast]; exact hkp
        have hS : sel (kpW W) mk 0 (k + 1) = sel (kpW W) mk 0 k ++ [k] := by rw [sel_succ, hkp]; simp
        have HS := hide hS
        clear hS hkp
        generalize sel (kpW W) mk 0 k = E at *
        have hBs := HR.out.2.size
        go_wp2_with fail
        go_quiet (fail)
        have R5 := hide (show (wr.drewN nq).ownsRow w2.heap.size 3 1 (.slice ao E.length cx) E.length (intV E) ∧ Below w2.heap.size w2 (wr.drewN nq) from ⟨HR.out.1, HR.out.2.trans ⟨rfl, rfl, rfl, Nat.le_refl _, fun _ _ => rfl⟩⟩)
        generalize wr.drewN nq = w5 at R5 ⊢
        have hs5 := R5.out.2.size
        have hown5 := R5.out.1
        clear HR c0 c8 hBs
        go_wp2_with (at_builtin; refine wpList_append_shape _ rfl (.tmp 46) (.tmp 48) 44 rfl w2.heap.size 3 i0 _ 1 8 Yba.underlying44 hi hz0 hz1 hz2 rfl (by decide) (.slice ao E.length cx) E.length (intV E) rfl (hown5.alloc _) ⟨w5.heap.size, 0, none⟩ 1 1 [.int .i64 (k : Int)] rfl rfl (new_one _ _) (one3 _) (by unfold maxLen; omega) (by omega) (by simp; omega) (by decide) ?_; intro g6 c6 w6 hown6 hgrow6)
        have hB6 : Below w2.heap.size w2 w6 := by
          refine (R5.out.2.alloc hs5 _).grown hgrow6 (by simp; omega) ?_
          intro k' e
          exact (own_block hown5 e).1
        have R6 := hide (And.intro hown6 hB6)
        clear hown6 hgrow6 hB6 hown5
        go_roundw
        case rel =>
          refine ⟨k + 1, _, c6, by omega, by go_num, by rw [HS.out, List.length_append, List.length_singleton], ?_, R6.out.2⟩
          rw [HS.out, ← intV_snoc, List.length_append, List.length_singleton]
          exact R6.out.1
        case measure => simp [intOf]; omega
    · obtain rfl : k = len := by omega
      clear hkl hk
      obtain ⟨hown, hBr⟩ := HR.out
      obtain ⟨⟨b1, b2, b3, b4, b5, b6, b7⟩, hlc, hlm, la, lc, hll, hlown⟩ := H2.out.1
      have m0 : wr.cell? ⟨w1.heap.size + 1, 0, none⟩ = some (.int .i64 (lim : Int)) := by rw [hBr.cell (by show w1.heap.size + 1 < _; omega)]; exact cell_of_one hlm
      have l0 : wr.cell? ⟨w1.heap.size + 1 + 1, 0, none⟩ = some (.slice la (after [] (sel (kpW W) mk 0 k) lim).2.length lc) := by rw [hBr.cell (by show w1.heap.size + 1 + 1 < _; omega)]; exact cell_of_one hll
      have r1 : Reads wr la (after [] (sel (kpW W) mk 0 k) lim).2.length (fun i => (((after [] (sel (kpW W) mk 0 k) lim).2.getD i 0 : Nat) : Int)) := reads_below (reads_own hlown) hBr rfl
      have r2 := reads_own hown
      have hcx := own_cap hown
      have hel := sel_len (kpW W) mk 0 k
      have hfin : Below w.heap.size w wr := (H1.out.2.trans (H2.out.2.1.mono H1.out.2.size)).trans (hBr.mono (by have := H1.out.2.size; omega))
      have HFIN := hide (And.intro hfin (And.intro r1 r2))
      clear hown hBr hlc hlm hll hlown hfin r1 r2 HR H1 H2 b1 b2 b3 b4 b5 b6 b7 HI HM HP hi hz0 hz1 hz2
      generalize hFd : sel (kpW W) mk 0 k = F at *
      by_cases hc1 : F.length ≤ lim
      · have ha : after [] F lim = (true, F) := by unfold after; rw [if_pos (by simpa using hc1)]; simp
        rw [ha] at HFIN l0
        simp only [ha]
        have hd1 : decide ((F.length : Int) ≤ (lim : Int)) = true := by simp; exact hc1
        clear ha
        go_wp2_with fail
        refine (eq_any F.length lc cx la ao _ (by omega) wr HFIN.out.2.1 HFIN.out.2.2).mono ?_
        rintro e w7 ⟨rfl, hb7⟩
        have H7 := hide (HFIN.out.1.trans (hb7.mono HFIN.out.1.size))
        clear hb7
        go_wp2_with fail
        go_ret
        exact ⟨rfl, H7.out⟩
      · have ha : after [] F lim = (false, F.take (lim + 1)) := by unfold after; rw [if_neg (by simpa using hc1)]; simp
        rw [ha] at HFIN l0
        simp only [ha]
        have hd1 : decide ((F.length : Int) ≤ (lim : Int)) = false := by simp; omega
        clear ha
        by_cases hc2 : F.length = lim + 1
        · have ht : F.take (lim + 1) = F := List.take_of_length_le (by omega)
          rw [ht] at HFIN l0
          have hc3 : ¬ ((lim : Int) + 1 < (F.length : Int)) := by omega
          clear ht hc2
          go_wp2_with fail
          refine (eq_any F.length lc cx la ao _ (by omega) wr HFIN.out.2.1 HFIN.out.2.2).mono ?_
          rintro e w7 ⟨rfl, hb7⟩
          have H7 := hide (HFIN.out.1.trans (hb7.mono HFIN.out.1.size))
          clear hb7
          go_wp2_with fail
          go_ret
          exact ⟨rfl, H7.out⟩
        · have hc3 : (lim : Int) + 1 < (F.length : Int) := by omega
          have htl : (F.take (lim + 1)).length = lim + 1 := by rw [List.length_take]; omega
          rw [htl] at HFIN l0
          go_wp2_with fail
          refine (eq_any (lim + 1) lc cx la ao _ (by omega) wr HFIN.out.2.1 (reads_shorter HFIN.out.2.2 (by omega) (fun i hi => by simp [hi]))).mono ?_
          rintro e w7 ⟨rfl, hb7⟩
          have H7 := hide (HFIN.out.1.trans (hb7.mono HFIN.out.1.size))
          clear hb7
          go_wp2_with fail
          go_ret
          exact ⟨rfl, H7.out⟩

set_option maxHeartbeats 1000000 in
theorem walk_zero (ao : Option Addr) (cap : Nat) (W lim : Nat) (hW : W < 256) (hlim : lim ≤ 65535) (w : World) :
    Calls Yba.prog 7 #[.slice ao 0 cap, .int .u8 (W : Int), .int .u16 (lim : Int)] w fun e w' => e = .returned (.bool true) ∧ Below w.heap.size w w' := by
  go_enter Yba.func7, Yba.ntmps7
  go_wp2_with fail
  refine (build_zero ao cap w).mono ?_
  rintro e w1 ⟨rfl, hw1⟩
  subst w1
  go_wp2_with fail
  obtain ⟨V, hV⟩ : ∃ V : World, V = (((w.alloc (.cells #[.int .u64 (W : Int)] 22)).alloc (.cells #[.int .i64 (lim : Int)] 3)).alloc (.cells #[.slice none 0 0] 44)).alloc (.cells #[.int .i64 0] 3) := ⟨_, rfl⟩
  have hF := four_new w (.cells #[.int .u64 (W : Int)] 22) (.cells #[.int .i64 (lim : Int)] 3) (.cells #[.slice none 0 0] 44) (.cells #[.int .i64 0] 3)
  rw [← hV] at hF ⊢
  obtain ⟨hs, n0, n1, n2, n3, hBV⟩ := hF
  have hlog : LogInv V (w.heap.size + 1 + 1) (w.heap.size + 1 + 1 + 1) (w.heap.size + 1) (w.heap.size + 1 + 1 + 1 + 1) lim [] :=
    ⟨⟨by omega, by omega, by omega, by omega, by omega, by omega, by omega⟩, n3, n1, none, 0, n2, World.ownsRow_nil _ _ _ _⟩
  have HV := hide (And.intro hBV hs)
  clear hV hBV hs n1 n2 n3
  refine (some16 w.heap.size W _ _ _ (w.heap.size + 1 + 1 + 1 + 1) lim w.heap.size w.heap.size (fun _ => 0) (fun _ => by decide) hW ⟨by omega, by omega, by omega⟩ (by omega) (by omega) (by omega) 0 none 0 0 V [] ⟨rfl, rfl⟩ n0 hlog (Nat.zero_le _) (by simp)).mono ?_
  rintro e w2 ⟨rfl, hlog2, hf2⟩
  have hB2 : Below w.heap.size w w2 := HV.out.1.trans (hf2.below (by omega) (by omega) (by omega))
  have ha : after [] (sel (kpW W) (fun _ => 0) 0 0) lim = (true, []) := after_nil [] lim (Nat.zero_le _)
  rw [ha] at hlog2 ⊢
  obtain ⟨⟨b1, b2, b3, b4, b5, b6, b7⟩, hlc, hlm, la, lc, hll, hlown⟩ := hlog2
  have m0 := cell_of_one hlm
  have l0 := cell_of_one hll
  have H2 := hide hB2
  clear hlog n0 hf2 hB2 HV ha hlc hlm hll hlown b1 b2 b3 b4 b5 b6 b7
  simp only [List.length_nil] at l0
  have hd1 : decide ((0 : Int) ≤ (lim : Int)) = true := by simp
  have hd2 : ¬ ((lim : Int) + 1 < 0) := by omega
  go_wp2_with fail
  refine wp_loop_rounds 1 ?_
  rw [rounds_succ]
  go_wp2_with fail
  refine (eq_any 0 lc 0 la none (fun _ => 0) (by omega) w2 (fun i hi => absurd hi (Nat.not_lt_zero i)) (fun i hi => absurd hi (Nat.not_lt_zero i))).mono ?_
  rintro e w7 ⟨rfl, hb7⟩
  have H7 := hide (H2.out.trans (hb7.mono H2.out.size))
  clear hb7
  go_wp2_with fail
  go_ret
  exact ⟨rfl, H7.out⟩

theorem walk (a0 : Option Addr) (len0 cap0 : Nat) (z0 : (Nat → Nat) × (Nat → Nat)) (a1 : Int) (a2 : Int) (w : World) (w0 : IsItems w a0 len0 cap0 z0) (w1 : (Lit.int .u8 a1).wf = true) (w2 : (Lit.int .u16 a2).wf = true) :
    Calls Yba.prog 7 #[.slice a0 len0 cap0, .int .u8 a1, .int .u16 a2] w fun e w' => e = .returned (.bool true) ∧ Below w.heap.size w w' := by
  have hb1 := bounds_u8 w1
  have hb2 := bounds_u16 w2
  obtain ⟨x, rfl⟩ := Int.eq_ofNat_of_zero_le hb1.1
  obtain ⟨y, rfl⟩ := Int.eq_ofNat_of_zero_le hb2.1
  by_cases hl : 256 < len0
  · exact walk_long a0 len0 cap0 x y w (by omega)
  · rcases w0.2 with rfl | ⟨b, off, rfl, hb, hit⟩
    · exact walk_zero a0 cap0 x y (by omega) (by omega) w
    · exact walk_some b off len0 cap0 z0.1 z0.2 w0.1.1 w0.1.2 x y (by omega) (by omega) w (by omega) hb hit

/-! ### THE ROW's STEP (after the guide's shell) -/
set_option maxRecDepth 100000 in
theorem lifted (os : Os) (started : os.Started) (H : Type) (enc : TypeId × Value → H) :
    ReturnsInHanded {} Yba.checked os 7 .any (Rows.lawS0989CFilterSpec.pre6 enc Yba.prog Yba.f7 Rows.lawS0989CFilterRow.domain false) (Rows.lawS0989CFilterSpec.post enc Yba.prog Yba.f7 false true false false) := by
  refine returnsInHanded_of_change (C := Yba.checked) own started (by kernel_rfl) Yba.func7
    (ChangeSpec.witness6 (enc := enc) (C := Yba.checked) false ⟨#[], #[.slice none 0 0, .int .u8 0, .int .u16 0], []⟩ 8 (by kernel_rfl) (by kernel_rfl) (by kernel_rfl) (by kernel_rfl)) ?_
  intro W base args ds gs before hval0 hW hcnd _
  have hval : ∀ (j : Nat) t v, Yba.f7.params[j]? = some t → args[j]? = some v → Value.okWide Yba.prog W .any base t v := hval0
  have hW' := hW
  obtain ⟨p, q, hA0, hV, rfl, hfz, hnd⟩ := hW
  have hA : DataW.TrodAll enc Yba.prog W 0 (fun _ => true) true Yba.f7.params.toList args.toList ds p := hA0
  rw [Yba.params7] at hA hval
  obtain ⟨v0, vs0, d0, ds0, p0, q0, hargs, rfl, rfl, h0, r0⟩ := trodAll_cons hA
  obtain ⟨v1, vs1, d1, ds1, p1, q1, rfl, rfl, rfl, h1, r1⟩ := trodAll_cons r0
  obtain ⟨v2, vs2, d2, ds2, p2, q2, rfl, rfl, rfl, h2, r2⟩ := trodAll_cons r1
  obtain ⟨rfl, rfl, rfl⟩ := trodAll_nil r2
  obtain rfl : args = #[v0, v1, v2] := by cases args; simp_all
  obtain ⟨rfl, rfl⟩ := trodVars_none hV
  obtain ⟨a0, len0, cap0, rfl⟩ := okWide_slice Yba.underlying41 (hval 0 41 v0 rfl rfl)
  have k0 := h0
  have lt0 : ∀ x ∈ p0, x.block < W.heap.size := by obtain ⟨m, hm⟩ := k0; exact DataW.trod_lt m _ _ _ hm
  obtain ⟨z0, w0⟩ : ∃ zs, IsItems W a0 len0 cap0 zs := isItems_open h0
  obtain ⟨a1, rfl, rfl, rfl, w1⟩ := open_int Yba.underlying5 (hval 1 5 v1 rfl rfl) h1
  obtain ⟨a2, rfl, rfl, rfl, w2⟩ := open_int Yba.underlying37 (hval 2 37 v2 rfl rfl) h2
  clear hA0 hval0
  refine (walk a0 len0 cap0 z0 a1 a2 W w0 w1 w2).mono fun e W' ⟨he, bel⟩ => ?_
  subst he
  exact ⟨_, rfl, _, _, _, [], _, [], hW', trodAll_mk1 (shut_bool Yba.underlying4 _), (trodAll_cons_mk (Below.trod laidOut (by kernel_rfl) (of_decide_eq_true (by kernel_rfl)) k0 bel lt0) (trodAll_cons_mk (shut_int Yba.underlying5 w1) (trodAll_cons_mk (shut_int Yba.underlying37 w2) trodAll_mk0))), rfl, bel.frame _, fun h => by cases h⟩

theorem over : Rows.lawS0989CFilterRow.holds Yba.pinned (OpenSpec.ofChange Rows.lawS0989CFilterSpec) :=
  OpenClaim.holds_of_wide 7 Yba.f7 rfl rfl rfl rfl rfl rfl rfl ⟨rfl, rfl, rfl, rfl, rfl⟩ rfl rfl rfl rfl rfl (by kernel_rfl) Yba.func7 (by kernel_rfl)
    (of_decide_eq_true (by kernel_rfl)) (by unfold Func.isWrapper; first | (rw [if_pos (by decide +kernel)]; kernel_rfl) | (rw [if_neg (by decide +kernel)]; exact ⟨rfl, rfl⟩))
    (fun os started H enc _ => lifted os started H enc)

theorem proved : Rows.LawS0989CFilterSaid := over
#print axioms proved
end Go.Proofs.Ybulktlo.lawS0989CFilter
