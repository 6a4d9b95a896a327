import Derived.Test.YbulktloRows
import Derived.WalkKit
import Derived.ProofKit
import Derived.OpenShut
import Derived.ShutString
import Derived.ChangeOld
import Derived.Below
import Derived.SliceStrings
import Derived.WalkSpells
import Derived.WalkLawsBesides
import Derived.Test.YbulktloPutAny
namespace Go.Proofs.Ybulktlo.lawS0989BAfterPuts
open Go.ChangeShapes Go.WideShapes Go.ChangeAt Go.RowKit
open Go.ChangeMaps (open_string shut_string)
set_option linter.unusedVariables false

theorem own : ownKnob Yba.prog.godebug = none := by kernel_rfl
theorem laidOut : laidOutB Yba.prog = true := by kernel_rfl
theorem info9 : (Yba.prog.info? 9).map (fun i => (i.zero, i.size, i.bytes)) = some (some (.string ByteArray.empty), 1, 16) := by kernel_rfl

/-- a list of strings as cells -/
def strV (ss : List ByteArray) : List Value := ss.map Value.string
theorem strV_len (ss : List ByteArray) : (strV ss).length = ss.length := by simp [strV]
theorem strV_snoc (ss : List ByteArray) (s : ByteArray) : strV ss ++ [.string s] = strV (ss ++ [s]) := by simp [strV]
theorem strV_at {ss : List ByteArray} {i : Nat} (h : i < ss.length) : (strV ss)[i]? = some (.string (at' ss i)) := by
  unfold strV at'
  rw [List.getElem?_map, List.getElem?_eq_getElem h, List.getD_eq_getElem?_getD, List.getElem?_eq_getElem h]
  rfl
theorem strV_one (ss : List ByteArray) : ∀ u ∈ strV ss, u.oneCell' = true := by
  intro u hu
  obtain ⟨_, _, rfl⟩ := List.mem_map.1 hu
  rfl
theorem one_one (s : ByteArray) : ∀ u ∈ [Value.string s], u.oneCell' = true := strV_one [s]

theorem own_below {w w' : World} {base : Nat} {e : TypeId} {size : Nat} {v : Value} {n : Nat} {xs : List Value} (h : w.ownsRow base e size v n xs) (hb : Below w.heap.size w w') : w'.ownsRow base e size v n xs :=
  h.kept (row := none) ⟨hb.os, hb.tape, hb.output, hb.size, fun k hk _ => hb.block k hk⟩ (by cases hv : v.ownBlock <;> simp)

theorem isStrs_cells {w : World} {a : Option Addr} {len cap : Nat} {ss : List ByteArray} (h : IsStrs2 w a len cap ss) : ∀ ad, a = some ad → ∀ j u, (strV (ss.take len))[j]? = some u → ad.block < w.heap.size ∧ w.cell? (ad.add j) = some u := by
  intro ad e j u hu
  have hj := (List.getElem?_eq_some_iff.1 hu).1
  rw [strV_len, List.length_take] at hj
  rcases h.1.2 with h0 | ⟨b, off, e', hb, hc⟩
  · omega
  · rw [e] at e'
    obtain rfl := Option.some.inj e'
    have h1 := hc j (by omega)
    have hplain : (⟨b, off, none⟩ : Addr).add j = ⟨b, off + j, none⟩ := by unfold Addr.add; split <;> simp_all
    refine ⟨hb, ?_⟩
    rw [hplain, h1]
    have hle : j < ss.length := by omega
    rw [← hu]
    unfold strV
    rw [List.getElem?_map, List.getElem?_take, if_pos (by omega), List.getElem?_eq_getElem hle, List.getD_eq_getElem?_getD, List.getElem?_eq_getElem hle]
    rfl

theorem walk_long (ao : Option Addr) (len cap : Nat) (x : Int) (q : ByteArray) (w : World) (hlen : (1024 : Int) < (len : Int)) :
    Calls Yba.prog 6 #[.slice ao len cap, .int .u16 x, .string q] w fun e w' => e = .returned (.bool true) ∧ Below w.heap.size w w' := by
  go_enter Yba.func6, Yba.ntmps6
  go_wp2_with fail
  go_ret
  exact ⟨rfl, Below.refl _ _⟩

set_option maxHeartbeats 1000000 in
theorem walk_short (a0 : Option Addr) (len cap : Nat) (ss : List ByteArray) (x : Int) (q : ByteArray) (w : World) (hlen : len ≤ 1024) (hs : IsStrs2 w a0 len cap ss) (hq : q.size ≤ maxLen) (hx0 : 0 ≤ x) (hx1 : x ≤ 65535) (N : Nat) (hN : x % 300 = (N : Int)) (hN1 : N < 300) :
    Calls Yba.prog 6 #[.slice a0 len cap, .int .u16 x, .string q] w fun e w' => e = .returned (.bool true) ∧ Below w.heap.size w w' := by
  obtain ⟨i0, hi, hz0, hz1, hz2⟩ := info_parts info9
  have HS := hide hs
  have hnil := hs.2
  have hsz : ∀ s ∈ ss.take len, s.size ≤ maxLen := fun s h => hs.1.1.2 s (List.mem_of_mem_take h)
  have htl : (ss.take len).length = len := by rw [List.length_take]; have := hs.1.1.1; omega
  have HZ := hide hsz
  have HT := hide htl
  clear hs hsz htl
  go_enter Yba.func6, Yba.ntmps6
  go_wp2_with (first
    | (at_make; refine wpList_make_own _ rfl (.const (.int .i64 0)) (.tmp 34) 26 rfl w.heap.size 9 i0 _ 1 Yba.underlying26 hi hz0 hz1 .i64 .i64 _ (len + N) rfl rfl (by omega) (by rw [hz2]; omega) (by unfold maxLen; omega) (Nat.le_refl _) ?_; intro w1 hown1 hgrow1)
    | (at_builtin; refine wpList_append_fits_any _ rfl (.tmp 36) (.tmp 37) 26 rfl w.heap.size 9 i0 1 Yba.underlying26 hi hz1 w.heap.size 0 (len + N) [] rfl hown1 a0 len cap (strV (ss.take len)) rfl (by rw [strV_len, HT.out]; omega) HS.out.2 (fun ad e j u hu => by obtain ⟨h1, h2⟩ := isStrs_cells HS.out ad e j u hu; rw [World.grownBy.cell hgrow1 h2 (by simp)]) (strV_one _) (by omega) ?_; intro w2 hown2 hgrow2; simp only [Nat.zero_add, List.nil_append] at hown2 ⊢))
  have hbel2 : Below w.heap.size w w2 := ((Below.refl _ _).grown hgrow1 (Nat.le_refl _) (by simp)).grown hgrow2 hgrow1.size (by intro k e; simp at e; omega)
  have R0 := hide (And.intro hown2 (And.intro HZ.out hbel2))
  clear hown1 hown2 hgrow1 hgrow2 hbel2 HS
  go_loopw [9, 8] (fun i v wr => ∃ (k ga ca : Nat) (bs : List ByteArray), k ≤ N ∧ i = .int .i64 k ∧ v = .slice (some ⟨ga, 0, none⟩) (len + k) ca ∧ Hid (bs.length = len + k ∧ wr.ownsRow w.heap.size 9 1 v (len + k) (strV bs) ∧ (∀ s ∈ bs, s.size ≤ maxLen) ∧ Below w.heap.size w wr)) (fun i _ _ => N - (intOf i).toNat)
  case atStart => exact ⟨0, _, _, ss.take len, Nat.zero_le _, rfl, rfl, HT.out, R0.out⟩
  case round =>
    obtain ⟨k, ga, ca, bs, hk, rfl, rfl, HR⟩ := hrel
    clear R0
    by_cases hkl : k < N
    · obtain ⟨hal, hown, hasz, hbel⟩ := HR.out
      go_wp2_with (first
        | (go_at_call 12; refine (bkey_any _ (by omega) (by omega) _).mono ?_; rintro e w3 ⟨s, rfl, hss, hb3, -⟩; have hown3 := own_below hown hb3)
        | (at_builtin; go_must (refine wpList_append_shape _ rfl (.tmp 44) (.tmp 47) 26 rfl w.heap.size 9 i0 _ 1 16 Yba.underlying26 hi hz0 hz1 hz2 rfl (by decide) (.slice (some ⟨ga, 0, none⟩) (len + k) ca) (len + k) (strV bs) rfl (hown3.alloc _) ⟨w3.heap.size, 0, none⟩ 1 1 [.string s] rfl rfl (cell_one_new _ _ _) (one_one s) (by unfold maxLen; omega) (by omega) (by simp; have := hbel.size; have := hb3.size; omega) (by decide) ?_); intro g4 c4 w4 hown4 hgrow4))
      have hbel4 : Below w.heap.size w w4 := by
        refine ((hbel.trans (hb3.mono hbel.size)).alloc (Nat.le_trans hbel.size hb3.size) _).grown hgrow4 (by simp; have := hbel.size; have := hb3.size; omega) ?_
        intro k' e
        exact (own_block hown e).1
      have R1 := hide (And.intro hown4 hbel4)
      clear hown3 hown4 hgrow4 hbel4 hown hb3 hbel
      go_roundw
      case rel =>
        refine ⟨k + 1, g4, c4, bs ++ [s], by omega, by go_num, by rw [Nat.add_assoc], by simp; omega, ?_, ?_, R1.out.2⟩
        · rw [← strV_snoc]; exact R1.out.1
        · intro t ht
          simp at ht
          rcases ht with ht | rfl
          · exact hasz t ht
          · exact hss
      case measure => simp [intOf]; omega
    · obtain rfl : k = N := by omega
      obtain ⟨hal, hown, hasz, hbel⟩ := HR.out
      clear HR hkl hk HZ HT hnil hlen
      have hT : len + k ≤ 2000 := by omega
      generalize hTe : len + k = T at *
      obtain ⟨W1, rfl⟩ : ∃ W1 : World, W1 = wr := ⟨_, rfl⟩
      have hga := own_block hown (g := ga) rfl
      have hgl : ga < W1.heap.size := by obtain ⟨_, cur, hh⟩ := hga; exact lt_of_block hh
      have hcell0 : ∀ i, i < T → (W1.alloc (.cells #[.slice none 0 0, .map none] 33)).cell? ⟨ga, i, none⟩ = some (.string (at' bs i)) := by
        intro i hi'
        rw [World.cell?_alloc_past _ _ _ hgl, hown.cellAt _ (by omega)]
        exact strV_at (by omega)
      have hbelW : Below w.heap.size w (W1.alloc (.cells #[.slice none 0 0, .map none] 33)) := hbel.alloc hbel.size _
      have HC := hide hcell0
      have HW := hide hbelW
      have HA := hide hasz
      have HL := hide hal
      have K0 := hide (KInv.new W1)
      have hsizes := hbel.size
      clear hcell0 hbelW hown hbel hga hasz hal
      go_wp2_with fail
      go_loopw [51, 11] (fun i mv wr => ∃ (m : Nat) (ks : List ByteArray) (ao : Option Addr) (cm : Nat), m ≤ T ∧ i = .int .i64 m ∧ mv = .slice ao ks.length cm ∧ ks.length ≤ m ∧ Hid (Distinct ks ∧ (∀ s ∈ ks, s.size ≤ maxLen) ∧ KInv wr W1.heap.size ks ∧ wr.ownsRow (W1.heap.size + 1) 9 1 mv ks.length (strV ks) ∧ Below W1.heap.size (W1.alloc (.cells #[.slice none 0 0, .map none] 33)) wr)) (fun i _ _ => T - (intOf i).toNat)
      case atStart => exact ⟨0, [], none, 0, Nat.zero_le _, rfl, rfl, Nat.le_refl _, Distinct.nil, by simp, K0.out, World.ownsRow_nil _ _ _ _, Below.refl _ _⟩
      case round =>
        obtain ⟨m, ks, ao, cm, hm, rfl, rfl, hkm, HR⟩ := hrel
        clear K0
        by_cases hml : m < T
        · obtain ⟨hdis, hksz, hK, hmown, hbw⟩ := HR.out
          have hc0 : wr.cell? ⟨ga, m, none⟩ = some (.string (at' bs m)) := (hbw.cell (by exact hgl)).trans (HC.out m hml)
          have hssz := at'_size HA.out (i := m) (by rw [HL.out]; exact hml)
          generalize at' bs m = s at hc0 hssz
          rcases first_or ks s with ⟨j, hf⟩ | ha
          · have hj := hf.1
            have hao : ∃ gm, ao = some ⟨gm, 0, none⟩ := by
              obtain ⟨gm, cm', e⟩ := own_form hmown (by omega)
              simp at e
              exact ⟨gm, e.1⟩
            obtain ⟨gm, rfl⟩ := hao
            have HP := hide (put_hit hK (by omega) hdis hssz hf (m : Int))
            have HM := hide hmown
            have HD := hide (And.intro hdis (And.intro hksz hbw))
            have HF := hide hf
            clear hK hmown hbw hdis hksz hf HR
            go_wp2_with (go_at_call 13; refine HP.out.mono ?_; rintro e w3 ⟨rfl, hK3, hF3⟩; have hM3 := hide (hF3.row HM.out); have hmc : (∀ i, i < ks.length → w3.cell? ⟨gm, i, none⟩ = some (.string (at' ks i))) := (fun i hi => by rw [hM3.out.cellAt _ (by omega)]; exact strV_at hi); have R3 := hide (And.intro hK3 hF3); clear hK3 hF3)
            clear HP
            go_loop [61, 14] (fun i f => ∃ i' : Nat, i' ≤ j ∧ i = .int .i64 i' ∧ f = .bool false) (fun i _ => ks.length - (intOf i).toNat)
            case atStart => exact ⟨0, Nat.zero_le _, rfl, rfl⟩
            case round =>
              obtain ⟨i', hi', rfl, rfl⟩ := hrel
              have hcx := hmc i' (by omega)
              have hil : i' < ks.length := by omega
              by_cases hij : i' < j
              · have hne := HF.out.2.2 i' hij
                go_wp2_with fail
                go_round
                case rel => exact ⟨i' + 1, by omega, by go_num, rfl⟩
                case measure => simp [intOf]; omega
              · obtain rfl : i' = j := by omega
                have heq := HF.out.2.1
                go_wp2_with fail
                go_roundw
                case rel => exact ⟨m + 1, ks, _, cm, by omega, by go_num, rfl, by omega, HD.out.1, HD.out.2.1, R3.out.1, hM3.out, HD.out.2.2.trans R3.out.2.below⟩
                case measure => simp [intOf]; omega
          · have HP := hide (put_new hK (by omega) hksz hssz ha (m : Int))
            have HM := hide hmown
            have HD := hide (And.intro hdis (And.intro hksz hbw))
            have HF := hide ha
            clear hK hmown hbw hdis hksz ha HR
            rcases Nat.eq_zero_or_pos ks.length with h0 | hpos
            · have HE := hide h0
              clear h0
              go_wp2_with (go_at_call 13; refine HP.out.mono ?_; rintro e w3 ⟨rfl, hK3, hF3⟩; have hM3 := hide (hF3.row HM.out); have hs3 : (W1.heap.size < w3.heap.size) := (by have := hF3.below.size; have := (HD.out.2.2).size; simp at this; omega); have R3 := hide (And.intro hK3 hF3); clear hK3 hF3)
              clear HP
              have hk0 : ks.length ≤ 0 := by rw [HE.out]; exact Nat.le_refl _
              refine wp_loop_rounds 1 ?_
              rw [rounds_succ]
              go_wp2_with (at_builtin; refine wpList_append_shape _ rfl (.tmp 71) (.tmp 73) 26 rfl (W1.heap.size + 1) 9 i0 _ 1 16 Yba.underlying26 hi hz0 hz1 hz2 rfl (by decide) (.slice ao ks.length cm) ks.length (strV ks) rfl (hM3.out.alloc _) ⟨w3.heap.size, 0, none⟩ 1 1 [.string s] rfl rfl (cell_one_new _ _ _) (one_one s) (by unfold maxLen; omega) (by omega) (by simp; omega) (by decide) ?_; intro g4 c4 w4 hown4 hgrow4)
              have hgr : ∀ k, (Value.slice ao ks.length cm).ownBlock = some k → ∃ cur fr, (w3.alloc (.cells #[.string s] 9)).heap[k]? = some (.cells cur 9 fr) := by
                intro k' e
                obtain ⟨_, cur, hh⟩ := own_block (hM3.out.alloc (.cells #[.string s] 9)) e
                exact ⟨cur, _, hh⟩
              have hK4 : KInv w4 W1.heap.size (ks ++ [s]) := (R3.out.1.grown (World.grownBy_alloc w3 (.cells #[.string s] 9) none) (by simp)).grown hgrow4 hgr
              have hB4 : Below W1.heap.size (W1.alloc (.cells #[.slice none 0 0, .map none] 33)) w4 := by
                refine ((HD.out.2.2.trans R3.out.2.below).alloc (by omega) (.cells #[.string s] 9)).grown hgrow4 (by simp; omega) ?_
                intro k' e
                have := (own_block hM3.out e).1
                omega
              have R4 := hide (And.intro hK4 (And.intro hown4 hB4))
              clear hK4 hB4 hown4 hgrow4 hgr
              go_roundw
              case rel =>
                refine ⟨m + 1, ks ++ [s], _, c4, by omega, by go_num, by rw [List.length_append, List.length_singleton], by rw [List.length_append, List.length_singleton]; omega, HD.out.1.snoc HF.out, ?_, R4.out.1, ?_, R4.out.2.2⟩
                · intro t ht
                  simp at ht
                  rcases ht with ht | rfl
                  · exact HD.out.2.1 t ht
                  · exact hssz
                · rw [← strV_snoc, List.length_append, List.length_singleton]
                  exact R4.out.2.1
              case measure => simp [intOf]; omega
            · have hao : ∃ gm, ao = some ⟨gm, 0, none⟩ := by
                obtain ⟨gm, cm', e⟩ := own_form HM.out hpos
                simp at e
                exact ⟨gm, e.1⟩
              obtain ⟨gm, rfl⟩ := hao
              go_wp2_with (go_at_call 13; refine HP.out.mono ?_; rintro e w3 ⟨rfl, hK3, hF3⟩; have hM3 := hide (hF3.row HM.out); have hs3 : (W1.heap.size < w3.heap.size) := (by have := hF3.below.size; have := (HD.out.2.2).size; simp at this; omega); have hmc : (∀ i, i < ks.length → w3.cell? ⟨gm, i, none⟩ = some (.string (at' ks i))) := (fun i hi => by rw [hM3.out.cellAt _ (by omega)]; exact strV_at hi); have R3 := hide (And.intro hK3 hF3); clear hK3 hF3)
              clear HP
              go_loop [61, 14] (fun i f => ∃ i' : Nat, i' ≤ ks.length ∧ i = .int .i64 i' ∧ f = .bool false) (fun i _ => ks.length - (intOf i).toNat)
              case atStart => exact ⟨0, Nat.zero_le _, rfl, rfl⟩
              case round =>
                obtain ⟨i', hi', rfl, rfl⟩ := hrel
                by_cases hil : i' < ks.length
                · have hcx := hmc i' hil
                  have hne := HF.out i' hil
                  go_wp2_with fail
                  go_round
                  case rel => exact ⟨i' + 1, by omega, by go_num, rfl⟩
                  case measure => simp [intOf]; omega
                · clear hmc
                  go_wp2_with (at_builtin; refine wpList_append_shape _ rfl (.tmp 71) (.tmp 73) 26 rfl (W1.heap.size + 1) 9 i0 _ 1 16 Yba.underlying26 hi hz0 hz1 hz2 rfl (by decide) (.slice (some ⟨gm, 0, none⟩) ks.length cm) ks.length (strV ks) rfl (hM3.out.alloc _) ⟨w3.heap.size, 0, none⟩ 1 1 [.string s] rfl rfl (cell_one_new _ _ _) (one_one s) (by unfold maxLen; omega) (by omega) (by simp; omega) (by decide) ?_; intro g4 c4 w4 hown4 hgrow4)
                  have hgr : ∀ k, (Value.slice (some ⟨gm, 0, none⟩) ks.length cm).ownBlock = some k → ∃ cur fr, (w3.alloc (.cells #[.string s] 9)).heap[k]? = some (.cells cur 9 fr) := by
                    intro k' e
                    obtain ⟨_, cur, hh⟩ := own_block (hM3.out.alloc (.cells #[.string s] 9)) e
                    exact ⟨cur, _, hh⟩
                  have hK4 : KInv w4 W1.heap.size (ks ++ [s]) := (R3.out.1.grown (World.grownBy_alloc w3 (.cells #[.string s] 9) none) (by simp)).grown hgrow4 hgr
                  have hB4 : Below W1.heap.size (W1.alloc (.cells #[.slice none 0 0, .map none] 33)) w4 := by
                    refine ((HD.out.2.2.trans R3.out.2.below).alloc (by omega) (.cells #[.string s] 9)).grown hgrow4 (by simp; omega) ?_
                    intro k' e
                    have := (own_block hM3.out e).1
                    omega
                  have R4 := hide (And.intro hK4 (And.intro hown4 hB4))
                  clear hK4 hB4 hown4 hgrow4 hgr
                  go_roundw
                  case rel =>
                    refine ⟨m + 1, ks ++ [s], _, c4, by omega, by go_num, by rw [List.length_append, List.length_singleton], by rw [List.length_append, List.length_singleton]; omega, HD.out.1.snoc HF.out, ?_, R4.out.1, ?_, R4.out.2.2⟩
                    · intro t ht
                      simp at ht
                      rcases ht with ht | rfl
                      · exact HD.out.2.1 t ht
                      · exact hssz
                    · rw [← strV_snoc, List.length_append, List.length_singleton]
                      exact R4.out.2.1
                  case measure => simp [intOf]; omega
        · obtain rfl : m = T := by omega
          obtain ⟨hdis, hksz, hK, hmown, hbw⟩ := HR.out
          have hfin : Below w.heap.size w wr := HW.out.trans (hbw.mono hsizes)
          have HFIN := hide hfin
          have HK := hide (And.intro hK (And.intro hdis hksz))
          have HM := hide hmown
          have hkn : ks.length ≤ 1000000 := by omega
          clear hfin hK hdis hksz hmown hbw HR HC HW HA HL
          rcases Nat.eq_zero_or_pos ks.length with h0 | hpos
          · have hab : Absent ks ks.length q := by intro i hi'; omega
            have HF := hide (find_k_miss HK.out.1 hkn hq hab)
            have hk0 : ks.length ≤ 0 := by rw [h0]; exact Nat.le_refl _
            clear h0 hab
            go_wp2_with fail
            refine wp_loop_rounds 1 ?_
            rw [rounds_succ]
            go_wp2_with (go_at_call 11; refine HF.out.mono ?_; rintro e w3 ⟨rfl, hw⟩; subst w3)
            refine wp_loop_rounds 1 ?_
            rw [rounds_succ]
            go_wp2_with fail
            go_ret
            exact ⟨rfl, HFIN.out⟩
          · have hao : ∃ gm, ao = some ⟨gm, 0, none⟩ := by
              obtain ⟨gm, cm', e⟩ := own_form HM.out hpos
              simp at e
              exact ⟨gm, e.1⟩
            obtain ⟨gm, rfl⟩ := hao
            have hmc : ∀ i, i < ks.length → wr.cell? ⟨gm, i, none⟩ = some (.string (at' ks i)) := fun i hi => by rw [HM.out.cellAt _ (by omega)]; exact strV_at hi
            go_wp2_with fail
            go_loop [78] (fun i => ∃ i' : Nat, i' ≤ ks.length ∧ i = .int .i64 i') (fun i => ks.length - (intOf i).toNat)
            case atStart => exact ⟨0, Nat.zero_le _, rfl⟩
            case round =>
              obtain ⟨i', hi', rfl⟩ := hrel
              by_cases hil : i' < ks.length
              · have hcx := hmc i' hil
                have HF := hide (find_k_hit HK.out.1 hkn HK.out.2.1 (at'_size HK.out.2.2 hil) (HK.out.2.1.first hil))
                go_wp2_with (go_at_call 11; refine HF.out.mono ?_; rintro e w3 ⟨rfl, hw⟩; subst w3)
                go_round
                case rel => exact ⟨i' + 1, by omega, by go_num⟩
                case measure => simp [intOf]; omega
              · rcases first_or ks q with ⟨j0, hf⟩ | hab
                · have HF := hide (find_k_hit HK.out.1 hkn HK.out.2.1 hq hf)
                  have hj0 := hf.1
                  go_wp2_with (go_at_call 11; refine HF.out.mono ?_; rintro e w3 ⟨rfl, hw⟩; subst w3)
                  go_loop [103] (fun i => ∃ j : Nat, j ≤ j0 ∧ i = .int .i64 j) (fun i => ks.length - (intOf i).toNat)
                  case atStart => exact ⟨0, Nat.zero_le _, rfl⟩
                  case round =>
                    obtain ⟨j, hj, rfl⟩ := hrel
                    have hjk : j < ks.length := by omega
                    have hcx := hmc j hjk
                    by_cases hjl : j < j0
                    · have hne := hf.2.2 j hjl
                      go_wp2_with fail
                      go_round
                      case rel => exact ⟨j + 1, by omega, by go_num⟩
                      case measure => simp [intOf]; omega
                    · obtain rfl : j = j0 := by omega
                      have heq := hf.2.1
                      go_wp2_with fail
                      go_ret
                      exact ⟨by simp, HFIN.out⟩
                · have HF := hide (find_k_miss HK.out.1 hkn hq hab)
                  go_wp2_with (go_at_call 11; refine HF.out.mono ?_; rintro e w3 ⟨rfl, hw⟩; subst w3)
                  go_loop [103] (fun i => ∃ j : Nat, j ≤ ks.length ∧ i = .int .i64 j) (fun i => ks.length - (intOf i).toNat)
                  case atStart => exact ⟨0, Nat.zero_le _, rfl⟩
                  case round =>
                    obtain ⟨j, hj, rfl⟩ := hrel
                    by_cases hjk : j < ks.length
                    · have hcx := hmc j hjk
                      have hne := hab j hjk
                      go_wp2_with fail
                      go_round
                      case rel => exact ⟨j + 1, by omega, by go_num⟩
                      case measure => simp [intOf]; omega
                    · go_wp2_with fail
                      go_ret
                      exact ⟨rfl, HFIN.out⟩

theorem u16_bounds {a : Int} (h : (Lit.int .u16 a).wf = true) : 0 ≤ a ∧ a ≤ 65535 := bounds_u16 h

theorem walk (a0 : Option Addr) (len0 cap0 : Nat) (z0 : List ByteArray) (a1 : Int) (a2 : ByteArray) (w : World) (w0 : IsStrs2 w a0 len0 cap0 z0) (w1 : (Lit.int .u16 a1).wf = true) (w2 : a2.size ≤ maxLen) :
    Calls Yba.prog 6 #[.slice a0 len0 cap0, .int .u16 a1, .string a2] w fun e w' => e = .returned (.bool true) ∧ Below w.heap.size w w' := by
  by_cases hl : 1024 < len0
  · exact walk_long a0 len0 cap0 a1 a2 w (by omega)
  · have hb := u16_bounds w1
    exact walk_short a0 len0 cap0 z0 a1 a2 w (by omega) w0 w2 hb.1 hb.2 (a1 % 300).toNat (by omega) (by omega)

/-! ### THE ROW's STEP (after the guide's shell) -/
set_option maxRecDepth 100000 in
theorem lifted (os : Os) (started : os.Started) (H : Type) (enc : TypeId × Value → H) :
    ReturnsInHanded {} Yba.checked os 6 .any (Rows.lawS0989BAfterPutsSpec.pre6 enc Yba.prog Yba.f6 Rows.lawS0989BAfterPutsRow.domain false) (Rows.lawS0989BAfterPutsSpec.post enc Yba.prog Yba.f6 false true false false) := by
  refine returnsInHanded_of_change (C := Yba.checked) own started (by kernel_rfl) Yba.func6
    (ChangeSpec.witness6 (enc := enc) (C := Yba.checked) false ⟨#[], #[.slice none 0 0, .int .u16 0, .string ByteArray.empty], []⟩ 8 (by kernel_rfl) (by kernel_rfl) (by kernel_rfl) (by kernel_rfl)) ?_
  intro W base args ds gs before hval0 hW hcnd _
  have hval : ∀ (j : Nat) t v, Yba.f6.params[j]? = some t → args[j]? = some v → Value.okWide Yba.prog W .any base t v := hval0
  have hW' := hW
  obtain ⟨p, q, hA0, hV, rfl, hfz, hnd⟩ := hW
  have hA : DataW.TrodAll enc Yba.prog W 0 (fun _ => true) true Yba.f6.params.toList args.toList ds p := hA0
  rw [Yba.params6] at hA hval
  obtain ⟨v0, vs0, d0, ds0, p0, q0, hargs, rfl, rfl, h0, r0⟩ := trodAll_cons hA
  obtain ⟨v1, vs1, d1, ds1, p1, q1, rfl, rfl, rfl, h1, r1⟩ := trodAll_cons r0
  obtain ⟨v2, vs2, d2, ds2, p2, q2, rfl, rfl, rfl, h2, r2⟩ := trodAll_cons r1
  obtain ⟨rfl, rfl, rfl⟩ := trodAll_nil r2
  obtain rfl : args = #[v0, v1, v2] := by cases args; simp_all
  obtain ⟨rfl, rfl⟩ := trodVars_none hV
  obtain ⟨a0, len0, cap0, rfl⟩ := okWide_slice Yba.underlying26 (hval 0 26 v0 rfl rfl)
  have k0 := h0
  have lt0 : ∀ x ∈ p0, x.block < W.heap.size := by obtain ⟨m, hm⟩ := k0; exact DataW.trod_lt m _ _ _ hm
  obtain ⟨z0, w0⟩ : ∃ zs, IsStrs2 W a0 len0 cap0 zs := isStrs2_open h0
  obtain ⟨a1, rfl, rfl, rfl, w1⟩ := open_int Yba.underlying37 (hval 1 37 v1 rfl rfl) h1
  obtain ⟨a2, rfl, rfl, rfl, w2⟩ := open_string Yba.underlying9 (hval 2 9 v2 rfl rfl) h2
  clear hA0 hval0
  refine (walk a0 len0 cap0 z0 a1 a2 W w0 w1 w2).mono fun e W' ⟨he, bel⟩ => ?_
  subst he
  exact ⟨_, rfl, _, _, _, [], _, [], hW', trodAll_mk1 (shut_bool Yba.underlying4 _), (trodAll_cons_mk (Below.trod laidOut (by kernel_rfl) (of_decide_eq_true (by kernel_rfl)) k0 bel lt0) (trodAll_cons_mk (shut_int Yba.underlying37 w1) (trodAll_cons_mk (shut_string Yba.underlying9 w2) trodAll_mk0))), rfl, bel.frame _, fun h => by cases h⟩

theorem over : Rows.lawS0989BAfterPutsRow.holds Yba.pinned (OpenSpec.ofChange Rows.lawS0989BAfterPutsSpec) :=
  OpenClaim.holds_of_wide 6 Yba.f6 rfl rfl rfl rfl rfl rfl rfl ⟨rfl, rfl, rfl, rfl, rfl⟩ rfl rfl rfl rfl rfl (by kernel_rfl) Yba.func6 (by kernel_rfl)
    (of_decide_eq_true (by kernel_rfl)) (by unfold Func.isWrapper; first | (rw [if_pos (by decide +kernel)]; kernel_rfl) | (rw [if_neg (by decide +kernel)]; exact ⟨rfl, rfl⟩))
    (fun os started H enc _ => lifted os started H enc)

theorem proved : Rows.LawS0989BAfterPutsSaid := over
#print axioms proved
end Go.Proofs.Ybulktlo.lawS0989BAfterPuts
