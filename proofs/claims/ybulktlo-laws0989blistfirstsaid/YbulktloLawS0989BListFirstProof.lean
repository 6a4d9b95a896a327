import Derived.Test.YbulktloRows
import Derived.WalkKit
import Derived.ProofKit
import Derived.OpenShut
import Derived.ShutString
import Derived.ChangeOld
import Derived.Below
import Derived.SliceStrings
import Derived.WalkSpells
import Derived.WalkLawsBesides
import Derived.Test.YbulktloFind
import Derived.Test.YbulktloStrs
namespace Go.Proofs.Ybulktlo.lawS0989BListFirst
open Go.ChangeShapes Go.WideShapes Go.ChangeAt Go.RowKit
open Go.ChangeMaps (open_string shut_string)
set_option linter.unusedVariables false

theorem own : ownKnob Yba.prog.godebug = none := by kernel_rfl
theorem laidOut : laidOutB Yba.prog = true := by kernel_rfl
theorem info29 : (Yba.prog.info? 29).map (fun i => (i.zero, i.size, i.bytes)) = some (some (.agg #[.string ByteArray.empty, .int .i64 0]), 2, 24) := by kernel_rfl

theorem row_step {w wr : World} {g n k : Nat} {xs : List Value} {u v : Value} (hown : wr.ownsRow g 29 2 (.slice (some ⟨g, 0, none⟩) n n) n xs) (hg : w.heap.size ≤ g) (hbel : Below w.heap.size w wr) :
    ((wr.setCell ⟨g, k * 2, none⟩ u).setCell ⟨g, k * 2 + 1, none⟩ v).ownsRow g 29 2 (.slice (some ⟨g, 0, none⟩) n n) n ((xs.set (k * 2) u).set (k * 2 + 1) v) ∧
    Below w.heap.size w ((wr.setCell ⟨g, k * 2, none⟩ u).setCell ⟨g, k * 2 + 1, none⟩ v) :=
  ⟨((hown.stored _ u).1.stored _ v).1, (hbel.setCell hg _).setCell hg _⟩

theorem keys_step {xs : List Value} {ss : Nat → ByteArray} {n k : Nat} {v : Value} (hl : xs.length = n * 2) (hk : k < n) (h : ∀ i, i < k → xs[i * 2]? = some (.string (ss i))) :
    ∀ i, i < k + 1 → ((xs.set (k * 2) (.string (ss k))).set (k * 2 + 1) v)[i * 2]? = some (.string (ss i)) := by
  intro i hi
  rw [List.getElem?_set_ne (by omega)]
  by_cases e : i = k
  · subst e
    rw [List.getElem?_set_self (by omega)]
  · rw [List.getElem?_set_ne (by omega)]
    exact h i (by omega)

theorem row_cell {wr : World} {base g n cap j : Nat} {xs : List Value} (hown : wr.ownsRow base 29 2 (.slice (some ⟨g, 0, none⟩) n cap) n xs) (hj : j < n * 2) : ∃ v, wr.cell? ⟨g, j, none⟩ = some v := by
  refine ⟨xs[j]'(by rw [hown.1]; exact hj), ?_⟩
  rw [hown.cellAt j hj]
  exact List.getElem?_eq_getElem _

set_option maxHeartbeats 400000 in
theorem walk_some (b off len cap : Nat) (ss : Nat → ByteArray) (q : ByteArray) (w : World) (hlen : len ≤ 1024)
    (hc : ∀ i, i < len → w.cell? ⟨b, off + i, none⟩ = some (.string (ss i))) (hb : b < w.heap.size) :
    Calls Yba.prog 5 #[.slice (some ⟨b, off, none⟩) len cap, .string q] w fun e w' => e = .returned (.bool true) ∧ Below w.heap.size w w' := by
  obtain ⟨i0, hi, hz0, hz1, hz2⟩ := info_parts info29
  go_enter Yba.func5, Yba.ntmps5
  go_wp2_with (at_make; refine wpList_make_full _ rfl (.tmp 15) (.tmp 15) 27 rfl w.heap.size 29 i0 _ 2 Yba.underlying27 hi hz0 hz1 .i64 .i64 _ _ len rfl rfl rfl rfl (by rw [hz2]; omega) (by unfold maxLen; omega) (Nat.le_refl _) ?_; intro w1 hown1 hgrow1)
  clear hi hz0 hz1 hz2
  go_loopw [19] (fun i wr => ∃ (k : Nat) (xs : List Value), k ≤ len ∧ i = .int .i64 k ∧ wr.ownsRow w.heap.size 29 2 (.slice (some ⟨w.heap.size, 0, none⟩) len len) len xs ∧ (∀ i, i < k → xs[i * 2]? = some (.string (ss i))) ∧ Below w.heap.size w wr) (fun i _ => len - (intOf i).toNat)
  case atStart =>
    exact ⟨0, _, Nat.zero_le _, rfl, hown1, fun i hi => absurd hi (Nat.not_lt_zero _), (Below.refl _ _).grown hgrow1 (Nat.le_refl _) (by simp)⟩
  case round =>
    obtain ⟨k, xs, hk, rfl, hown, hxs, hbel⟩ := hrel
    clear hown1 hgrow1
    by_cases hkl : k < len
    · have hf0 := hown.frozenAt (k * 2)
      have hf1 := hown.frozenAt (k * 2 + 1)
      obtain ⟨v0, hv0⟩ := row_cell hown (j := k * 2) (by omega)
      obtain ⟨v1, hv1⟩ := row_cell hown (j := k * 2 + 1) (by omega)
      have hc0 : wr.cell? ⟨b, off + k, none⟩ = some (.string (ss k)) := (hbel.cell (by exact hb)).trans (hc k hkl)
      have R := row_step (k := k) (u := .string (ss k)) (v := .int .i64 k) hown (Nat.le_refl _) hbel
      have HK := keys_step (v := .int .i64 k) hown.1 hkl hxs
      clear hxs hown
      go_wp2_with fail
      go_roundw
      case rel => exact ⟨k + 1, _, by omega, by go_num, R.1, HK, R.2⟩
      case measure => simp [intOf]; omega
    · obtain rfl : k = len := by omega
      clear hkl
      obtain ⟨W1, rfl⟩ : ∃ W1 : World, W1 = wr := ⟨_, rfl⟩
      have hgs : w.heap.size < W1.heap.size := by
        rcases hown.2 with ⟨h', _⟩ | ⟨g', cap', cur, h', _, hg, _⟩
        · simp at h'
        · simp at h'
          rw [h'.1]
          exact (Array.getElem?_eq_some_iff.1 hg).1
      have hcell : ∀ i, i < k → (W1.alloc (.cells #[.slice (some ⟨w.heap.size, 0, none⟩) k k, .map none] 33)).cell? ⟨w.heap.size, i * 2, none⟩ = some (.string (ss i)) := by
        intro i hi
        rw [World.cell?_alloc_past _ _ _ hgs, hown.cellAt _ (by omega)]
        exact hxs i hi
      have hkeys : ∀ i, i < k → (W1.alloc (.cells #[.slice (some ⟨w.heap.size, 0, none⟩) k k, .map none] 33)).cell? ⟨b, off + i, none⟩ = some (.string (ss i)) := by
        intro i hi
        rw [World.cell?_alloc_past _ _ _ (by have := hbel.size; show b < _; omega), hbel.cell (by exact hb)]
        exact hc i hi
      have hbel2 : Below w.heap.size w (W1.alloc (.cells #[.slice (some ⟨w.heap.size, 0, none⟩) k k, .map none] 33)) := hbel.alloc (by omega) _
      clear hown hxs hbel hc
      rcases least (fun i => (ss i).toList == q.toList) k with ⟨j0, hj0, hit, hmiss⟩ | hmiss
      · go_wp2_with (go_at_call 11; refine (find_hit W1.heap.size w.heap.size k k j0 q ss _ (by omega) (by simp) (by simp) hcell hj0 hmiss hit).mono ?_; rintro e w' ⟨rfl, rfl⟩)
        clear hcell
        go_loop [43] (fun i => ∃ j : Nat, j ≤ j0 ∧ i = .int .i64 j) (fun i => k - (intOf i).toNat)
        case atStart => exact ⟨0, Nat.zero_le _, rfl⟩
        case round =>
          obtain ⟨j, hj, rfl⟩ := hrel
          have hjk : j < k := by omega
          have hcx := hkeys j hjk
          by_cases hjl : j < j0
          · have hne := hmiss j hjl
            go_wp2
            go_round
            case rel => exact ⟨j + 1, by omega, by go_num⟩
            case measure => simp [intOf]; omega
          · obtain rfl : j = j0 := by omega
            go_wp2
            go_ret
            exact ⟨by simp, hbel2⟩
      · go_wp2_with (go_at_call 11; refine (find_miss W1.heap.size k k (some ⟨w.heap.size, 0, none⟩) q ss _ (by omega) (by simp) (by simp) (fun i hi => ⟨_, rfl, hcell i hi⟩) hmiss).mono ?_; rintro e w' ⟨rfl, rfl⟩)
        clear hcell
        go_loop [43] (fun i => ∃ j : Nat, j ≤ k ∧ i = .int .i64 j) (fun i => k - (intOf i).toNat)
        case atStart => exact ⟨0, Nat.zero_le _, rfl⟩
        case round =>
          obtain ⟨j, hj, rfl⟩ := hrel
          by_cases hjk : j < k
          · have hcx := hkeys j hjk
            have hne := hmiss j hjk
            go_wp2
            go_round
            case rel => exact ⟨j + 1, by omega, by go_num⟩
            case measure => simp [intOf]; omega
          · obtain rfl : j = k := by omega
            go_wp2
            go_ret
            exact ⟨rfl, hbel2⟩

set_option maxHeartbeats 400000 in
theorem walk_zero (ao : Option Addr) (cap : Nat) (q : ByteArray) (w : World) :
    Calls Yba.prog 5 #[.slice ao 0 cap, .string q] w fun e w' => e = .returned (.bool true) ∧ Below w.heap.size w w' := by
  obtain ⟨i0, hi, hz0, hz1, hz2⟩ := info_parts info29
  go_enter Yba.func5, Yba.ntmps5
  go_wp2_with (at_make; refine wpList_make_full _ rfl (.tmp 15) (.tmp 15) 27 rfl w.heap.size 29 i0 _ 2 Yba.underlying27 hi hz0 hz1 .i64 .i64 _ _ 0 rfl rfl rfl rfl (by rw [hz2]; omega) (by unfold maxLen; omega) (Nat.le_refl _) ?_; intro w1 hown1 hgrow1)
  clear hi hz0 hz1 hz2
  have hbel : Below w.heap.size w w1 := (Below.refl _ _).grown hgrow1 (Nat.le_refl _) (by simp)
  clear hown1
  refine wp_loop_rounds 1 ?_
  rw [rounds_succ]
  go_wp2_with (go_at_call 11; refine (find_miss w1.heap.size 0 0 (some ⟨w.heap.size, 0, none⟩) q (fun _ => q) _ (by omega) (by simp) (by simp) (fun i hi => absurd hi (Nat.not_lt_zero _)) (fun i hi => absurd hi (Nat.not_lt_zero _))).mono ?_; rintro e w' ⟨rfl, rfl⟩)
  refine wp_loop_rounds 1 ?_
  rw [rounds_succ]
  go_wp2
  go_ret
  exact ⟨rfl, hbel.alloc hgrow1.size _⟩

set_option maxHeartbeats 400000 in
theorem walk_long (ao : Option Addr) (len cap : Nat) (q : ByteArray) (w : World) (hlen : (1024 : Int) < (len : Int)) :
    Calls Yba.prog 5 #[.slice ao len cap, .string q] w fun e w' => e = .returned (.bool true) ∧ Below w.heap.size w w' := by
  go_enter Yba.func5, Yba.ntmps5
  go_wp2_with fail
  go_ret
  exact ⟨rfl, Below.refl _ _⟩

theorem walk (a0 : Option Addr) (len0 cap0 : Nat) (z0 : List ByteArray) (a1 : ByteArray) (w : World) (w0 : IsStrs w a0 len0 cap0 z0) (w1 : a1.size ≤ maxLen) :
    Calls Yba.prog 5 #[.slice a0 len0 cap0, .string a1] w fun e w' => e = .returned (.bool true) ∧ Below w.heap.size w w' := by
  by_cases hl : 1024 < len0
  · exact walk_long a0 len0 cap0 a1 w (by omega)
  · rcases w0.2 with rfl | ⟨b, off, rfl, hb, hc⟩
    · exact walk_zero a0 cap0 a1 w
    · exact walk_some b off len0 cap0 _ a1 w (by omega) hc hb

/-! ### THE ROW's STEP (after the guide's shell) -/
set_option maxRecDepth 100000 in
theorem lifted (os : Os) (started : os.Started) (H : Type) (enc : TypeId × Value → H) :
    ReturnsInHanded {} Yba.checked os 5 .any (Rows.lawS0989BListFirstSpec.pre6 enc Yba.prog Yba.f5 Rows.lawS0989BListFirstRow.domain false) (Rows.lawS0989BListFirstSpec.post enc Yba.prog Yba.f5 false true false false) := by
  refine returnsInHanded_of_change (C := Yba.checked) own started (by kernel_rfl) Yba.func5
    (ChangeSpec.witness6 (enc := enc) (C := Yba.checked) false ⟨#[], #[.slice none 0 0, .string ByteArray.empty], []⟩ 8 (by kernel_rfl) (by kernel_rfl) (by kernel_rfl) (by kernel_rfl)) ?_
  intro W base args ds gs before hval0 hW hcnd _
  have hval : ∀ (j : Nat) t v, Yba.f5.params[j]? = some t → args[j]? = some v → Value.okWide Yba.prog W .any base t v := hval0
  have hW' := hW
  obtain ⟨p, q, hA0, hV, rfl, hfz, hnd⟩ := hW
  have hA : DataW.TrodAll enc Yba.prog W 0 (fun _ => true) true Yba.f5.params.toList args.toList ds p := hA0
  rw [Yba.params5] at hA hval
  obtain ⟨v0, vs0, d0, ds0, p0, q0, hargs, rfl, rfl, h0, r0⟩ := trodAll_cons hA
  obtain ⟨v1, vs1, d1, ds1, p1, q1, rfl, rfl, rfl, h1, r1⟩ := trodAll_cons r0
  obtain ⟨rfl, rfl, rfl⟩ := trodAll_nil r1
  obtain rfl : args = #[v0, v1] := by cases args; simp_all
  obtain ⟨rfl, rfl⟩ := trodVars_none hV
  obtain ⟨a0, len0, cap0, rfl⟩ := okWide_slice Yba.underlying26 (hval 0 26 v0 rfl rfl)
  have k0 := h0
  have lt0 : ∀ x ∈ p0, x.block < W.heap.size := by obtain ⟨m, hm⟩ := k0; exact DataW.trod_lt m _ _ _ hm
  obtain ⟨z0, w0⟩ : ∃ zs, IsStrs W a0 len0 cap0 zs := isStrs_open h0
  obtain ⟨a1, rfl, rfl, rfl, w1⟩ := open_string Yba.underlying9 (hval 1 9 v1 rfl rfl) h1
  clear hA0 hval0
  refine (walk a0 len0 cap0 z0 a1 W w0 w1).mono fun e W' ⟨he, bel⟩ => ?_
  subst he
  exact ⟨_, rfl, _, _, _, [], _, [], hW', trodAll_mk1 (shut_bool Yba.underlying4 _), (trodAll_cons_mk (Below.trod laidOut (by kernel_rfl) (of_decide_eq_true (by kernel_rfl)) k0 bel lt0) (trodAll_cons_mk (shut_string Yba.underlying9 w1) trodAll_mk0)), rfl, bel.frame _, fun h => by cases h⟩

theorem over : Rows.lawS0989BListFirstRow.holds Yba.pinned (OpenSpec.ofChange Rows.lawS0989BListFirstSpec) :=
  OpenClaim.holds_of_wide 5 Yba.f5 rfl rfl rfl rfl rfl rfl rfl ⟨rfl, rfl, rfl, rfl, rfl⟩ rfl rfl rfl rfl rfl (by kernel_rfl) Yba.func5 (by kernel_rfl)
    (of_decide_eq_true (by kernel_rfl)) (by unfold Func.isWrapper; first | (rw [if_pos (by decide +kernel)]; kernel_rfl) | (rw [if_neg (by decide +kernel)]; exact ⟨rfl, rfl⟩))
    (fun os started H enc _ => lifted os started H enc)

theorem proved : Rows.LawS0989BListFirstSaid := over
#print axioms proved
end Go.Proofs.Ybulktlo.lawS0989BListFirst
