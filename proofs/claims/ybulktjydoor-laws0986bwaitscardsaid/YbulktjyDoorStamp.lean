import Derived.Test.YbulktjyDoorRun
namespace Go.Proofs.YbulktjyDoor
open Go.RowKit

def zeroV : Value := .agg #[.int .u32 0, .int .i32 0, .int .u32 0, .bool false]
def zeros (n : Nat) : List Value := (Builtin.zeroCells zeroV.cells n).toList
theorem zeros_len (n : Nat) : (zeros n).length = n * 4 := by simp [zeros, Builtin.zeroCells, zeroV, Value.cells]
theorem zeros_at (n k i : Nat) (hk : k < n) (hi : i < 4) : (zeros n)[k * 4 + i]? = zeroV.cells[i]? := by
  have hs : zeroV.cells.size = 4 := rfl
  unfold zeros Builtin.zeroCells
  rw [hs]
  have e : (k * 4 + i) % 4 = i := by omega
  have h2 : k * 4 + i < n * 4 := by omega
  simp only [Array.toList_map, Array.toList_range, List.getElem?_map]
  rw [List.getElem?_range h2]
  simp only [Option.map_some, e]
  have h3 : i < zeroV.cells.size := by rw [hs]; exact hi
  rw [getElem!_pos zeroV.cells i h3, Array.getElem?_eq_getElem h3]
theorem zeros_ent (n k : Nat) (hk : k < n) : EntAt (zeros n) k 0 0 :=
  ⟨0, false, by have := zeros_at n k 0 hk (by omega); rw [Nat.add_zero] at this; rw [this]; rfl, by rw [zeros_at n k 1 hk (by omega)]; rfl, by rw [zeros_at n k 2 hk (by omega)]; rfl, by rw [zeros_at n k 3 hk (by omega)]; rfl⟩
theorem zeros_one (n : Nat) : ∀ v ∈ zeros n, v.oneCell' = true := by
  intro v hv
  obtain ⟨i, hi⟩ := List.getElem?_of_mem hv
  have hl := (List.getElem?_eq_some_iff.1 hi).1
  rw [zeros_len] at hl
  have h := zeros_at n (i / 4) (i % 4) (by omega) (by omega)
  rw [show i / 4 * 4 + i % 4 = i by omega, hi] at h
  have h4 : i % 4 = 0 ∨ i % 4 = 1 ∨ i % 4 = 2 ∨ i % 4 = 3 := by omega
  rcases h4 with e | e | e | e <;> rw [e] at h <;> simp [zeroV, Value.cells] at h <;> subst h <;> rfl

theorem own_setCells {base : Nat} {e : TypeId} {size g n cap : Nat} : ∀ (vs : List Value) (o : Nat) (w : World) (xs : List Value), w.ownsRow base e size (.slice (some ⟨g, 0, none⟩) n cap) n xs → o + vs.length = xs.length →
    (w.setCells g o vs).ownsRow base e size (.slice (some ⟨g, 0, none⟩) n cap) n (xs.take o ++ vs) ∧ w.grownBy (w.setCells g o vs) (some g)
  | [], o, w, xs, h, hl => by
    rw [List.append_nil, List.take_of_length_le (by simp at hl; omega)]
    exact ⟨h, World.grownBy.refl _ _⟩
  | v :: r, o, w, xs, h, hl => by
    simp at hl
    obtain ⟨h1, h2⟩ := own_setCells r (o + 1) (w.setCell ⟨g, o, none⟩ v) (xs.set o v) (h.stored o v).1 (by simp; omega)
    refine ⟨?_, ?_⟩
    · have e1 : (xs.set o v).take (o + 1) ++ r = xs.take o ++ v :: r := by
        have ho : min o xs.length = o := by omega
        rw [List.take_set, List.take_succ_eq_append_getElem (by omega), List.set_append_right _ _ (by simp; omega), List.length_take, ho, Nat.sub_self]
        simp
      rw [← e1]
      exact h1
    · have g1 := grownBy_setCell w ⟨g, o, none⟩ v
      exact ⟨h2.os.trans g1.os, h2.tape.trans g1.tape, h2.output.trans g1.output, Nat.le_trans g1.size h2.size, fun k hk hne => (h2.block k (by have := g1.size; omega) hne).trans (g1.block k hk hne)⟩

/-- 'clear' of a row of kinds that the call made -/
theorem wpList_clear (w : World) {ops : Array Oper} {rest : List Oper} {o : Oper} {a : Act} {Q : Exit → Act → World → Prop} (hg : o.guard = none) (s : Operand) (ho : o.op = .call { callee := .builtin .clear, args := #[s], argTypes := #[67] })
    (base gw n cw : Nat) (xs : List Value) (hs : a.eval s = .slice (some ⟨gw, 0, none⟩) n cw) (hown : w.ownsRow base 69 4 (.slice (some ⟨gw, 0, none⟩) n cw) n xs)
    (h : ∀ w', w'.ownsRow base 69 4 (.slice (some ⟨gw, 0, none⟩) n cw) n (zeros n) → w.grownBy w' (some gw) → wpList Ybad.prog ops Q rest (a.put o.dst (.tuple #[])) w') : wpList Ybad.prog ops Q (o :: rest) a w := by
  refine wpList_plain hg fun K hK => ?_
  have hz : ∀ w : World, (zeroValue 69).run Ybad.prog w = .ok zeroV w := fun w => by kernel_rfl
  rcases Nat.eq_zero_or_pos n with rfl | hpos
  · have hrun : (Builtin.clear_ #[67] o.type #[.slice (some ⟨gw, 0, none⟩) 0 cw]).run Ybad.prog w = .ok (.tuple #[]) w := by
      simp [Builtin.clear_, run_underlying Ybad.underlying67]
    unfold Oper.wp
    simp [execOp, ho, resolve, invoke, builtin, hs, hrun, Result.andThen]
    have hx : xs = zeros 0 := by
      have := hown.1
      simp at this
      subst this
      exact (List.eq_nil_of_length_eq_zero (by rw [zeros_len])).symm
    rw [hx] at hown
    exact hK _ _ (h w hown (World.grownBy.refl _ _))
  · have hst := run_storeCells_cells (P := Ybad.prog) gw 0 (zeros n) 0 w (by
      intro j hj
      rw [zeros_len] at hj
      rw [Nat.zero_add, hown.cellAt j hj, List.getElem?_eq_getElem (by rw [hown.1]; exact hj)]
      rfl) (fun j _ => hown.frozenAt _) (zeros_one n)
    simp only [Nat.add_zero] at hst
    have hrun : (Builtin.clear_ #[67] o.type #[.slice (some ⟨gw, 0, none⟩) n cw]).run Ybad.prog w = .ok (.tuple #[]) (w.setCells gw 0 (zeros n)) := by
      obtain ⟨m, rfl⟩ : ∃ m, n = m + 1 := ⟨n - 1, by omega⟩
      unfold zeros at hst ⊢
      simp [Builtin.clear_, run_underlying Ybad.underlying67, hz, hst]
    unfold Oper.wp
    simp [execOp, ho, resolve, invoke, builtin, hs, hrun, Result.andThen]
    obtain ⟨h1, h2⟩ := own_setCells (zeros n) 0 w xs hown (by rw [zeros_len, hown.1]; omega)
    rw [List.take_zero, List.nil_append] at h1
    exact hK _ _ (h _ h1 h2)

/-- the entries bear another stamp than this -/
def Stale (xs : List Value) (n : Nat) (ns : Int) : Prop := ∀ k, k < n → ∃ st hd, EntAt xs k st hd ∧ st ≠ ns

theorem stamp_step {w : World} {sb base gw n cw : Nat} {an exv wv : Value} {sd : Bool} {st : Int} {xs : List Value} (st' : Int) (hR : RSet w sb base an exv wv sd st gw n cw xs) (hb : base ≤ w.heap.size) :
    RSet (w.setCell ⟨sb, 16, none⟩ (.int .u32 st')) sb base an exv wv sd st' gw n cw xs ∧ StFrame base w (w.setCell ⟨sb, 16, none⟩ (.int .u32 st')) ∧ ∀ v m zs, w.ownsRow base 72 2 v m zs → (w.setCell ⟨sb, 16, none⟩ (.int .u32 st')).ownsRow base 72 2 v m zs := by
  obtain ⟨hsb, hown, hbs⟩ := hR
  have g := grownBy_setCell w ⟨sb, 16, none⟩ (.int .u32 st')
  refine ⟨⟨?_, own_other hown g hsb (by decide), hbs⟩, (StFrame.refl _ _).grown g hb ?_, fun v m zs h => own_other h g hsb (by decide)⟩
  · rw [heap_setCell_same w sb 16 _ 84 _ hsb]; rfl
  · intro k e
    simp at e
    subst e
    exact ⟨hbs, _, 84, (0, 0), hsb, .inl rfl⟩

theorem clear_step {w w2 : World} {sb base gw n cw : Nat} {an exv wv : Value} {sd : Bool} {st : Int} {xs ys : List Value} (hR : RSet w sb base an exv wv sd st gw n cw xs) (hown2 : w2.ownsRow base 69 4 (.slice (some ⟨gw, 0, none⟩) n cw) n ys) (hgrow : w.grownBy w2 (some gw)) (hb : base ≤ w.heap.size) :
    RSet w2 sb base an exv wv sd st gw n cw ys ∧ StFrame base w w2 ∧ ∀ v m zs, w.ownsRow base 72 2 v m zs → w2.ownsRow base 72 2 v m zs := by
  obtain ⟨hsb, hown, hbs⟩ := hR
  obtain ⟨hgb, cur, hgh⟩ := own_block hown (g := gw) rfl
  refine ⟨⟨blk_other hgrow hgh hsb (by decide), hown2, hbs⟩, (StFrame.refl _ _).grown hgrow hb ?_, fun v m zs h => own_other h hgrow hgh (by decide)⟩
  intro k e
  simp at e
  subst e
  exact ⟨hgb, cur, 69, (0, 0), hgh, .inr (.inl rfl)⟩

set_option maxHeartbeats 400000 in
theorem restamp_up {w : World} {sb base gw n cw : Nat} {an exv wv : Value} {sd : Bool} {old : Int} {xs : List Value} (hR : RSet w sb base an exv wv sd old gw n cw xs) (h0 : 0 ≤ old) (h1 : old < 4294967295) :
    Calls Ybad.prog 9 #[.pointer (some ⟨sb, 0, none⟩)] w fun e w' => e = .returned (.tuple #[]) ∧ w' = w.setCell ⟨sb, 16, none⟩ (.int .u32 (old + 1)) := by
  have c16 := rs_cell hR.1 16 (v := .int .u32 old) rfl
  have f16 : w.frozen? ⟨sb, 16, none⟩ = false := frozen_of_row w _ _ _ 84 hR.1
  clear hR
  go_enter Ybad.func9, Ybad.ntmps9
  go_wp2_with fail
  first | go_end0 | refine bodyPost_ret (results_none rfl _ _ _) rfl ?_
  exact ⟨rfl, rfl⟩

set_option maxRecDepth 100000 in
set_option maxHeartbeats 400000 in
theorem restamp_wrap {w : World} {sb base gw n cw : Nat} {an exv wv : Value} {sd : Bool} {old : Int} {xs : List Value} (hR : RSet w sb base an exv wv sd old gw n cw xs) (hb : base ≤ w.heap.size) (hold : IntKind.u32.wrap (old + 1) = 0) :
    Calls Ybad.prog 9 #[.pointer (some ⟨sb, 0, none⟩)] w fun e w' => e = .returned (.tuple #[]) ∧ RSet w' sb base an exv wv sd 1 gw n cw (zeros n) ∧ StFrame base w w' ∧ ∀ v m zs, w.ownsRow base 72 2 v m zs → w'.ownsRow base 72 2 v m zs := by
  have c16 := rs_cell hR.1 16 (v := .int .u32 old) rfl
  have c15 := rs_cell hR.1 15 (v := .slice (some ⟨gw, 0, none⟩) n cw) rfl
  have f16 : w.frozen? ⟨sb, 16, none⟩ = false := frozen_of_row w _ _ _ 84 hR.1
  obtain ⟨hR1, hf1, hw1⟩ := stamp_step 0 hR hb
  have hown1 := hR1.2.1
  have H1 := hide (And.intro hR1 (And.intro hf1 hw1))
  clear hR hR1 hf1 hw1
  go_enter Ybad.func9, Ybad.ntmps9
  go_wp2_with (refine wpList_clear _ rfl (.tmp 17) rfl base gw n cw xs rfl hown1 ?_; intro w2 hown2 hgrow2; have S2 := hide (clear_step H1.out.1 hown2 hgrow2 (Nat.le_trans hb H1.out.2.1.below.size)); have d16 := rs_cell S2.out.1.1 16 (v := .int .u32 0) rfl; have df16 := frozen_of_row w2 sb 16 _ 84 S2.out.1.1; clear hown2 hgrow2)
  first | go_end0 | refine bodyPost_ret (results_none rfl _ _ _) rfl ?_
  obtain ⟨hR2, hf2, hw2⟩ := S2.out
  obtain ⟨hR3, hf3, hw3⟩ := stamp_step 1 hR2 (Nat.le_trans hb (H1.out.2.1.trans hf2).below.size)
  exact ⟨rfl, hR3, (H1.out.2.1.trans hf2).trans hf3, fun v m zs h => hw3 v m zs (hw2 v m zs (H1.out.2.2 v m zs h))⟩
end Go.Proofs.YbulktjyDoor
