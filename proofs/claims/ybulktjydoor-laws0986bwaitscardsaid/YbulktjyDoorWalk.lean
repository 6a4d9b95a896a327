import Derived.Test.YbulktjyDoorTW
import Derived.Deep.DeepCutAuto
import Derived.Deep.CutBlock
import Derived.Deep.LoopGhost
namespace Go.Proofs.YbulktjyDoor
open Go.RowKit

theorem b30_is : ((Program.built Ybad.prog 30 []).map fun cs => (cs[0]?, cs[1]?, cs.size)) = some (some (.int .u16 0), some (.int .u16 0), 1024) := by kernel_rfl
theorem b49_is : ((Program.built Ybad.prog 49 []).map fun cs => (cs[1]?, cs[8]?, cs[26]?, cs.size)) = some (some (.slice none 0 0), some (.pointer none), some (.slice none 0 0), 37) := by kernel_rfl
theorem b30_ex : ∃ cs, Hid (Program.built Ybad.prog 30 [] = some cs) ∧ Hid (cs[0]? = some (.int .u16 0) ∧ cs[1]? = some (.int .u16 0) ∧ cs.size = 1024) := by
  have h := b30_is
  cases e : Program.built Ybad.prog 30 [] with
  | none => rw [e] at h; cases h
  | some cs =>
    rw [e] at h
    simp at h
    exact ⟨cs, hide rfl, hide ⟨h.1, h.2.1, h.2.2⟩⟩
theorem b49_ex : ∃ cs, Hid (Program.built Ybad.prog 49 [] = some cs) ∧ Hid (cs[1]? = some (.slice none 0 0) ∧ cs[8]? = some (.pointer none) ∧ cs[26]? = some (.slice none 0 0) ∧ cs.size = 37) := by
  have h := b49_is
  cases e : Program.built Ybad.prog 49 [] with
  | none => rw [e] at h; cases h
  | some cs =>
    rw [e] at h
    simp at h
    exact ⟨cs, hide rfl, hide ⟨h.1, h.2.1, h.2.2.1, h.2.2.2⟩⟩
theorem wpList_bare {ops : Array Oper} {rest : List Oper} {o : Oper} {a : Act} {w : World} {Q : Exit → Act → World → Prop} (t : TypeId) (cs : Array Value) (hcs : Hid (Program.built Ybad.prog t [] = some cs))
    (hgd : o.guard = none) (ho : o.op = .build t #[]) (h : wpList Ybad.prog ops Q rest (a.put o.dst (.agg cs)) w) : wpList Ybad.prog ops Q (o :: rest) a w := by
  have e : ((#[] : Array (Nat × Operand)).map fun (x : Nat × Operand) => (x.1, a.eval x.2)).toList = [] := by simp
  refine wpList_build hgd t _ ho ?_ ?_
  · rw [e, hcs.out]; rfl
  · rw [e, hcs.out]; exact h

theorem q66 : (Ybad.prog.info? 66).map (fun i => (i.zero.isSome, i.size, decide (i.bytes ≤ 200))) = some (true, 9, true) := by kernel_rfl
theorem info66 : ∃ (i : TypeInfo) (z : Value), Ybad.prog.info? 66 = some i ∧ i.zero = some z ∧ i.size = 9 ∧ i.bytes ≤ 200 := by
  have h := q66
  cases e : Ybad.prog.info? 66 with
  | none => rw [e] at h; cases h
  | some i =>
    rw [e] at h
    simp at h
    obtain ⟨z, hz⟩ := Option.isSome_iff_exists.1 h.1
    exact ⟨i, z, rfl, hz, h.2.1, h.2.2⟩
theorem info24 : (Ybad.prog.info? 24).map (fun i => (i.zero, i.size, i.bytes)) = some (some (.int .u32 0), 1, 4) := by kernel_rfl

def AnOk (zs : List Value) (i N : Nat) : Prop := ∀ j, j < i → ∃ v : Nat, v < N ∧ zs[j * 9]? = some (.int .u32 (v : Nat))
theorem AnOk.set {zs : List Value} {i N n v : Nat} (h : AnOk zs i N) (hl : zs.length = n * 9) (hi : i < n) (hv : v < N) : AnOk (zs.set (i * 9) (.int .u32 (v : Nat))) (i + 1) N := by
  intro j hj
  by_cases e : j = i
  · subst e
    exact ⟨v, hv, by rw [List.getElem?_set_self (by omega)]⟩
  · obtain ⟨u, hu, hz⟩ := h j (by omega)
    exact ⟨u, hu, by rw [List.getElem?_set_ne (by omega)]; exact hz⟩
theorem grow_same {a b c : World} {j : Nat} (h : a.grownBy b (some j)) (k : b.grownBy c (some j)) : a.grownBy c (some j) :=
  ⟨k.os.trans h.os, k.tape.trans h.tape, k.output.trans h.output, Nat.le_trans h.size k.size, fun i hi hn => (k.block i (Nat.lt_of_lt_of_le hi h.size) hn).trans (h.block i hi hn)⟩

def numAt (xs : List Value) (i : Nat) : Nat := match xs[i]? with | some (.int _ f) => f.toNat | _ => 0
theorem numAt_of {xs : List Value} {i n : Nat} {k : IntKind} (h : xs[i]? = some (.int k (n : Nat))) : numAt xs i = n := by simp [numAt, h]
theorem own_cur {w : World} {base : Nat} {e : TypeId} {size : Nat} {g n cap : Nat} {xs : List Value} (h : w.ownsRow base e size (.slice (some ⟨g, 0, none⟩) n cap) n xs) : ∃ cur, w.heap[g]? = some (.cells cur e (0, 0)) ∧ ∀ i, i < n * size → cur[i]? = xs[i]? := by
  obtain ⟨hl, h⟩ := h
  rcases h with ⟨e, _⟩ | ⟨g', cap', cur, e, hb, hh, hn, hm, hs, ht⟩
  · simp at e
  · simp at e
    obtain ⟨rfl, rfl⟩ := e
    refine ⟨cur, hh, fun i hi => ?_⟩
    rw [← ht, List.getElem?_take_of_lt hi]
    simp

theorem holds_of {w : World} {tb base gn cn ge ce E lb pb gc ga n2 : Nat} {xs ys zs : List Value} {lcs cs : Array Value} (hT : TI w tb base gn cn (E + 1) ge ce E xs ys) (hNo : NodeOk xs (E + 1) E) (hEo : EdgeOk ys E) (hE : E + 1 ≤ 64)
    (hl : w.heap[lb]? = some (.cells (((lcs.setIfInBounds 8 (.pointer (some ⟨pb, 0, none⟩))).setIfInBounds 26 (.slice (some ⟨gc, 0, none⟩) 2 2)).setIfInBounds 1 (.slice (some ⟨ga, 0, none⟩) n2 n2)) 49 (0, 0))) (hls : lcs.size = 37)
    (hp : w.heap[pb]? = some (.cells (cs.setIfInBounds 0 (.int .u16 1)) 30 (0, 0))) (hcs : cs[1]? = some (.int .u16 0) ∧ cs.size = 1024)
    (hc : w.heap[gc]? = some (.cells #[.int .u64 0, .int .u32 0, .int .u64 277600916209664, .int .u32 0] 51 (0, 0))) (ho : w.ownsRow base 66 9 (.slice (some ⟨ga, 0, none⟩) n2 n2) n2 zs) (hA : AnOk zs n2 (E + 1)) (hn2 : n2 ≤ 256) :
    ∃ (d : SD) (fst cnt ch nd : Nat → Nat), (d.tb = tb ∧ d.lb = lb) ∧ Stat w d ∧ Holds d (E + 1) E n2 fst cnt ch nd := by
  obtain ⟨ncs, hn, hnx⟩ := own_cur hT.2.1
  obtain ⟨ecs, he, hex⟩ := own_cur hT.2.2.1
  obtain ⟨acs, ha, hax⟩ := own_cur ho
  refine ⟨⟨tb, gn, ge, lb, pb, gc, ga, _, ncs, ecs, _, _, _, acs⟩, fun v => numAt xs (v * 4), fun v => numAt xs (v * 4 + 1), fun i => numAt ys i, fun j => numAt zs (j * 9), ⟨rfl, rfl⟩, ⟨hT.1, hn, he, hl, hp, hc, ha⟩, ?_⟩
  refine { t0 := ⟨cn, rfl⟩, t1 := ⟨ce, rfl⟩, n0 := ?_, e0 := ?_, l1 := ⟨n2, ?_⟩, l8 := ?_, l26 := ?_, p0 := ?_, p1 := ?_, c0 := rfl, c1 := rfl, c2 := rfl, c3 := rfl, a0 := ?_, hN := hE, hE := by omega, hA := hn2, bd := ?_, tb := ?_, an := ?_ }
  · intro v hv
    obtain ⟨f, c, x, y, h0, h1, h2, h3, -⟩ := hNo v hv
    refine ⟨?_, ?_, ⟨x, ?_⟩, ⟨y, ?_⟩⟩
    · show ncs[v * 4]? = some (.int .u32 (numAt xs (v * 4) : Nat))
      rw [hnx _ (by omega), numAt_of h0]; exact h0
    · show ncs[v * 4 + 1]? = some (.int .u32 (numAt xs (v * 4 + 1) : Nat))
      rw [hnx _ (by omega), numAt_of h1]; exact h1
    · show ncs[v * 4 + 2]? = _
      rw [hnx _ (by omega)]; exact h2
    · show ncs[v * 4 + 3]? = _
      rw [hnx _ (by omega)]; exact h3
  · intro i hi
    obtain ⟨c, hc, h⟩ := hEo i hi
    show ecs[i]? = some (.int .i32 (numAt ys i : Nat))
    rw [hex _ (by omega), numAt_of h]; exact h
  · exact Array.getElem?_setIfInBounds_self_of_lt (by simp; omega)
  · show (((lcs.setIfInBounds 8 _).setIfInBounds 26 _).setIfInBounds 1 _)[8]? = _
    rw [Array.getElem?_setIfInBounds_ne (by decide), Array.getElem?_setIfInBounds_ne (by decide)]
    exact Array.getElem?_setIfInBounds_self_of_lt (by omega)
  · show (((lcs.setIfInBounds 8 _).setIfInBounds 26 _).setIfInBounds 1 _)[26]? = _
    rw [Array.getElem?_setIfInBounds_ne (by decide)]
    exact Array.getElem?_setIfInBounds_self_of_lt (by simp; omega)
  · exact Array.getElem?_setIfInBounds_self_of_lt (by omega)
  · show (cs.setIfInBounds 0 _)[1]? = _
    rw [Array.getElem?_setIfInBounds_ne (by decide)]
    exact hcs.1
  · intro j hj
    obtain ⟨v, hv, h⟩ := hA j hj
    show acs[j * 9]? = some (.int .u32 (numAt zs (j * 9) : Nat))
    rw [hax _ (by omega), numAt_of h]; exact h
  · intro v hv
    obtain ⟨f, c, x, y, h0, h1, h2, h3, h4, h5⟩ := hNo v hv
    show numAt xs (v * 4) + numAt xs (v * 4 + 1) ≤ E ∧ numAt xs (v * 4 + 1) ≤ 3
    rw [numAt_of h0, numAt_of h1]
    exact ⟨h4, h5⟩
  · intro i hi
    obtain ⟨c, hc, h⟩ := hEo i hi
    show numAt ys i ∈ tab
    rw [numAt_of h]; exact hc
  · intro j hj
    obtain ⟨v, hv, h⟩ := hA j hj
    show numAt zs (j * 9) < E + 1
    rw [numAt_of h]; exact hv

def SaOk (ss : List Value) (i A : Nat) : Prop := ∀ j, j < i → ∃ v : Nat, v < A ∧ ss[j]? = some (.int .u32 (v : Nat))
theorem SaOk.add {ss : List Value} {i A v : Nat} (h : SaOk ss i A) (hl : ss.length = i) (hv : v < A) : SaOk (ss ++ [.int .u32 (v : Nat)]) (i + 1) A := by
  intro j hj
  by_cases e : j < i
  · obtain ⟨u, hu, hz⟩ := h j e
    exact ⟨u, hu, by rw [List.getElem?_append_left (by omega)]; exact hz⟩
  · obtain rfl : j = i := by omega
    exact ⟨v, hv, by rw [List.getElem?_append_right (by omega), show j - ss.length = 0 by omega]; rfl⟩
theorem anch_of {w : World} {b n cap A : Nat} {ao : Option Addr} {ss : List Value} (h : w.ownsRow b 24 1 (.slice ao n cap) n ss) (hs : SaOk ss n A) : Anch w ao n (numAt ss) ∧ ∀ i, i < n → numAt ss i < A := by
  constructor
  · intro i hi
    rcases own_ptr h with ⟨_, h0, _⟩ | ⟨g, rfl⟩
    · omega
    · obtain ⟨cur, hh, hx⟩ := own_cur h
      obtain ⟨v, _, hz⟩ := hs i hi
      exact ⟨g, cur, rfl, hh, by rw [hx i (by omega), numAt_of hz]; exact hz⟩
  · intro i hi
    obtain ⟨v, hv, hz⟩ := hs i hi
    rw [numAt_of hz]; exact hv
theorem one_w (a : Int) : ∀ u ∈ [Value.int .u32 a], u.oneCell' = true := by
  intro v hv
  simp at hv
  subst hv; rfl

set_option maxRecDepth 100000 in
set_option maxHeartbeats 4000000 in
theorem law_walk (w : World) (base : Nat) (hbw : base = w.heap.size) (a0 a1 a2 a3 : Option Addr) (n0 c0 n1 c1 n2 c2 n3 c3 : Nat) (old : Int) (wl ol : Nat) (r0 : NumRow w base .u8 256 a0 n0) (r1 : NumRow w base .u8 256 a1 n1) (r2 : NumRow w base .u16 65536 a2 n2) (r3 : NumRow w base .u8 256 a3 n3) (h0 : 0 ≤ old) (h1 : old ≤ 4294967295) (hwl : wl < 256) (hol : ol < 256) :
    Calls Ybad.prog 3 #[.slice a0 n0 c0, .slice a1 n1 c1, .slice a2 n2 c2, .slice a3 n3 c3, .int .u32 old, .int .u8 (wl : Int), .int .u8 (ol : Int)] w fun e w' => e = .returned (.bool true) ∧ Below base w w' := by
  have hb : base ≤ w.heap.size := by omega
  clear hbw
  have HP := hide (And.intro r0 (And.intro r1 (And.intro r2 r3)))
  clear r0 r1 r2 r3
  go_enter Ybad.func3, Ybad.ntmps3
  by_cases g0 : 256 < (n0 : Int)
  · go_wp2_with fail
    go_ret
    exact ⟨rfl, Below.refl _ _⟩
  by_cases g1 : 256 < (n1 : Int)
  · go_wp2_with fail
    go_ret
    exact ⟨rfl, Below.refl _ _⟩
  by_cases g2 : 256 < (n2 : Int)
  · go_wp2_with fail
    go_ret
    exact ⟨rfl, Below.refl _ _⟩
  by_cases g3 : 256 < (n3 : Int)
  · go_wp2_with fail
    go_ret
    exact ⟨rfl, Below.refl _ _⟩
  go_wp2_with fail
  refine (btrie_any w base hb a0 a1 n0 c0 n1 c1 HP.out.1 HP.out.2.1).mono ?_
  rintro e w1 ⟨tb, gn, cn, N, ge, ce, E, xs, ys, rfl, hT, hNo, hEo, hNE, hN64, hB⟩
  subst hNE
  have htl := lt_of_block hT.1
  have H1 := hide (And.intro hT (And.intro hNo (And.intro hEo hB)))
  clear hT hNo hEo hB
  obtain ⟨cs, k30, kc⟩ := b30_ex
  obtain ⟨lcs, k49, kl⟩ := b49_ex
  go_upto_region 5 with (refine isAt 63 ?_; refine wpList_bare 30 cs k30 rfl rfl ?_)
  obtain ⟨w2, hw2⟩ : ∃ w2 : World, w2 = w1.alloc (.cells cs 30) := ⟨_, rfl⟩
  rw [← hw2]
  have hp2 : w2.heap[w1.heap.size]? = some (.cells cs 30 (0, 0)) := by rw [hw2]; exact heap_alloc_new w1 _
  have hg2 : w1.grownBy w2 none := by rw [hw2]; exact World.grownBy_alloc w1 _ none
  have p0 : w2.cell? ⟨w1.heap.size, 0, none⟩ = some (.int .u16 0) := by rw [cell_of_row w2 _ _ _ 30 (0, 0) hp2]; exact kc.out.1
  have pf : w2.frozen? ⟨w1.heap.size, 0, none⟩ = false := frozen_of_row w2 _ _ _ 30 hp2
  generalize hpb : w1.heap.size = pb at *
  have H2 := hide (And.intro hp2 (And.intro hg2 hpb))
  clear hp2 hg2 hpb hw2
  go_upto_region 6 with fail
  obtain ⟨w3, hw3⟩ : ∃ w3 : World, w3 = w2.setCell ⟨pb, 0, none⟩ (.int .u16 1) := ⟨_, rfl⟩
  rw [← hw3]
  have hp3 : w3.heap[pb]? = some (.cells (cs.setIfInBounds 0 (.int .u16 1)) 30 (0, 0)) := by rw [hw3, heap_setCell_same w2 pb 0 _ 30 _ H2.out.1]
  have hg3 : w1.grownBy w3 none := by rw [hw3]; exact grow_new H2.out.2.1 (grownBy_setCell _ _ _) (by rw [H2.out.2.2]; exact Nat.le_refl _)
  have H3 := hide (And.intro hp3 (And.intro hg3 H2.out.2.2))
  clear hw3 hp3 hg3 H2 p0 pf
  go_upto_region 7 with (refine isAt 68 ?_; refine wpList_bare 49 lcs k49 rfl rfl ?_)
  obtain ⟨w4, hw4⟩ : ∃ w4 : World, w4 = w3.alloc (.cells lcs 49) := ⟨_, rfl⟩
  rw [← hw4]
  have hl4 : w4.heap[w3.heap.size]? = some (.cells lcs 49 (0, 0)) := by rw [hw4]; exact heap_alloc_new w3 _
  have hp4 := blk_none (show w3.grownBy w4 none by rw [hw4]; exact World.grownBy_alloc w3 _ none) H3.out.1
  have hg4 : w1.grownBy w4 none := by rw [hw4]; exact grow_trans H3.out.2.1 (World.grownBy_alloc w3 _ none)
  have p0 : w4.cell? ⟨w3.heap.size, 8, none⟩ = some (.pointer none) := by rw [cell_of_row w4 _ _ _ 49 (0, 0) hl4]; exact kl.out.2.1
  have pf : w4.frozen? ⟨w3.heap.size, 8, none⟩ = false := frozen_of_row w4 _ _ _ 49 hl4
  have hlb1 : w1.heap.size ≤ w3.heap.size := H3.out.2.1.size
  generalize w3.heap.size = lb at *
  have H4 := hide (And.intro hl4 (And.intro hp4 (And.intro hg4 hlb1)))
  clear hl4 hp4 hg4 hlb1 hw4
  go_upto_region 8 with fail
  obtain ⟨w5, hw5⟩ : ∃ w5 : World, w5 = w4.setCell ⟨lb, 8, none⟩ (.pointer (some ⟨pb, 0, none⟩)) := ⟨_, rfl⟩
  rw [← hw5]
  have hl5 : w5.heap[lb]? = some (.cells (lcs.setIfInBounds 8 (.pointer (some ⟨pb, 0, none⟩))) 49 (0, 0)) := by rw [hw5, heap_setCell_same w4 lb 8 _ 49 _ H4.out.1]
  have hp5 := blk_other (show w4.grownBy w5 (some lb) by rw [hw5]; exact grownBy_setCell w4 ⟨lb, 8, none⟩ _) H4.out.1 H4.out.2.1 (by decide)
  have hg5 : w1.grownBy w5 none := by rw [hw5]; exact grow_new H4.out.2.2.1 (grownBy_setCell _ _ _) H4.out.2.2.2
  have H5 := hide (And.intro hl5 (And.intro hp5 (And.intro hg5 H4.out.2.2.2)))
  have p1 : w5.cell? ⟨lb, 26, none⟩ = some (.slice none 0 0) := by rw [cell_of_row w5 _ _ _ 49 (0, 0) hl5, Array.getElem?_setIfInBounds_ne (by decide)]; exact kl.out.2.2.1
  have pf1 : w5.frozen? ⟨lb, 26, none⟩ = false := frozen_of_row w5 _ _ _ 49 hl5
  have hlb5 := lt_of_block hl5
  clear hw5 hl5 hp5 hg5 H4 p0 pf H3
  go_wp2_with fail
  refine (mask_any _).mono ?_
  rintro e w5' ⟨rfl, hw⟩
  subst hw
  go_upto_region 9 with fail
  obtain ⟨w7, hw7⟩ : ∃ w7 : World, w7 = (w5'.setCell ⟨lb, 26, none⟩ (.slice (some ⟨w5'.heap.size, 0, none⟩) 2 2)).alloc (.cells #[.int .u64 0, .int .u32 0, .int .u64 277600916209664, .int .u32 0] 51) := ⟨_, rfl⟩
  rw [← hw7]
  have gs := grownBy_setCell w5' ⟨lb, 26, none⟩ (.slice (some ⟨w5'.heap.size, 0, none⟩) 2 2)
  have ga := World.grownBy_alloc (w5'.setCell ⟨lb, 26, none⟩ (.slice (some ⟨w5'.heap.size, 0, none⟩) 2 2)) (.cells #[.int .u64 0, .int .u32 0, .int .u64 277600916209664, .int .u32 0] 51) none
  have hss : (w5'.setCell ⟨lb, 26, none⟩ (.slice (some ⟨w5'.heap.size, 0, none⟩) 2 2)).heap.size = w5'.heap.size := by simp
  have hc7 : w7.heap[w5'.heap.size]? = some (.cells #[.int .u64 0, .int .u32 0, .int .u64 277600916209664, .int .u32 0] 51 (0, 0)) := by
    have e := heap_alloc_new (w5'.setCell ⟨lb, 26, none⟩ (.slice (some ⟨w5'.heap.size, 0, none⟩) 2 2)) (.cells #[.int .u64 0, .int .u32 0, .int .u64 277600916209664, .int .u32 0] 51)
    rw [hss] at e
    rw [hw7]
    exact e
  have hl7 : w7.heap[lb]? = some (.cells ((lcs.setIfInBounds 8 (.pointer (some ⟨pb, 0, none⟩))).setIfInBounds 26 (.slice (some ⟨w5'.heap.size, 0, none⟩) 2 2)) 49 (0, 0)) := by
    rw [hw7]
    exact blk_none ga (by rw [heap_setCell_same w5' lb 26 _ 49 _ H5.out.1])
  have hp7 : w7.heap[pb]? = some (.cells (cs.setIfInBounds 0 (.int .u16 1)) 30 (0, 0)) := by
    rw [hw7]
    exact blk_none ga (blk_other gs H5.out.1 H5.out.2.1 (by decide))
  have hg7 : w1.grownBy w7 none := by rw [hw7]; exact grow_trans (grow_new H5.out.2.2.1 gs H5.out.2.2.2) ga
  clear gs ga hss hw7
  generalize w5'.heap.size = gc at *
  have hb7 : base ≤ w7.heap.size := Nat.le_trans hb (Nat.le_trans H1.out.2.2.2.size hg7.size)
  have H7 := hide (And.intro hl7 (And.intro hp7 (And.intro hc7 (And.intro hg7 H5.out.2.2.2))))
  clear hl7 hp7 hc7 hg7 H5 p1 pf1 hlb5
  obtain ⟨i66, z66, hi6, hz60, hz61, hz62⟩ := info66
  have hz63 : i66.bytes * n2 ≤ 281474976710656 := Nat.le_trans (Nat.mul_le_mul hz62 (show n2 ≤ 256 by omega)) (by omega)
  go_upto_region 10 with (at_make; refine wpList_make_full _ rfl (.tmp 86) (.tmp 86) 33 rfl base 66 i66 z66 9 Ybad.underlying33 hi6 hz60 hz61 .i64 .i64 _ _ n2 rfl rfl rfl rfl hz63 (by unfold maxLen; omega) hb7 ?_; intro w8 hown8 hgrow8; have S8 := hide (And.intro hown8 hgrow8); have hl8 := blk_none hgrow8 H7.out.1; have e1 : w8.cell? ⟨lb, 1, none⟩ = some (.slice none 0 0) := (by rw [cell_of_row w8 _ _ _ 49 (0, 0) hl8, Array.getElem?_setIfInBounds_ne (by decide), Array.getElem?_setIfInBounds_ne (by decide)]; exact kl.out.1); have ef := frozen_of_row w8 lb 1 _ 49 hl8; clear hown8 hgrow8 hl8)
  obtain ⟨w9, hw9⟩ : ∃ w9 : World, w9 = w8.setCell ⟨lb, 1, none⟩ (.slice (some ⟨w7.heap.size, 0, none⟩) n2 n2) := ⟨_, rfl⟩
  rw [← hw9]
  have hl8 := blk_none S8.out.2 H7.out.1
  have gs := grownBy_setCell w8 ⟨lb, 1, none⟩ (.slice (some ⟨w7.heap.size, 0, none⟩) n2 n2)
  rw [← hw9] at gs
  have hl9 : w9.heap[lb]? = some (.cells (((lcs.setIfInBounds 8 (.pointer (some ⟨pb, 0, none⟩))).setIfInBounds 26 (.slice (some ⟨gc, 0, none⟩) 2 2)).setIfInBounds 1 (.slice (some ⟨w7.heap.size, 0, none⟩) n2 n2)) 49 (0, 0)) := by rw [hw9, heap_setCell_same w8 lb 1 _ 49 _ hl8]
  have hp9 := blk_other gs hl8 (blk_none S8.out.2 H7.out.2.1) (by decide)
  have hc9 := blk_other gs hl8 (blk_none S8.out.2 H7.out.2.2.1) (by decide)
  have hg9 : w1.grownBy w9 none := grow_new (grow_trans H7.out.2.2.2.1 S8.out.2) gs H7.out.2.2.2.2
  have ho9 := own_other S8.out.1 gs hl8 (by decide)
  have hga : w1.heap.size ≤ w7.heap.size := H7.out.2.2.2.1.size
  have hb9 : base ≤ w9.heap.size := Nat.le_trans hb (Nat.le_trans H1.out.2.2.2.size hg9.size)
  generalize w7.heap.size = ga at *
  generalize (madeCells z66.cells (n2 * 9)).toList = zs at *
  have H9 := hide (And.intro hl9 (And.intro hp9 (And.intro hc9 (And.intro hg9 (And.intro ho9 hga)))))
  clear hl8 gs hl9 hp9 hc9 hg9 ho9 hga hw9 H7 S8 e1 ef hi6 hz60 hz61 hz62 hz63 k30 k49 hb7
  go_upto_block 0 with fail
  go_cut [18, 19] (fun _ _ wx => Hid (∃ zs, w9.grownBy wx (some ga) ∧ wx.ownsRow base 66 9 (.slice (some ⟨ga, 0, none⟩) n2 n2) n2 zs ∧ AnOk zs n2 (E + 1)))
  case first =>
    go_wp2_with fail
    go_loopw [92] (fun u wr => ∃ i : Nat, i ≤ n2 ∧ u = .int .i64 (i : Int) ∧ Hid (∃ zs, w9.grownBy wr (some ga) ∧ wr.ownsRow base 66 9 (.slice (some ⟨ga, 0, none⟩) n2 n2) n2 zs ∧ AnOk zs i (E + 1))) (fun u _ => n2 - (intOf u).toNat)
    case atStart => exact ⟨0, Nat.zero_le _, rfl, zs, ⟨rfl, rfl, rfl, Nat.le_refl _, fun _ _ _ => rfl⟩, H9.out.2.2.2.2.1, fun j hj => by omega⟩
    case round =>
      obtain ⟨i, hi, rfl, HI⟩ := hrel
      by_cases hin : i < n2
      · obtain ⟨zs', hg, ho, hA⟩ := HI.out
        have hg1 : w1.grownBy wr none := grow_new H9.out.2.2.2.1 hg H9.out.2.2.2.2.2
        have hB1 : Below base w wr := H1.out.2.2.2.grown hg1 (Nat.le_trans hb H1.out.2.2.2.size) (by simp)
        obtain ⟨g, off, x, rfl, hgb, hc, hx⟩ := (HP.out.2.2.1.kept hB1) i hin
        have l1 : wr.cell? ⟨lb, 1, none⟩ = some (.slice (some ⟨ga, 0, none⟩) n2 n2) := by
          obtain ⟨_, cur, hh⟩ := own_block H9.out.2.2.2.2.1 (g := ga) rfl
          rw [cell_of_row wr _ _ _ 49 (0, 0) (blk_other hg hh H9.out.1 (by decide)), Array.getElem?_setIfInBounds_self_of_lt (by simp; have := kl.out.2.2.2; omega)]
        have t0 : wr.cell? ⟨tb, 0, none⟩ = some (.slice (some ⟨gn, 0, none⟩) (E + 1) cn) := by rw [cell_of_row wr _ _ _ 63 (0, 0) (blk_none hg1 H1.out.1.1)]; rfl
        obtain ⟨vz, z0⟩ := own_cell ho (show i * 9 < n2 * 9 by omega)
        have zf := ho.frozenAt (i * 9)
        have HT := hide (And.intro hg (And.intro ho hA))
        clear HI hg ho hA hg1 hB1
        go_wp2_with fail
        go_region
        obtain ⟨wz, hwz⟩ : ∃ wz : World, wz = (wr.setCell ⟨ga, i * 9, none⟩ (.int .u32 ((x : Int) % ((E : Int) + 1)))).drew := ⟨_, rfl⟩
        rw [← hwz]
        have hvx : (x : Int) % ((E : Int) + 1) = ((x % (E + 1) : Nat) : Int) := by simp
        have HZ := hide (show ∃ zs, w9.grownBy wz (some ga) ∧ wz.ownsRow base 66 9 (.slice (some ⟨ga, 0, none⟩) n2 n2) n2 zs ∧ AnOk zs (i + 1) (E + 1) from by
          rw [hwz, hvx]
          exact ⟨_, grow_same (grow_same HT.out.1 (grownBy_setCell wr ⟨ga, i * 9, none⟩ _)) (grownBy_drewN _ 1 _), own_none (HT.out.2.1.stored _ _).1 (grownBy_drewN _ 1 none), HT.out.2.2.set HT.out.2.1.1 hin (Nat.mod_lt _ (by omega))⟩)
        clear hwz hvx l1 t0 z0 zf hc HT
        go_wp2_with fail
        go_roundw
        case rel => exact ⟨i + 1, hin, by go_num, HZ.out⟩
        case measure => simp [intOf]; omega
      · obtain rfl : i = n2 := by omega
        go_wp2_with fail
        go_meet
        case rel => exact HI.out
  case rest =>
    have HS0 : ∃ (d : SD) (fst cnt ch nd : Nat → Nat), (d.tb = tb ∧ d.lb = lb) ∧ Stat wc d ∧ Holds d (E + 1) E n2 fst cnt ch nd ∧ Below base w wc := by
      obtain ⟨zs', hg, ho, hA⟩ := hcut.out
      have hg1 : w1.grownBy wc none := grow_new H9.out.2.2.2.1 hg H9.out.2.2.2.2.2
      obtain ⟨_, cur, hh⟩ := own_block H9.out.2.2.2.2.1 (g := ga) rfl
      obtain ⟨d, fst, cnt, ch, nd, e, hs, hk⟩ := holds_of (w := wc) ⟨blk_none hg1 H1.out.1.1, own_none H1.out.1.2.1 hg1, own_none H1.out.1.2.2.1 hg1, H1.out.1.2.2.2⟩ H1.out.2.1 H1.out.2.2.1 hN64 (blk_other hg hh H9.out.1 (by decide)) kl.out.2.2.2 (blk_other hg hh H9.out.2.1 (by decide)) ⟨kc.out.2.1, kc.out.2.2⟩ (blk_other hg hh H9.out.2.2.1 (by decide)) ho hA (by omega)
      exact ⟨d, fst, cnt, ch, nd, e, hs, hk, H1.out.2.2.2.grown hg1 (Nat.le_trans hb H1.out.2.2.2.size) (by simp)⟩
    obtain ⟨d, fst, cnt, ch, nd, ⟨rfl, rfl⟩, hs, hk, hB⟩ := HS0
    have HS := hide (And.intro hs (And.intro hk hB))
    clear hs hk hB hcut H9 H1 kc kl htl hb9
    obtain ⟨wA, rfl⟩ : ∃ wA, wA = wc := ⟨_, rfl⟩
    obtain ⟨cl, hl1⟩ := HS.out.2.1.l1
    have q1 : wA.cell? ⟨d.lb, 1, none⟩ = some (.slice (some ⟨d.ga, 0, none⟩) n2 cl) := by rw [cell_of_row wA _ _ _ 49 (0, 0) HS.out.1.l]; exact hl1
    clear hl1
    go_upto_if 119 with fail
    go_cut [20, 22] (fun s20 _ wx => ∃ ao Ns cap, s20 = .slice ao Ns cap ∧ Ns ≤ 256 ∧ Hid (∃ sa : Nat → Nat, wA.grownBy wx none ∧ Anch wx ao Ns sa ∧ ∀ i, i < Ns → sa i < n2))
    case first =>
      by_cases hn20 : (0 : Int) < (n2 : Int)
      · go_wp2_with fail
        try simp only [show decide (0 < n2) = true by simp; omega]
        go_loopg [122, 20] n3 (fun g u s wr => ∃ (i cap : Nat) (ao : Option Addr), i ≤ n3 ∧ g = n3 - i ∧ u = .int .i64 (i : Int) ∧ s = .slice ao i cap ∧ Hid (∃ ss, wA.grownBy wr none ∧ wr.ownsRow wA.heap.size 24 1 (.slice ao i cap) i ss ∧ SaOk ss i n2))
        case atStart => exact ⟨0, 0, none, Nat.zero_le _, rfl, rfl, rfl, [], grow_refl _, World.ownsRow_nil _ _ _ _, fun j hj => by omega⟩
        case round =>
          obtain ⟨i, cap, ao, hi, rfl, rfl, rfl, HI⟩ := hrel
          by_cases hin : i < n3
          · obtain ⟨ss, hg, ho, hA⟩ := HI.out
            have hB1 : Below base w wr := HS.out.2.2.grown hg (Nat.le_trans hb HS.out.2.2.size) (by simp)
            obtain ⟨g, off, x, rfl, hgb, hc, hx⟩ := (HP.out.2.2.2.kept hB1) i hin
            have l1 : wr.cell? ⟨d.lb, 1, none⟩ = some (.slice (some ⟨d.ga, 0, none⟩) n2 cl) := hg.cell q1 (by simp)
            obtain ⟨m, hm, hmn⟩ : ∃ m : Nat, (x : Int) % (n2 : Int) = (m : Int) ∧ m < n2 := ⟨x % n2, by simp, Nat.mod_lt _ (by omega)⟩
            have HT := hide (And.intro hg hA)
            have hsz := hg.size
            clear HI hg hA hB1
            obtain ⟨j1, hi1, hz10, hz11, hz12⟩ := info_parts info24
            go_wp2_with (at_builtin; refine isAt 137 ?_; refine wpList_append_shape _ rfl (.tmp 126) (.tmp 136) 32 rfl wA.heap.size 24 j1 _ 1 4 Ybad.underlying32 hi1 hz10 hz11 hz12 rfl (by decide) (.slice ao i cap) i ss rfl (ho.alloc _) ⟨wr.heap.size, 0, none⟩ 1 1 [.int .u32 (m : Int)] rfl rfl (new_cells wr [.int .u32 (m : Int)] 24) (one_w _) (by unfold maxLen; omega) (by omega) (by simp; omega) (by decide) ?_; intro g7 c7 w7 hown7 hgrow7; have S7 := hide (And.intro hown7 (grow_own (grow_trans HT.out.1 (World.grownBy_alloc wr (.cells [.int .u32 (m : Int)].toArray 24) none)) (ho.alloc _) hgrow7)); clear hown7 hgrow7)
            go_roundg (n3 - (i + 1))
            case rel => exact ⟨i + 1, c7, _, hin, rfl, by go_num, rfl, _, S7.out.2, S7.out.1, HT.out.2.add (by simpa using ho.1) hmn⟩
            case measure => omega
          · obtain rfl : i = n3 := by omega
            go_wp2_with fail
            go_meet
            case rel =>
              obtain ⟨ss, hg, ho, hA⟩ := HI.out
              exact ⟨ao, i, cap, rfl, by omega, numAt ss, hg, (anch_of ho hA).1, (anch_of ho hA).2⟩
      · go_wp2_with fail
        go_meet
        case rel => exact ⟨none, 0, 0, rfl, by omega, fun _ => 0, grow_refl _, fun i hi => by omega, fun i hi => by omega⟩
    case rest =>
      obtain ⟨wB, rfl⟩ : ∃ wB, wB = wc := ⟨_, rfl⟩
      obtain ⟨ao, Ns, cap, rfl, hNs, HA⟩ := hcut
      have HS2 : ∃ sa : Nat → Nat, Stat wB d ∧ Below base w wB ∧ Anch wB ao Ns sa ∧ ∀ i, i < Ns → sa i < n2 := by
        obtain ⟨sa, hg, ha, hsa⟩ := HA.out
        have hsA : base ≤ wA.heap.size := Nat.le_trans hb HS.out.2.2.size
        exact ⟨sa, HS.out.1.kept ((StFrame.refl base wA).grown hg hsA (by simp)), HS.out.2.2.grown hg hsA (by simp), ha, hsa⟩
      obtain ⟨sa, hS2⟩ := HS2
      have HB := hide hS2
      have HK := hide HS.out.2.1
      clear HS HA hS2 q1
      refine (‹∀ (a : Act) (w : World), Code.wp Ybad.prog _ _ a w → _› : ∀ (a : Act) (w : World), Code.wp Ybad.prog _ _ a w → _) _ _ ?_
      exact tailW d HK.out w wB base Ns cap wl ol ao sa old HB.out.2.2.2 hNs hwl hol h0 h1 hb (Nat.le_trans hb HB.out.2.1.size) HB.out.1 HB.out.2.1 HB.out.2.2.1 _ _ _ _ _ _ _ _ _ _ _ _ _ _ _ _ _ _ _ _ _ _ _ _ _ _ _ _ _ _ _ _ _ _ _ _ _ _ _ _ _ _ _ _ _ _ _ _ _ _ _ _ _ _ _ _ _ _ _ _ _ _ _ _ _ _ _ _ _ _ _ _ _ _ _ _ _ _ _ _ _ _ _ _ _ _ _ _ _ _ _ _ _ _ _ _ _ _ _ _ _ _ _ _ _ _ _ _ _ _ _ _ _ _ _ _ _ _ _ _ _ _ _ _ _ _ _ _ _ _ _ _ _ _ _ _ _ _ _ _ _ _ _ _ _ _ _ _ _ _ _ _ _ _ _ _ _ _ _ _ _ _ _ _ _ _ _ _ _ _ _ _ _ _ _ _ _ _ _ _ _ _ _ _ _ _ _ _ _ _ _ _ _ _ _ _ _ _ _ _ _ _ _ _ _ _ _ _ _ _ _ _ _ _ _ _ _ _ _ _ _ _ _ _ _ _ _ _ _ _ _ _ _ _ _ _ _ _ _ _ _ _ _ _ _ _ _ _ _ _ _ _ _ _ _ _ _ _ _ _ _ _ _ _ _ _ _ _ _ _ _ _ _ _ _ _ _ _ _ _ _ _ _ _ _ _ _ _ _ _ _ _ _ _ _ _ _ _ _ _ _ _ _ _ _ _ _ _ _ _ _ _ _ _ _ _ _ _ _ _ _ _ _ _ _ _ _ _ _ _ _ _ _ _ _ _ _ _ _ _ _ _ _ _ _ _ _ _
end Go.Proofs.YbulktjyDoor
