import Derived.Test.YbulktloRows
import Derived.WalkKit
import Derived.ProofKit
import Derived.WalkSpells
import Derived.WalkLawsBesides
import Derived.Maps.OwnSet
import Derived.Maps.OwnOps
namespace Go.Proofs.Ybulktlo
open Go.RowKit

/-! ### small laws on worlds -/
theorem hide {p : Prop} (h : p) : Hid p := h
theorem grownBy_setCell (w : World) (a : Addr) (u : Value) : w.grownBy (w.setCell a u) (some a.block) :=
  ⟨rfl, rfl, rfl, by simp [World.setCell], fun k _ hk => Below.heap_setCell _ _ _ _ (fun e => hk (by rw [e]))⟩
theorem grownBy_drew (w : World) : w.grownBy w.drew none := ⟨rfl, rfl, rfl, Nat.le_refl _, fun _ _ _ => rfl⟩

/-- the block of an owned row, and its type -/
theorem own_block {w : World} {base : Nat} {e : TypeId} {size : Nat} {v : Value} {n : Nat} {xs : List Value} (h : w.ownsRow base e size v n xs) {g : Nat} (hg : v.ownBlock = some g) : base ≤ g ∧ ∃ cur, w.heap[g]? = some (.cells cur e (0, 0)) := by
  rcases h.2 with ⟨rfl, _⟩ | ⟨g', cap, cur, rfl, hb, hh, _⟩
  · simp [Value.ownBlock] at hg
  · simp [Value.ownBlock] at hg
    subst hg
    exact ⟨hb, cur, hh⟩

/-- a slice of at least one element that owns its row, written out -/
theorem own_form {w : World} {base : Nat} {e : TypeId} {size : Nat} {v : Value} {n : Nat} {xs : List Value} (h : w.ownsRow base e size v n xs) (hn : 0 < n) : ∃ g cap, v = .slice (some ⟨g, 0, none⟩) n cap := by
  rcases h.2 with ⟨_, rfl⟩ | ⟨g, cap, _, rfl, _⟩
  · omega
  · exact ⟨g, cap, rfl⟩

theorem own_cell {w : World} {base : Nat} {e : TypeId} {size : Nat} {g n cap j : Nat} {xs : List Value} (h : w.ownsRow base e size (.slice (some ⟨g, 0, none⟩) n cap) n xs) (hj : j < n * size) : ∃ v, w.cell? ⟨g, j, none⟩ = some v := by
  refine ⟨xs[j]'(by rw [h.1]; exact hj), ?_⟩
  rw [h.cellAt j hj]
  exact List.getElem?_eq_getElem _

/-- append of at least one element to a slice that owns its row: the new slice written out -/
theorem wpList_append_shape {P : Program} (w : World) {ops : Array Oper} {rest : List Oper} {o : Oper} {a : Act} {Q : Exit → Act → World → Prop} (hgd : o.guard = none) (s x : Operand) (t : TypeId)
    (ho : o.op = .call { callee := .builtin .append, args := #[s, x], argTypes := #[t, t] })
    (base : Nat) (e : TypeId) (i : TypeInfo) (z : Value) (size bytes : Nat) (ht : P.underlying t = some (.slice e)) (hi : P.info? e = some i) (hz : i.zero = some z)
    (hsize : i.size = size) (hby : i.bytes = bytes) (hzs : z.cells.size = size) (hsz : 0 < size)
    (v : Value) (n : Nat) (xs : List Value) (hs : a.eval s = v) (hown : w.ownsRow base e size v n xs)
    (ad : Addr) (m c : Nat) (news : List Value) (hx : a.eval x = .slice (some ad) m c) (hl : news.length = m * size) (hnews : ∀ j u, news[j]? = some u → w.cell? (ad.add j) = some u) (h1 : ∀ u ∈ news, u.oneCell' = true)
    (h63 : n + m ≤ maxLen) (hbytes : (n + m) * bytes ≤ 140737488355328) (hbase : base ≤ w.heap.size) (hm : 0 < m)
    (h : ∀ g cap w', w'.ownsRow base e size (.slice (some ⟨g, 0, none⟩) (n + m) cap) (n + m) (xs ++ news) → w.grownBy w' v.ownBlock → wpList P ops Q rest (a.put o.dst (.slice (some ⟨g, 0, none⟩) (n + m) cap)) w') : wpList P ops Q (o :: rest) a w :=
  wpList_append_own w hgd s x t ho base e i z size bytes ht hi hz hsize hby hzs hsz v n xs hs hown ad m c news hx hl hnews h1 h63 hbytes hbase fun v' w' h2 h3 _ => by
    obtain ⟨g, cap, rfl⟩ := own_form h2 (by omega)
    exact h g cap w' h2 h3

/-- WHAT A METHOD OF keyed LEAVES ALONE: all blocks below kb, and every row of strings. -/
structure Frame (kb : Nat) (w w' : World) : Prop where
  below : Below kb w w'
  strs : ∀ (k : Nat) (cur : Array Value) (fr : Nat × Nat), w.heap[k]? = some (.cells cur 9 fr) → w'.heap[k]? = some (.cells cur 9 fr)

theorem Frame.refl (kb : Nat) (w : World) : Frame kb w w := ⟨Below.refl _ _, fun _ _ _ h => h⟩
theorem Frame.trans {kb : Nat} {a b c : World} (h : Frame kb a b) (k : Frame kb b c) : Frame kb a c := ⟨h.below.trans k.below, fun i cur fr hi => k.strs i cur fr (h.strs i cur fr hi)⟩
theorem Frame.grown {kb : Nat} {a w w' : World} {row : Option Nat} (h : Frame kb a w) (hg : w.grownBy w' row) (hs : kb ≤ w.heap.size) (hr : ∀ k, row = some k → kb ≤ k ∧ ∀ cur fr, w.heap[k]? ≠ some (.cells cur 9 fr)) : Frame kb a w' :=
  h.trans ⟨(Below.refl _ _).grown hg hs (fun k e => (hr k e).1), fun k cur fr hk => by
    rw [hg.block k (lt_of_block hk) (fun e => (hr k e.symm).2 cur fr hk)]; exact hk⟩
theorem Frame.alloc {kb : Nat} {a w : World} (h : Frame kb a w) (hs : kb ≤ w.heap.size) (o : Obj) : Frame kb a (w.alloc o) := h.grown (World.grownBy_alloc w o none) hs (by simp)
theorem Frame.drew {kb : Nat} {a w : World} (h : Frame kb a w) : Frame kb a w.drew := ⟨h.below.drew, h.strs⟩

/-- a block of two cells, one of them stored into -/
theorem two_store0 {w : World} {b : Nat} {x y u : Value} {t : TypeId} (h : w.heap[b]? = some (.cells #[x, y] t (0, 0))) : (w.setCell ⟨b, 0, none⟩ u).heap[b]? = some (.cells #[u, y] t (0, 0)) := by
  rw [heap_setCell_same w b 0 _ t u h]; rfl
theorem two_store1 {w : World} {b : Nat} {x y u : Value} {t : TypeId} (h : w.heap[b]? = some (.cells #[x, y] t (0, 0))) : (w.setCell ⟨b, 1, none⟩ u).heap[b]? = some (.cells #[x, u] t (0, 0)) := by
  rw [heap_setCell_same w b 1 _ t u h]; rfl
theorem two_cell0 {w : World} {b : Nat} {x y : Value} {t : TypeId} {fr : Nat × Nat} (h : w.heap[b]? = some (.cells #[x, y] t fr)) : w.cell? ⟨b, 0, none⟩ = some x := by
  rw [cell_of_row w b 0 _ t fr h]; rfl
theorem two_cell1 {w : World} {b : Nat} {x y : Value} {t : TypeId} {fr : Nat × Nat} (h : w.heap[b]? = some (.cells #[x, y] t fr)) : w.cell? ⟨b, 1, none⟩ = some y := by
  rw [cell_of_row w b 1 _ t fr h]; rfl
theorem two_free {w : World} {b : Nat} {cs : Array Value} {t : TypeId} (h : w.heap[b]? = some (.cells cs t (0, 0))) (o : Nat) : w.frozen? ⟨b, o, none⟩ = false := frozen_of_row w b o cs t h
end Go.Proofs.Ybulktlo
