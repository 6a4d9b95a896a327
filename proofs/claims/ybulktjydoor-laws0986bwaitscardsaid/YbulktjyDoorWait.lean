import Derived.Test.YbulktjyDoorRun
import Derived.Test.YbulktjyDoorPlain
import Derived.Deep.RegionLaw
namespace Go.Proofs.YbulktjyDoor
open Go.RowKit

/-- THE STANDING DATA: the trie, the links and what they lead to -/
structure SD where
  tb : Nat
  gn : Nat
  ge : Nat
  lb : Nat
  pb : Nat
  gc : Nat
  ga : Nat
  tcs : Array Value
  ncs : Array Value
  ecs : Array Value
  lcs : Array Value
  pcs : Array Value
  ccs : Array Value
  acs : Array Value

structure Stat (w : World) (d : SD) : Prop where
  t : w.heap[d.tb]? = some (.cells d.tcs 63 (0, 0))
  n : w.heap[d.gn]? = some (.cells d.ncs 88 (0, 0))
  e : w.heap[d.ge]? = some (.cells d.ecs 21 (0, 0))
  l : w.heap[d.lb]? = some (.cells d.lcs 49 (0, 0))
  p : w.heap[d.pb]? = some (.cells d.pcs 30 (0, 0))
  c : w.heap[d.gc]? = some (.cells d.ccs 51 (0, 0))
  a : w.heap[d.ga]? = some (.cells d.acs 66 (0, 0))

theorem Stat.kept {w w' : World} {d : SD} {base : Nat} (h : Stat w d) (hf : StFrame base w w') : Stat w' d :=
  ⟨hf.kept _ _ _ _ h.t (by decide) (by decide) (by decide), hf.kept _ _ _ _ h.n (by decide) (by decide) (by decide), hf.kept _ _ _ _ h.e (by decide) (by decide) (by decide), hf.kept _ _ _ _ h.l (by decide) (by decide) (by decide),
   hf.kept _ _ _ _ h.p (by decide) (by decide) (by decide), hf.kept _ _ _ _ h.c (by decide) (by decide) (by decide), hf.kept _ _ _ _ h.a (by decide) (by decide) (by decide)⟩

/-- what the standing data hold: N nodes, E edges, A anchors -/
structure Holds (d : SD) (N E A : Nat) (fst cnt ch nd : Nat → Nat) : Prop where
  t0 : ∃ c, d.tcs[0]? = some (.slice (some ⟨d.gn, 0, none⟩) N c)
  t1 : ∃ c, d.tcs[1]? = some (.slice (some ⟨d.ge, 0, none⟩) E c)
  n0 : ∀ v, v < N → d.ncs[v * 4]? = some (.int .u32 (fst v : Nat)) ∧ d.ncs[v * 4 + 1]? = some (.int .u32 (cnt v : Nat)) ∧ (∃ x, d.ncs[v * 4 + 2]? = some (.int .u32 x)) ∧ ∃ y, d.ncs[v * 4 + 3]? = some (.int .u32 y)
  e0 : ∀ i, i < E → d.ecs[i]? = some (.int .i32 (ch i : Nat))
  l1 : ∃ c, d.lcs[1]? = some (.slice (some ⟨d.ga, 0, none⟩) A c)
  l8 : d.lcs[8]? = some (.pointer (some ⟨d.pb, 0, none⟩))
  l26 : d.lcs[26]? = some (.slice (some ⟨d.gc, 0, none⟩) 2 2)
  p0 : d.pcs[0]? = some (.int .u16 1)
  p1 : d.pcs[1]? = some (.int .u16 0)
  c0 : d.ccs[0]? = some (.int .u64 0)
  c1 : d.ccs[1]? = some (.int .u32 0)
  c2 : d.ccs[2]? = some (.int .u64 277600916209664)
  c3 : d.ccs[3]? = some (.int .u32 0)
  a0 : ∀ i, i < A → d.acs[i * 9]? = some (.int .u32 (nd i : Nat))
  hN : N ≤ 64
  hE : E ≤ 63
  hA : A ≤ 256
  bd : ∀ v, v < N → fst v + cnt v ≤ E ∧ cnt v ≤ 3
  tb : ∀ i, i < E → ch i ∈ tab
  an : ∀ i, i < A → nd i < N

theorem Stat.kinds {w : World} {d : SD} {N E A : Nat} {fst cnt ch nd : Nat → Nat} (h : Stat w d) (k : Holds d N E A fst cnt ch nd) : Kinds w d.lb d.pb d.gc :=
  ⟨by rw [cell_of_row w _ 8 _ 49 (0, 0) h.l]; exact k.l8, by rw [cell_of_row w _ 26 _ 49 (0, 0) h.l]; exact k.l26, by rw [cell_of_row w _ 0 _ 30 (0, 0) h.p]; exact k.p0, by rw [cell_of_row w _ 1 _ 30 (0, 0) h.p]; exact k.p1,
   by rw [cell_of_row w _ 0 _ 51 (0, 0) h.c]; exact k.c0, by rw [cell_of_row w _ 1 _ 51 (0, 0) h.c]; exact k.c1, by rw [cell_of_row w _ 2 _ 51 (0, 0) h.c]; exact k.c2, by rw [cell_of_row w _ 3 _ 51 (0, 0) h.c]; exact k.c3⟩

/-- the waiters as cells -/
def waitV (W : List (Nat × Int)) : List Value := W.flatMap fun x => [.int .u32 (x.1 : Nat), .int .i32 x.2]
theorem waitV_snoc (W : List (Nat × Int)) (u : Nat) (x : Int) : waitV W ++ [.int .u32 (u : Nat), .int .i32 x] = waitV (W ++ [(u, x)]) := by simp [waitV]
theorem waitV_len (W : List (Nat × Int)) : (waitV W).length = W.length * 2 := by
  induction W with
  | nil => rfl
  | cons x r ih => simp only [waitV, List.flatMap_cons, List.length_append, List.length_cons, List.length_nil] at *; omega

/-- THE RUN SET IN THE MIDST OF STREAMING: its waiters and each kind's last are S -/
def SInv (w : World) (sb base : Nat) (an exv : Value) (ns : Int) (gw n cw : Nat) (S : St) : Prop :=
  ∃ ao cap xs, RSet w sb base an exv (.slice ao S.1.length cap) true ns gw n cw xs ∧ Ent xs n ns S.2 ∧ w.ownsRow base 72 2 (.slice ao S.1.length cap) S.1.length (waitV S.1)

theorem info72 : (Ybad.prog.info? 72).map (fun i => (i.zero, i.size, i.bytes)) = some (some (.agg #[.int .u32 0, .int .i32 0]), 2, 8) := by kernel_rfl

/-- append to an owned row, as one step of a region that draws -/
theorem step_append_shape {P : Program} {ops : Array Oper} {o : Oper} {a : Act} {w : World} {K : Act → World → Prop} {Q : Exit → Act → World → Prop} {F : Prop}
    (hgd : o.guard = none) (s x : Operand) (t : TypeId)
    (ho : o.op = .call { callee := .builtin .append, args := #[s, x], argTypes := #[t, t] })
    (base : Nat) (e : TypeId) (i : TypeInfo) (z : Value) (size bytes : Nat) (ht : P.underlying t = some (.slice e)) (hi : P.info? e = some i) (hz : i.zero = some z)
    (hsize : i.size = size) (hby : i.bytes = bytes) (hzs : z.cells.size = size) (hsz : 0 < size)
    (v : Value) (n : Nat) (xs : List Value) (hs : a.eval s = v) (hown : w.ownsRow base e size v n xs)
    (ad : Addr) (m c : Nat) (news : List Value) (hx : a.eval x = .slice (some ad) m c) (hl : news.length = m * size) (hnews : ∀ j u, news[j]? = some u → w.cell? (ad.add j) = some u) (h1 : ∀ u ∈ news, u.oneCell' = true)
    (h63 : n + m ≤ maxLen) (hbytes : (n + m) * bytes ≤ 140737488355328) (hbase : base ≤ w.heap.size) (hm : 0 < m)
    (h : ∀ g cap w', w'.ownsRow base e size (.slice (some ⟨g, 0, none⟩) (n + m) cap) (n + m) (xs ++ news) → w.grownBy w' v.ownBlock → K (a.put o.dst (.slice (some ⟨g, 0, none⟩) (n + m) cap)) w') :
    if Region.wanted o (yielded ops a.tmps) = true then Oper.wp P o a w K Q else F := by
  have hw : Region.wanted o (yielded ops a.tmps) = true := by simp [Region.wanted, hgd]
  rw [if_pos hw]
  refine wp_append_own w s x t ho base e i z size bytes ht hi hz hsize hby hzs hsz v n xs hs hown ad m c news hx hl hnews h1 h63 hbytes hbase fun v' w' h2 h3 _ => ?_
  obtain ⟨g, cap, rfl⟩ := own_form h2 (by omega)
  exact h g cap w' h2 h3
end Go.Proofs.YbulktjyDoor
