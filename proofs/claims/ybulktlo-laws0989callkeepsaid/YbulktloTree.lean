import Derived.Test.YbulktloRows
import Derived.WalkKit
import Derived.ProofKit
import Derived.WalkSpells
import Derived.WalkLawsBesides
import Derived.Laws.BitsAllLaws
import Derived.Test.YbulktloPlain
namespace Go.Proofs.Ybulktlo
open Go.RowKit

/-! (zzs0989cv).sum, and resum at the four shapes of a node. -/
theorem sum_any (k m : Int) (w : World) :
    Calls Yba.prog 24 #[.agg #[.int .i64 k, .int .u64 m]] w fun e w' => e = .returned (.int .u64 m) ∧ w' = w.alloc (.cells #[.int .i64 k, .int .u64 m] 47) := by
  go_enter Yba.func24, Yba.ntmps24
  go_wp2
  go_ret
  exact ⟨rfl, rfl⟩

theorem resum_nn (b : Nat) (own : Int) (w : World) (h0 : w.cell? ⟨b, 0, none⟩ = some (.pointer none)) (h1 : w.cell? ⟨b, 1, none⟩ = some (.pointer none)) (h5 : w.cell? ⟨b, 5, none⟩ = some (.int .u64 own)) (v6 : Value) (h6 : w.cell? ⟨b, 6, none⟩ = some v6) (hf : w.frozen? ⟨b, 6, none⟩ = false) :
    Calls Yba.prog 25 #[.pointer (some ⟨b, 0, none⟩)] w fun e w' => e = .returned (.tuple #[]) ∧ w' = w.setCell ⟨b, 6, none⟩ (.int .u64 own) := by
  go_enter Yba.func25, Yba.ntmps25
  go_wp2_with fail
  first | go_end0 | refine bodyPost_ret (results_none rfl _ _ _) rfl ?_
  exact ⟨rfl, rfl⟩

theorem add_any (L M : Int) (w : World) : Calls Yba.prog 41 #[.int .u64 L, .int .u64 M] w fun e w' => e = .returned (.int .u64 (bits .or .u64 L M)) ∧ w' = w := by
  go_enter Yba.func41, Yba.ntmps41
  go_wp2
  go_ret
  exact ⟨rfl, rfl⟩

/-- the call of 'add' through the interface: its one method, by the program's tables -/
theorem wpList_add {ops : Array Oper} {rest : List Oper} {o : Oper} {a : Act} {w : World} {Q : Exit → Act → World → Prop} (hg : o.guard = none) (x y : Operand) {nm : String}
    (ho : o.op = .call { callee := .invoke x nm, args := #[y], argTypes := #[48] }) (L M : Int) (hx : a.eval x = .iface 48 (.int .u64 L)) (hy : a.eval y = .int .u64 M)
    (hm : (callMethod (.iface 48 (.int .u64 L)) nm #[.int .u64 M]).run Yba.prog w = .ok (.enter 41 #[.int .u64 L, .int .u64 M]) w)
    (h : wpList Yba.prog ops Q rest (a.put o.dst (.int .u64 (bits .or .u64 L M))) w) : wpList Yba.prog ops Q (o :: rest) a w := by
  refine wpList_plain hg fun K hK => ?_
  unfold Oper.wp
  have hr : (execOp a.eval o).run Yba.prog w = .ok (.enter 41 #[.int .u64 L, .int .u64 M]) w := by
    simp [execOp, ho, resolve, invoke, hx, hy, hm]
  rw [hr, Oper.upon_enter]
  refine (add_any L M w).mono ?_
  rintro e w' ⟨rfl, rfl⟩
  exact hK _ _ h

theorem resum_ln (b bl : Nat) (own L : Int) (w : World) (h0 : w.cell? ⟨b, 0, none⟩ = some (.pointer (some ⟨bl, 0, none⟩))) (h1 : w.cell? ⟨b, 1, none⟩ = some (.pointer none)) (h5 : w.cell? ⟨b, 5, none⟩ = some (.int .u64 own)) (v6 : Value) (h6 : w.cell? ⟨b, 6, none⟩ = some v6) (hf : w.frozen? ⟨b, 6, none⟩ = false)
    (hl : w.cell? ⟨bl, 6, none⟩ = some (.int .u64 L)) :
    Calls Yba.prog 25 #[.pointer (some ⟨b, 0, none⟩)] w fun e w' => e = .returned (.tuple #[]) ∧ w' = w.setCell ⟨b, 6, none⟩ (.int .u64 (bits .or .u64 L own)) := by
  go_enter Yba.func25, Yba.ntmps25
  go_wp2_with (refine wpList_add rfl _ _ rfl _ _ rfl rfl (by kernel_rfl) ?_)
  first | go_end0 | refine bodyPost_ret (results_none rfl _ _ _) rfl ?_
  exact ⟨rfl, rfl⟩

theorem resum_nr (b br : Nat) (own R : Int) (w : World) (h0 : w.cell? ⟨b, 0, none⟩ = some (.pointer none)) (h1 : w.cell? ⟨b, 1, none⟩ = some (.pointer (some ⟨br, 0, none⟩))) (h5 : w.cell? ⟨b, 5, none⟩ = some (.int .u64 own)) (v6 : Value) (h6 : w.cell? ⟨b, 6, none⟩ = some v6) (hf : w.frozen? ⟨b, 6, none⟩ = false)
    (hr : w.cell? ⟨br, 6, none⟩ = some (.int .u64 R)) :
    Calls Yba.prog 25 #[.pointer (some ⟨b, 0, none⟩)] w fun e w' => e = .returned (.tuple #[]) ∧ w' = w.setCell ⟨b, 6, none⟩ (.int .u64 (bits .or .u64 own R)) := by
  go_enter Yba.func25, Yba.ntmps25
  go_wp2_with (refine wpList_add rfl _ _ rfl _ _ rfl rfl (by kernel_rfl) ?_)
  first | go_end0 | refine bodyPost_ret (results_none rfl _ _ _) rfl ?_
  exact ⟨rfl, rfl⟩

theorem resum_lr (b bl br : Nat) (own L R : Int) (w : World) (h0 : w.cell? ⟨b, 0, none⟩ = some (.pointer (some ⟨bl, 0, none⟩))) (h1 : w.cell? ⟨b, 1, none⟩ = some (.pointer (some ⟨br, 0, none⟩))) (h5 : w.cell? ⟨b, 5, none⟩ = some (.int .u64 own)) (v6 : Value) (h6 : w.cell? ⟨b, 6, none⟩ = some v6) (hf : w.frozen? ⟨b, 6, none⟩ = false)
    (hl : w.cell? ⟨bl, 6, none⟩ = some (.int .u64 L)) (hr : w.cell? ⟨br, 6, none⟩ = some (.int .u64 R)) :
    Calls Yba.prog 25 #[.pointer (some ⟨b, 0, none⟩)] w fun e w' => e = .returned (.tuple #[]) ∧ w' = w.setCell ⟨b, 6, none⟩ (.int .u64 (bits .or .u64 (bits .or .u64 L own) R)) := by
  go_enter Yba.func25, Yba.ntmps25
  go_wp2_with (refine wpList_add rfl _ _ rfl _ _ rfl rfl (by kernel_rfl) ?_)
  first | go_end0 | refine bodyPost_ret (results_none rfl _ _ _) rfl ?_
  exact ⟨rfl, rfl⟩

/-- a child's sum: none, and 0; or the cell 6 of its block -/
def Child (w : World) (p : Option Addr) (S : Nat) : Prop := (p = none ∧ S = 0) ∨ ∃ b, p = some ⟨b, 0, none⟩ ∧ w.cell? ⟨b, 6, none⟩ = some (.int .u64 S)

theorem or_nat {a b : Nat} (ha : a < 256) (hb : b < 256) : bits .or .u64 (a : Int) (b : Int) = ((a ||| b : Nat) : Int) := u64_or_nat a b (by omega) (by omega)
theorem or_lt {a b : Nat} (ha : a < 256) (hb : b < 256) : a ||| b < 256 := Nat.or_lt_two_pow (n := 8) ha hb

theorem resum_any (b : Nat) (pl pr : Option Addr) (own L R : Nat) (ho : own < 256) (hL : L < 256) (hR : R < 256) (w : World) (h0 : w.cell? ⟨b, 0, none⟩ = some (.pointer pl)) (h1 : w.cell? ⟨b, 1, none⟩ = some (.pointer pr)) (h5 : w.cell? ⟨b, 5, none⟩ = some (.int .u64 own)) (v6 : Value) (h6 : w.cell? ⟨b, 6, none⟩ = some v6) (hf : w.frozen? ⟨b, 6, none⟩ = false)
    (hl : Child w pl L) (hr : Child w pr R) :
    Calls Yba.prog 25 #[.pointer (some ⟨b, 0, none⟩)] w fun e w' => e = .returned (.tuple #[]) ∧ w' = w.setCell ⟨b, 6, none⟩ (.int .u64 (((L ||| own) ||| R : Nat) : Int)) := by
  rcases hl with ⟨rfl, rfl⟩ | ⟨bl, rfl, hl⟩ <;> rcases hr with ⟨rfl, rfl⟩ | ⟨br, rfl, hr⟩
  · simpa using resum_nn b own w h0 h1 h5 v6 h6 hf
  · have := resum_nr b br own R w h0 h1 h5 v6 h6 hf hr
    rw [or_nat ho hR] at this
    simpa using this
  · have := resum_ln b bl own L w h0 h1 h5 v6 h6 hf hl
    rw [or_nat hL ho] at this
    simpa using this
  · have := resum_lr b bl br own L R w h0 h1 h5 v6 h6 hf hl hr
    rw [or_nat hL ho, or_nat (or_lt hL ho) hR] at this
    exact this

/-! ### a tree in memory -/
/-- the cells of a node -/
def nodeCells (l r : Option Addr) (k m S : Nat) : Array Value := #[.pointer l, .pointer r, .int .u64 0, .int .i64 k, .int .u64 m, .int .u64 m, .int .u64 S]

/-- THE TREE AT p (d: a bound on its depth) HOLDS THE n PLACES FROM lo ON, in order; its blocks lie from base on, below top; each sum is the 'or' of its masks. -/
def TreeAt (w : World) (base top : Nat) (ms : Nat → Nat) : Nat → Option Addr → Nat → Nat → Prop
  | 0, p, _, n => p = none ∧ n = 0
  | d + 1, p, lo, n => (p = none ∧ n = 0) ∨ ∃ b l r a c, p = some ⟨b, 0, none⟩ ∧ base ≤ b ∧ b < top ∧ n = a + 1 + c ∧ w.heap[b]? = some (.cells (nodeCells l r (lo + a) (ms (lo + a)) (orN ms lo n)) 62 (0, 0)) ∧
      TreeAt w base top ms d l lo a ∧ TreeAt w base top ms d r (lo + a + 1) c

theorem TreeAt.kept {w w' : World} {base top base' top' : Nat} {ms : Nat → Nat} (hk : ∀ (b : Nat), base ≤ b → b < top → w'.heap[b]? = w.heap[b]?) (h1 : base' ≤ base) (h2 : top ≤ top') :
    ∀ (d : Nat) (p : Option Addr) (lo n : Nat), TreeAt w base top ms d p lo n → TreeAt w' base' top' ms d p lo n
  | 0, _, _, _, h => h
  | d + 1, p, lo, n, h => by
    rcases h with h | ⟨b, l, r, a, c, rfl, hb, ht, hn, hh, hl, hr⟩
    · exact .inl h
    · exact .inr ⟨b, l, r, a, c, rfl, by omega, by omega, hn, by rw [hk b hb ht]; exact hh, TreeAt.kept hk h1 h2 d l lo a hl, TreeAt.kept hk h1 h2 d r _ c hr⟩

theorem TreeAt.child {w : World} {base top : Nat} {ms : Nat → Nat} : ∀ {d : Nat} {p : Option Addr} {lo n : Nat}, TreeAt w base top ms d p lo n → Child w p (orN ms lo n)
  | 0, _, _, _, h => .inl ⟨h.1, by rw [h.2]; rfl⟩
  | d + 1, p, lo, n, h => by
    rcases h with ⟨h, rfl⟩ | ⟨b, l, r, a, c, rfl, hb, ht, hn, hh, hl, hr⟩
    · exact .inl ⟨h, rfl⟩
    · refine .inr ⟨b, rfl, ?_⟩
      rw [cell_of_row w b 6 _ 62 (0, 0) hh]
      rfl

theorem TreeAt.deeper {w : World} {base top : Nat} {ms : Nat → Nat} : ∀ {d e : Nat} {p : Option Addr} {lo n : Nat}, TreeAt w base top ms d p lo n → d ≤ e → TreeAt w base top ms e p lo n
  | 0, 0, _, _, _, h, _ => h
  | 0, e + 1, _, _, _, h, _ => .inl h
  | d + 1, 0, _, _, _, _, he => absurd he (by omega)
  | d + 1, e + 1, p, lo, n, h, he => by
    rcases h with h | ⟨b, l, r, a, c, rfl, hb, ht, hn, hh, hl, hr⟩
    · exact .inl h
    · exact .inr ⟨b, l, r, a, c, rfl, hb, ht, hn, hh, hl.deeper (by omega), hr.deeper (by omega)⟩
end Go.Proofs.Ybulktlo
