import Derived.Test.YbulktjyRows
import Derived.WalkKit
import Derived.ProofKit
import Derived.Laws.Tables
import Derived.LaidEqlPtr
namespace Go.Proofs.Ybulktjy
open Go.RowKit

/-! The folding of a trie is a block of some 4,400 cells: its cells are kept behind a letter. -/
theorem fold_some : (Program.built Yba.prog 57 [(0, .int .u8 1)]).isSome = true := by kernel_rfl
theorem fold_ex : ∃ cs, Hid (Program.built Yba.prog 57 [(0, .int .u8 1)] = some cs) := Option.isSome_iff_exists.1 fold_some

theorem wpList_fold {ops : Array Oper} {rest : List Oper} {o : Oper} {a : Act} {w : World} {Q : Exit → Act → World → Prop} (cs : Array Value) (hcs : Hid (Program.built Yba.prog 57 [(0, .int .u8 1)] = some cs))
    (hgd : o.guard = none) (ho : o.op = .build 57 #[(0, .const (.int .u8 1))]) (h : wpList Yba.prog ops Q rest (a.put o.dst (.agg cs)) w) : wpList Yba.prog ops Q (o :: rest) a w := by
  have e : (#[(0, Operand.const (.int .u8 1))].map fun (x : Nat × Operand) => (x.1, a.eval x.2)).toList = [(0, .int .u8 1)] := by simp [Act.eval]
  refine wpList_build hgd 57 _ ho ?_ ?_
  · rw [e, hcs.out]; rfl
  · rw [e, hcs.out]; exact h

/-! (*trie).sizeReading, at a trie that does not fold and at one that does. -/
theorem reads_nil (b : Nat) (w : World) (h : w.cell? ⟨b, 7, none⟩ = some (.pointer none)) (hb : b < w.heap.size) :
    Calls Yba.prog 6 #[.pointer (some ⟨b, 0, none⟩)] w fun e w' => e = .returned (.agg #[.int .u32 0, .int .u32 0]) ∧ w' = w.alloc (.cells #[.int .u32 0, .int .u32 0] 28) := by
  go_enter Yba.func6, Yba.ntmps6
  go_wp2
  exact bodyPost_ret (v := .agg #[.int .u32 0, .int .u32 0]) (by simp [results, Yba.results6, go_sem]) rfl ⟨rfl, rfl⟩
theorem reads_some (b : Nat) (w : World) (p : Addr) (h : w.cell? ⟨b, 7, none⟩ = some (.pointer (some p))) (hb : b < w.heap.size) :
    Calls Yba.prog 6 #[.pointer (some ⟨b, 0, none⟩)] w fun e w' => e = .returned (.agg #[.int .u32 16, .int .u32 65535]) ∧ w' = w.alloc (.cells #[.int .u32 16, .int .u32 65535] 28) := by
  go_enter Yba.func6, Yba.ntmps6
  go_wp2
  exact bodyPost_ret (v := .agg #[.int .u32 16, .int .u32 65535]) (by simp [results, Yba.results6, go_sem]) rfl ⟨rfl, rfl⟩

/-! A pointer to a folding is equal to itself. -/
theorem info57_some : (Yba.prog.info? 57).isSome = true := by kernel_rfl
theorem same_ptr (a : Addr) (w : World) : (binOp .eql 34 (.pointer (some a)) (.pointer (some a))).run Yba.prog w = .ok (.bool true) w := by
  obtain ⟨j, hj⟩ := Option.isSome_iff_exists.1 info57_some
  exact run_eql_ptr_same w a Yba.underlying34 hj

end Go.Proofs.Ybulktjy
