import Derived.Test.YbulktjyDoorLeaf
import Derived.RegionTactic
namespace Go.Proofs.YbulktjyDoor
open Go.RowKit
theorem hide {p : Prop} (h : p) : Hid p := h

/-- THE SET OF KINDS at the links' block lb: one plane's table (block pb), two blocks of characters (row gc). -/
structure Kinds (w : World) (lb pb gc : Nat) : Prop where
  p0 : w.cell? ⟨lb, 8, none⟩ = some (.pointer (some ⟨pb, 0, none⟩))
  bl : w.cell? ⟨lb, 26, none⟩ = some (.slice (some ⟨gc, 0, none⟩) 2 2)
  b0 : w.cell? ⟨pb, 0, none⟩ = some (.int .u16 1)
  b1 : w.cell? ⟨pb, 1, none⟩ = some (.int .u16 0)
  c0 : w.cell? ⟨gc, 0, none⟩ = some (.int .u64 0)
  c1 : w.cell? ⟨gc, 1, none⟩ = some (.int .u32 0)
  c2 : w.cell? ⟨gc, 2, none⟩ = some (.int .u64 277600916209664)
  c3 : w.cell? ⟨gc, 3, none⟩ = some (.int .u32 0)

theorem Kinds.drawn {w : World} {lb pb gc : Nat} (h : Kinds w lb pb gc) (n : Nat) : Kinds (w.drewN n) lb pb gc := ⟨h.p0, h.bl, h.b0, h.b1, h.c0, h.c1, h.c2, h.c3⟩

theorem two_cells {w : World} {b : Nat} {x y : Value} {t : TypeId} {fr : Nat × Nat} (h : w.heap[b]? = some (.cells #[x, y] t fr)) : w.cell? ⟨b, 0, none⟩ = some x ∧ w.cell? ⟨b, 1, none⟩ = some y :=
  ⟨by rw [cell_of_row w b 0 _ t fr h]; rfl, by rw [cell_of_row w b 1 _ t fr h]; rfl⟩

set_option maxHeartbeats 1000000 in
theorem len_any (lb pb gc : Nat) (w : World) (h : Kinds w lb pb gc) (hb : lb < w.heap.size) (hg : gc < w.heap.size) : Calls Ybad.prog 10 #[.pointer (some ⟨lb, 8, none⟩)] w fun e w' => e = .returned (.int .i64 11) ∧ ∃ n, w' = (w.alloc (.cells #[.int .u64 277600916209664, .int .u32 0] 51)).drewN n := by
  obtain ⟨p0, bl, b0, b1, c0, c1, c2, c3⟩ := h
  clear p0 b0 b1 c0 c1
  go_enter Ybad.func10, Ybad.ntmps10
  go_wp2_with fail
  go_region
  go_wp2_with fail
  have hn : (w.alloc (.cells #[.int .u64 277600916209664, .int .u32 0] 51)).drew.heap[w.heap.size]? = some (.cells #[.int .u64 277600916209664, .int .u32 0] 51 (0, 0)) := (MapKept.heap_alloc w _).1
  have hw : (w.alloc (.cells #[.int .u64 277600916209664, .int .u32 0] 51)).drew = (w.alloc (.cells #[.int .u64 277600916209664, .int .u32 0] 51)).drewN 1 := rfl
  have HW := hide hw
  clear hw
  generalize (w.alloc (.cells #[.int .u64 277600916209664, .int .u32 0] 51)).drew = w5 at hn HW ⊢
  obtain ⟨d0, d1⟩ := two_cells hn
  clear hn bl c2 c3
  go_quiet ((go_at_call 14; exact Calls.quiet_of_same (ones_any _ _)))
  go_wp2_with fail
  go_ret
  refine ⟨by kernel_rfl, 1 + nq, ?_⟩
  rw [HW.out, World.drewN_drewN]

theorem ret_pair {a b : Int} {x y : Bool} (h : a = b) (g : x = y) : Ending.returned (.tuple #[.int .i64 a, .bool x]) = .returned (.tuple #[.int .i64 b, .bool y]) := by rw [h, g]

/-- what index gives: of no use where the character is no noise -/
def iN (c : Nat) : Int := if kB c then (kN c : Nat) else if 64 ≤ c then 0 else 11

set_option maxHeartbeats 4000000 in
theorem index_any (lb pb gc : Nat) (w : World) (h : Kinds w lb pb gc) (c : Nat) (hc : c ∈ tab) : Calls Ybad.prog 15 #[.pointer (some ⟨lb, 8, none⟩), .int .i32 (c : Int)] w fun e w' => e = .returned (.tuple #[.int .i64 (iN c), .bool (kB c)]) ∧ ∃ n, w' = w.drewN n := by
  have HK := hide h
  obtain ⟨p0, bl, b0, b1, c0, c1, c2, c3⟩ := h
  simp only [tab, List.mem_cons, List.not_mem_nil, or_false] at hc
  rcases hc with rfl | rfl | rfl | rfl | rfl | rfl | rfl | rfl | rfl | rfl | rfl | rfl | rfl | rfl | rfl | rfl
  all_goals
    go_enter Ybad.func15, Ybad.ntmps15
    go_wp2_with fail
    go_quiet (fail)
    clear p0 bl b0 b1 c0 c1 c2 c3
    have h5 := HK.out.drawn nq
    obtain ⟨w5, hw5⟩ : ∃ w5, w5 = w.drewN nq := ⟨_, rfl⟩
    rw [← hw5] at h5 ⊢
    have HW := hide hw5
    clear hw5 HK
    obtain ⟨p0, bl, b0, b1, c0, c1, c2, c3⟩ := h5
    clear p0 bl b0 b1
    go_wp2_with fail
    go_quiet ((go_at_call 14; exact Calls.quiet_of_same (ones_any _ _)))
    go_wp2_with fail
    go_ret2
    exact ⟨ret_pair (by kernel_rfl) (by kernel_rfl), _, (by rw [HW.out, World.drewN_drewN] : _ = w.drewN _)⟩

theorem index_quiet {lb pb gc : Nat} {w : World} (h : Kinds w lb pb gc) {c : Nat} (hc : c ∈ tab) (n : Nat) : Calls Ybad.prog 15 #[.pointer (some ⟨lb, 8, none⟩), .int .i32 (c : Int)] (w.drewN n) fun e w' => e = .returned (.tuple #[.int .i64 (iN c), .bool (kB c)]) ∧ ∃ m, w' = w.drewN m :=
  (index_any lb pb gc _ (h.drawn n) c hc).mono fun _ _ ⟨he, m, hm⟩ => ⟨he, n + m, by rw [hm, World.drewN_drewN]⟩

theorem iN_noise {c : Nat} (hc : c ∈ tab) (h : kB c = true) : iN c = ((kN c : Nat) : Int) ∧ kN c < 11 := by
  simp only [tab, List.mem_cons, List.not_mem_nil, or_false] at hc
  rcases hc with rfl | rfl | rfl | rfl | rfl | rfl | rfl | rfl | rfl | rfl | rfl | rfl | rfl | rfl | rfl | rfl <;> first | exact ⟨by decide, by decide⟩ | exact absurd h (by decide)
end Go.Proofs.YbulktjyDoor
