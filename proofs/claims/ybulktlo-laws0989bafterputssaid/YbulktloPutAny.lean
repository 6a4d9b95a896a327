import Derived.Test.YbulktloKeyStr
namespace Go.Proofs.Ybulktlo
open Go.RowKit Go.WideMaps

theorem put_new {w : World} {kb : Nat} {ks : List ByteArray} (h : KInv w kb ks) (hn : ks.length ≤ 100000) (hall : ∀ s ∈ ks, s.size ≤ maxLen) {q : ByteArray} (hq : q.size ≤ maxLen) (ha : Absent ks ks.length q) (v : Int) :
    Calls Yba.prog 13 #[.pointer (some ⟨kb, 0, none⟩), .string q, .int .i64 v] w fun e w' => e = .returned (.tuple #[]) ∧ KInv w' kb (ks ++ [q]) ∧ Frame kb w w' := by
  obtain ⟨lv, mv, xs, hb, hown, hxs, hm⟩ := h
  rcases hm with rfl | ⟨bm, hbm, rfl, hmap⟩
  · by_cases h16 : ks.length < 16
    · exact put_list hb hown hxs h16 hq ha v
    · exact put_make hb hown hxs (by omega) hn hall hq ha v
  · exact put_map hb hown hxs hbm hmap (by omega) hq ha v

theorem Frame.row {kb : Nat} {w w' : World} (h : Frame kb w w') {base : Nat} {v : Value} {n : Nat} {xs : List Value} (hown : w.ownsRow base 9 1 v n xs) : w'.ownsRow base 9 1 v n xs := by
  refine ⟨hown.1, ?_⟩
  rcases hown.2 with h0 | ⟨g, cap, cur, hv, hb, hh, r⟩
  · exact .inl h0
  · exact .inr ⟨g, cap, cur, hv, hb, h.strs g cur (0, 0) hh, r⟩

theorem KInv.grown {w w' : World} {kb : Nat} {ks : List ByteArray} {row : Option Nat} (h : KInv w kb ks) (hg : w.grownBy w' row) (hr : ∀ k, row = some k → ∃ cur fr, w.heap[k]? = some (.cells cur 9 fr)) : KInv w' kb ks := by
  obtain ⟨lv, mv, xs, hb, hown, hxs, hm⟩ := h
  refine ⟨lv, mv, xs, ?_, hown.kept hg ?_, hxs, ?_⟩
  · rw [hg.block kb (lt_of_block hb) ?_]
    · exact hb
    · intro e
      obtain ⟨cur, fr, hh⟩ := hr kb e.symm
      rw [hb] at hh
      simp at hh
  · cases hv : lv.ownBlock with
    | none => exact .inl rfl
    | some g =>
      right
      intro e
      obtain ⟨cur, fr, hh⟩ := hr g e.symm
      obtain ⟨_, cur', hh'⟩ := own_block hown hv
      rw [hh'] at hh
      simp at hh
  · rcases hm with hm | ⟨bm, hbm, e, hmap⟩
    · exact .inl hm
    · refine .inr ⟨bm, hbm, e, hmap.kept hg ?_⟩
      intro e'
      obtain ⟨cur, fr, hh⟩ := hr bm e'.symm
      obtain ⟨es, clock, hmb, _⟩ := hmap
      rw [hmb] at hh
      simp at hh

theorem KInv.new (w : World) : KInv (w.alloc (.cells #[.slice none 0 0, .map none] 33)) w.heap.size [] :=
  ⟨_, _, [], (MapKept.heap_alloc w _).1, World.ownsRow_nil _ _ _ _, fun i hi => absurd hi (Nat.not_lt_zero i), .inl rfl⟩
end Go.Proofs.Ybulktlo
