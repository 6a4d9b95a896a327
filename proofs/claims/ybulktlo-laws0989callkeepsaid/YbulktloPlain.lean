/-! Plain lists and numbers for the two laws over the treap: no Go in sight. -/
namespace Go.Proofs.Ybulktlo

/-- the 'or' of n masks from place lo on -/
def orN (ms : Nat → Nat) : Nat → Nat → Nat
  | _, 0 => 0
  | lo, n + 1 => ms lo ||| orN ms (lo + 1) n

theorem orN_split (ms : Nat → Nat) : ∀ (a lo c : Nat), orN ms lo (a + 1 + c) = (orN ms lo a ||| ms (lo + a)) ||| orN ms (lo + a + 1) c
  | 0, lo, c => by
    rw [show 0 + 1 + c = c + 1 by omega]
    simp [orN]
  | a + 1, lo, c => by
    rw [show a + 1 + 1 + c = (a + 1 + c) + 1 by omega]
    simp only [orN]
    rw [orN_split ms a (lo + 1) c, show lo + 1 + a = lo + (a + 1) by omega]
    simp only [Nat.or_assoc]

theorem orN_lt (ms : Nat → Nat) (h : ∀ i, ms i < 256) : ∀ (n lo : Nat), orN ms lo n < 256
  | 0, _ => by simp [orN]
  | n + 1, lo => by
    unfold orN
    exact Nat.or_lt_two_pow (n := 8) (h lo) (orN_lt ms h n (lo + 1))

/-- a test that holds of an 'or' just if it holds of a part -/
def Good (kp : Nat → Bool) : Prop := kp 0 = false ∧ ∀ a b, kp (a ||| b) = (kp a || kp b)

/-- the places, from lo on, whose mask the test holds for -/
def sel (kp : Nat → Bool) (ms : Nat → Nat) (lo n : Nat) : List Nat := (List.range' lo n).filter fun i => kp (ms i)

theorem sel_split (kp : Nat → Bool) (ms : Nat → Nat) (a lo c : Nat) : sel kp ms lo (a + 1 + c) = sel kp ms lo a ++ ((if kp (ms (lo + a)) then [lo + a] else []) ++ sel kp ms (lo + a + 1) c) := by
  unfold sel
  have e : List.range' lo (a + 1 + c) = List.range' lo a ++ ([lo + a] ++ List.range' (lo + a + 1) c) := by
    rw [show a + 1 + c = a + (1 + c) by omega, ← List.range'_append_1, ← List.range'_append_1]
    rfl
  rw [e, List.filter_append, List.filter_append]
  have e1 : List.filter (fun i => kp (ms i)) [lo + a] = if kp (ms (lo + a)) then [lo + a] else [] := by
    rw [List.filter_cons]
    rfl
  rw [e1]

theorem sel_none {kp : Nat → Bool} (hg : Good kp) (ms : Nat → Nat) : ∀ (n lo : Nat), kp (orN ms lo n) = false → sel kp ms lo n = []
  | 0, _, _ => rfl
  | n + 1, lo, h => by
    unfold orN at h
    rw [hg.2] at h
    simp at h
    have ih := sel_none hg ms n (lo + 1) h.2
    unfold sel at *
    rw [List.range'_succ, List.filter_cons, h.1]
    simpa using ih

/-- what a walk over the places F leaves: whether all were asked for, and the log; it stops behind the entry that passes the limit -/
def after (L F : List Nat) (lim : Nat) : Bool × List Nat :=
  if L.length + F.length ≤ lim then (true, L ++ F) else (false, L ++ F.take (lim + 1 - L.length))

theorem after_nil (L : List Nat) (lim : Nat) (h : L.length ≤ lim) : after L [] lim = (true, L) := by
  unfold after
  rw [if_pos (by simpa using h)]
  simp

theorem after_one (L : List Nat) (k lim : Nat) (h : L.length ≤ lim) : after L [k] lim = (decide (L.length + 1 ≤ lim), L ++ [k]) := by
  unfold after
  by_cases e : L.length + 1 ≤ lim
  · rw [if_pos (by simpa using e)]
    simp [e]
  · rw [if_neg (by simpa using e), show lim + 1 - L.length = 1 by omega]
    simp [e]

theorem after_true {L F : List Nat} {lim : Nat} (h : (after L F lim).1 = true) : (after L F lim).2 = L ++ F ∧ (L ++ F).length ≤ lim := by
  unfold after at *
  by_cases e : L.length + F.length ≤ lim
  · rw [if_pos e]
    exact ⟨rfl, by simpa using e⟩
  · rw [if_neg e] at h
    simp at h

theorem after_more {L F G : List Nat} {lim : Nat} (h : (after L F lim).1 = true) : after L (F ++ G) lim = after (after L F lim).2 G lim := by
  rw [(after_true h).1]
  unfold after
  simp only [List.length_append]
  by_cases e : L.length + (F.length + G.length) ≤ lim
  · rw [if_pos e, if_pos (by omega)]
    simp
  · rw [if_neg e, if_neg (by omega), List.take_append]
    have := (after_true h).2
    rw [List.length_append] at this
    rw [List.take_of_length_le (by omega), show lim + 1 - L.length - F.length = lim + 1 - (L.length + F.length) by omega]
    simp

theorem after_stop {L F G : List Nat} {lim : Nat} (h : (after L F lim).1 = false) : after L (F ++ G) lim = after L F lim := by
  have e : ¬ L.length + F.length ≤ lim := by
    intro e
    unfold after at h
    rw [if_pos e] at h
    simp at h
  unfold after
  rw [if_neg e, if_neg (by simp only [List.length_append]; omega), List.take_append, show lim + 1 - L.length - F.length = 0 by omega]
  simp
end Go.Proofs.Ybulktlo
