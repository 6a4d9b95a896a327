import Derived.Test.YbulktjyDoorLeaf
namespace Go.Proofs.YbulktjyDoor

/-! ### the waiters, with no Go in sight -/
/-- the waiters so far (node, the one before it of its kind), and each kind's last -/
abbrev St := List (Nat × Int) × (Nat → Int)

/-- node u, whose edge's character is c, waits for its kind, if c is noise -/
def stepE (c u : Nat) (S : St) : St := if kB c then (S.1 ++ [(u, S.2 (kN c))], fun k => if k = kN c then (S.1.length : Int) else S.2 k) else S

/-- the first j children of a node whose edges begin at f -/
def nodeTo (ch : Nat → Nat) (f : Nat) : Nat → St → St
  | 0, S => S
  | j + 1, S => stepE (ch (f + j)) (f + 1 + j) (nodeTo ch f j S)

/-- the first i anchors: the root is left out -/
def allTo (ch fst cnt : Nat → Nat) (nd : Nat → Nat) : Nat → St → St
  | 0, S => S
  | i + 1, S => if nd i = 0 then allTo ch fst cnt nd i S else nodeTo ch (fst (nd i)) (cnt (nd i)) (allTo ch fst cnt nd i S)

theorem stepE_len (c u : Nat) (S : St) : (stepE c u S).1.length ≤ S.1.length + 1 := by
  unfold stepE
  split
  · simp
  · omega
theorem nodeTo_len (ch : Nat → Nat) (f : Nat) (S : St) : ∀ j, (nodeTo ch f j S).1.length ≤ S.1.length + j
  | 0 => Nat.le_refl _
  | j + 1 => by
    have h1 := nodeTo_len ch f S j
    have h2 := stepE_len (ch (f + j)) (f + 1 + j) (nodeTo ch f j S)
    show (stepE _ _ _).1.length ≤ _
    omega
theorem allTo_len (ch fst cnt nd : Nat → Nat) (S : St) (hc : ∀ i, cnt (nd i) ≤ 3) : ∀ i, (allTo ch fst cnt nd i S).1.length ≤ S.1.length + 3 * i
  | 0 => Nat.le_refl _
  | i + 1 => by
    have h1 := allTo_len ch fst cnt nd S hc i
    have h2 := nodeTo_len ch (fst (nd i)) (allTo ch fst cnt nd i S) (cnt (nd i))
    have h3 := hc i
    show (if nd i = 0 then allTo ch fst cnt nd i S else nodeTo ch (fst (nd i)) (cnt (nd i)) (allTo ch fst cnt nd i S)).1.length ≤ _
    split <;> omega

/-- each kind's last is none, or a waiter's place -/
def LastOk (S : St) : Prop := ∀ k, S.2 k = -1 ∨ (0 ≤ S.2 k ∧ S.2 k < (S.1.length : Int))
theorem LastOk.start : LastOk ([], fun _ => -1) := fun _ => .inl rfl
theorem LastOk.step {S : St} (h : LastOk S) (c u : Nat) : LastOk (stepE c u S) := by
  unfold stepE
  split
  · intro k
    simp only [List.length_append, List.length_singleton]
    by_cases e : k = kN c
    · rw [if_pos e]
      right
      omega
    · rw [if_neg e]
      rcases h k with h | h
      · exact .inl h
      · right
        omega
  · exact h
theorem LastOk.node {S : St} (h : LastOk S) (ch : Nat → Nat) (f : Nat) : ∀ j, LastOk (nodeTo ch f j S)
  | 0 => h
  | j + 1 => (LastOk.node h ch f j).step _ _
theorem LastOk.all {S : St} (h : LastOk S) (ch fst cnt nd : Nat → Nat) : ∀ i, LastOk (allTo ch fst cnt nd i S)
  | 0 => h
  | i + 1 => by
    show LastOk (if nd i = 0 then _ else _)
    split
    · exact LastOk.all h ch fst cnt nd i
    · exact (LastOk.all h ch fst cnt nd i).node _ _ _
/-- kinds from 11 on are never met -/
def LastHi (S : St) : Prop := ∀ k, 11 ≤ k → S.2 k = -1
end Go.Proofs.YbulktjyDoor
