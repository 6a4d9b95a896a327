import Derived.Test.YbulktloFind
import Derived.Maps.OwnSet
import Derived.Maps.OwnOps
namespace Go.Proofs.Ybulktlo
open Go.RowKit Go.WideMaps

/-! ### plain lists of keys -/
/-- element i of a list of keys -/
def at' (ks : List ByteArray) (i : Nat) : ByteArray := ks.getD i ByteArray.empty
/-- no two keys are one -/
def Distinct (ks : List ByteArray) : Prop := ∀ i j, i < j → j < ks.length → ((at' ks i).toList == (at' ks j).toList) = false
/-- the key is at no place below n -/
def Absent (ks : List ByteArray) (n : Nat) (q : ByteArray) : Prop := ∀ i, i < n → ((at' ks i).toList == q.toList) = false
/-- j is the key's first place -/
def FirstAt (ks : List ByteArray) (j : Nat) (q : ByteArray) : Prop := j < ks.length ∧ ((at' ks j).toList == q.toList) = true ∧ Absent ks j q

theorem first_or (ks : List ByteArray) (q : ByteArray) : (∃ j, FirstAt ks j q) ∨ Absent ks ks.length q := by
  rcases least (fun i => (at' ks i).toList == q.toList) ks.length with ⟨j, h1, h2, h3⟩ | h
  · exact .inl ⟨j, h1, h2, h3⟩
  · exact .inr h

theorem at'_append (ks : List ByteArray) (s : ByteArray) (i : Nat) (h : i < ks.length) : at' (ks ++ [s]) i = at' ks i := by
  unfold at'
  rw [List.getD_eq_getElem?_getD, List.getD_eq_getElem?_getD, List.getElem?_append_left h]
theorem at'_last (ks : List ByteArray) (s : ByteArray) : at' (ks ++ [s]) ks.length = s := by
  unfold at'
  rw [List.getD_eq_getElem?_getD]
  simp

theorem Distinct.nil : Distinct [] := fun _ j _ hj => absurd hj (Nat.not_lt_zero j)
theorem Distinct.snoc {ks : List ByteArray} (h : Distinct ks) {s : ByteArray} (ha : Absent ks ks.length s) : Distinct (ks ++ [s]) := by
  intro i j hij hj
  simp at hj
  by_cases e : j = ks.length
  · subst e
    rw [at'_append _ _ _ hij, at'_last]
    exact ha i hij
  · rw [at'_append _ _ _ (by omega), at'_append _ _ _ (by omega)]
    exact h i j hij (by omega)

theorem eqv_symm {a b : ByteArray} : (a.toList == b.toList) = (b.toList == a.toList) := by
  rw [Bool.eq_iff_iff]; simp only [beq_iff_eq]; exact eq_comm

theorem Distinct.first {ks : List ByteArray} (h : Distinct ks) {j : Nat} (hj : j < ks.length) : FirstAt ks j (at' ks j) :=
  ⟨hj, by simp, fun i hi => h i j hi hj⟩

theorem Distinct.other {ks : List ByteArray} (h : Distinct ks) {j : Nat} {q : ByteArray} (hf : FirstAt ks j q) {i : Nat} (hi : i < ks.length) (hne : i ≠ j) : ((at' ks i).toList == q.toList) = false := by
  obtain ⟨hj, he, _⟩ := hf
  have e : (at' ks j).toList = q.toList := by simpa using he
  rcases Nat.lt_or_gt_of_ne hne with hlt | hgt
  · rw [← e]; exact h i j hlt hj
  · rw [← e, eqv_symm]; exact h j i hgt hi

/-! ### the index, as it reads: key i at i -/
def keyDTo (ks : List ByteArray) : Nat → DataW Unit
  | 0 => .map []
  | n + 1 => (keyDTo ks n).put (.string (at' ks n).data.toList) (.lit (.int .i64 n))

theorem keyDTo_isMap (ks : List ByteArray) : ∀ n, Maps.IsMap (keyDTo ks n)
  | 0 => Maps.isMap_empty
  | n + 1 => (keyDTo_isMap ks n).put _ _

theorem keyDTo_append (ks : List ByteArray) (s : ByteArray) : ∀ n, n ≤ ks.length → keyDTo (ks ++ [s]) n = keyDTo ks n
  | 0, _ => rfl
  | n + 1, h => by
    unfold keyDTo
    rw [keyDTo_append ks s n (by omega), at'_append _ _ _ (by omega)]

theorem keyDTo_snoc (ks : List ByteArray) (s : ByteArray) : keyDTo (ks ++ [s]) (ks.length + 1) = (keyDTo ks ks.length).put (.string s.data.toList) (.lit (.int .i64 (ks.length : Nat))) := by
  show (keyDTo (ks ++ [s]) ks.length).put _ _ = _
  rw [keyDTo_append ks s _ (Nat.le_refl _), at'_last]

theorem lit_ne {a b : ByteArray} (h : (a.toList == b.toList) = false) : (Lit.string b.data.toList) ≠ .string a.data.toList := by
  intro e
  simp only [Lit.string.injEq] at e
  rw [ByteArray.toList_eq, ByteArray.toList_eq, e] at h
  simp at h

theorem lit_eq {a b : ByteArray} (h : (a.toList == b.toList) = true) : (Lit.string b.data.toList) = .string a.data.toList := by
  rw [ByteArray.toList_eq, ByteArray.toList_eq] at h
  simp at h
  rw [h]

theorem keyD_miss (ks : List ByteArray) (q : ByteArray) : ∀ n, Absent ks n q → Maps.has (keyDTo ks n) (.string q.data.toList) = false ∧ ∀ z, (keyDTo ks n).atKey (.string q.data.toList) z = z
  | 0, _ => ⟨rfl, fun z => Maps.atKey_of_not_has rfl z⟩
  | n + 1, h => by
    have ih := keyD_miss ks q n (fun i hi => h i (by omega))
    have hne := lit_ne (h n (by omega))
    unfold keyDTo
    exact ⟨by rw [Maps.has_put_other hne]; exact ih.1, fun z => by rw [Maps.atKey_put_other hne]; exact ih.2 z⟩

theorem keyD_hit (ks : List ByteArray) (q : ByteArray) (j : Nat) (he : ((at' ks j).toList == q.toList) = true) : ∀ n, j < n → (∀ i, i < n → i ≠ j → ((at' ks i).toList == q.toList) = false) →
    Maps.has (keyDTo ks n) (.string q.data.toList) = true ∧ ∀ z, (keyDTo ks n).atKey (.string q.data.toList) z = .lit (.int .i64 (j : Nat))
  | 0, hj, _ => absurd hj (Nat.not_lt_zero j)
  | n + 1, hj, h => by
    unfold keyDTo
    by_cases e : n = j
    · subst e
      rw [lit_eq he]
      exact ⟨Maps.has_put_same (keyDTo_isMap ks n) (by exact trivial) _, fun z => Maps.atKey_put_same (keyDTo_isMap ks n) (by exact trivial) _ z⟩
    · have ih := keyD_hit ks q j he n (by omega) (fun i hi => h i (by omega))
      have hne := lit_ne (h n (by omega) e)
      exact ⟨by rw [Maps.has_put_other hne]; exact ih.1, fun z => by rw [Maps.atKey_put_other hne]; exact ih.2 z⟩

/-! ### (*keyed[int]).find over the index -/
theorem law9 : Maps.Keyed Yba.prog 9 := Maps.string_keyed Yba.underlying9
theorem zero3 (w : World) : (zeroValue 3).run Yba.prog w = .ok (.int .i64 0) w := by kernel_rfl

set_option maxHeartbeats 400000 in
theorem find_map (kb bm n : Nat) (q : ByteArray) (D : DataW Unit) (w : World) (hq : q.size ≤ maxLen)
    (h1 : w.cell? ⟨kb, 1, none⟩ = some (.map (some bm))) (hown : w.ownsMap Yba.prog 9 (plainElem Yba.prog 3) bm n D) :
    Calls Yba.prog 11 #[.pointer (some ⟨kb, 0, none⟩), .string q] w fun e w' => ∃ c : Int, e = .returned (.tuple #[.int .i64 c, .bool (Maps.has D (.string q.data.toList))]) ∧ D.atKey (.string q.data.toList) (.lit (.int .i64 0)) = .lit (.int .i64 c) ∧ w' = w := by
  have hm := fun (w : World) (r : Option Nat) => run_neq_map_nil (P := Yba.prog) w 31 9 3 r Yba.underlying31
  go_enter Yba.func11, Yba.ntmps11
  go_wp2_with (at_lookup; refine wpList_lookup_own_ok_int _ rfl _ _ 31 rfl 9 3 .i64 law9 Yba.underlying31 Yba.underlying3 (zero3 _) bm n D rfl hown _ _ rfl (keyOf_string_mk Yba.underlying9 hq) ?_; intro c hat hwc)
  go_ret2
  exact ⟨c, rfl, hat, rfl⟩
end Go.Proofs.Ybulktlo
