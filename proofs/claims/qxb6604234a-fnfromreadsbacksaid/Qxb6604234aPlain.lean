/-
  THE PLAIN LAW of 'from': where each piece lies. No Go in sight.
-/
import Derived.Test.Qxb6604234aFrom
namespace Go.Proofs.Qxb6604234a
set_option linter.unusedVariables false

/-- What stands ahead of the i-th of n names. -/
def sepOf (n i : Nat) : List UInt8 := if i = 0 then [] else if i + 1 = n then [32, 97, 110, 100, 32] else [44, 32]
/-- The first i names with what stands ahead of each. -/
def body (n : Nat) (X : Nat → List UInt8) (i : Nat) : List UInt8 := ((List.range i).map fun j => sepOf n j ++ X j).flatten
def sumL (X : Nat → List UInt8) : Nat → Nat
  | 0 => 0
  | k + 1 => sumL X k + (X k).length

theorem body_succ (n : Nat) (X : Nat → List UInt8) (i : Nat) : body n X (i + 1) = body n X i ++ (sepOf n i ++ X i) := by
  unfold body
  rw [List.range_succ, List.map_append, List.flatten_append]
  simp
theorem body_zero (n : Nat) (X : Nat → List UInt8) : body n X 0 = [] := rfl

theorem join_snoc (x y sep : List UInt8) (r : List (List UInt8)) : Lib.join (x :: (r ++ [y])) sep = Lib.join (x :: r) sep ++ (sep ++ y) := by
  rw [Lib.join_cons, Lib.join_cons]
  simp [Lib.joinTail]

theorem join_body (n : Nat) (X : Nat → List UInt8) : ∀ m, m + 1 < n → Lib.join ((List.range (m + 1)).map X) [44, 32] = body n X (m + 1) := by
  intro m
  induction m with
  | zero =>
    intro h
    rw [body_succ, body_zero]
    show Lib.join [X 0] [44, 32] = _
    rw [Lib.join_one]
    simp [sepOf]
  | succ m ih =>
    intro h
    rw [body_succ, ← ih (by omega), List.range_succ, List.map_append]
    have h0 : (List.range (m + 1)).map X = X 0 :: ((List.range m).map fun j => X (j + 1)) := by
      rw [List.range_succ_eq_map]; simp [Function.comp_def]
    rw [h0]
    show Lib.join (X 0 :: ((List.range m).map (fun j => X (j + 1)) ++ [X (m + 1)])) [44, 32] = _
    rw [join_snoc]
    have : sepOf n (m + 1) = [44, 32] := by unfold sepOf; rw [if_neg (by omega), if_neg (by omega)]
    rw [this]

theorem fromL_body (W : List UInt8) (n : Nat) (X : Nat → List UInt8) (hn : 0 < n) : fromL W n X = W ++ [32] ++ body n X n := by
  unfold fromL
  rw [if_neg (by omega)]
  by_cases h1 : n = 1
  · subst h1
    rw [if_pos rfl, body_succ, body_zero]
    simp [sepOf]
  · rw [if_neg h1]
    obtain ⟨m, rfl⟩ : ∃ m, n = m + 2 := ⟨n - 2, by omega⟩
    rw [show m + 2 - 1 = m + 1 from rfl, join_body (m + 2) X m (by omega), body_succ (m + 2) X (m + 1)]
    have : sepOf (m + 2) (m + 1) = [32, 97, 110, 100, 32] := by unfold sepOf; rw [if_neg (by omega), if_pos rfl]
    rw [this]
    simp [List.append_assoc]

theorem body_len (n : Nat) (X : Nat → List UInt8) : ∀ m, m + 1 < n → (body n X (m + 1)).length = sumL X (m + 1) + 2 * m := by
  intro m
  induction m with
  | zero => intro h; rw [body_succ, body_zero]; simp [sepOf, sumL]
  | succ m ih =>
    intro h
    rw [body_succ, List.length_append, ih (by omega), List.length_append]
    have : sepOf n (m + 1) = [44, 32] := by unfold sepOf; rw [if_neg (by omega), if_neg (by omega)]
    rw [this]
    simp only [sumL, List.length_cons, List.length_nil]
    omega

theorem fromL_len (W : List UInt8) (n : Nat) (X : Nat → List UInt8) (hn : 0 < n) : (fromL W n X).length = W.length + 1 + sumL X n + if 2 ≤ n then 2 * (n - 2) + 5 else 0 := by
  rw [fromL_body W n X hn]
  by_cases h1 : n = 1
  · subst h1
    rw [body_succ, body_zero]
    simp [sepOf, sumL]
    omega
  · obtain ⟨m, rfl⟩ : ∃ m, n = m + 2 := ⟨n - 2, by omega⟩
    rw [body_succ (m + 2) X (m + 1), if_pos (by omega)]
    have : sepOf (m + 2) (m + 1) = [32, 97, 110, 100, 32] := by unfold sepOf; rw [if_neg (by omega), if_pos rfl]
    rw [this]
    simp only [List.length_append, body_len (m + 2) X m (by omega), List.length_cons, List.length_nil, sumL]
    omega

/-- The whole, parted at the i-th name. -/
theorem body_le (n : Nat) (X : Nat → List UInt8) (i j : Nat) (h : i ≤ j) : ∃ R, body n X j = body n X i ++ R := by
  induction j with
  | zero => exact ⟨[], by rw [show i = 0 by omega]; simp⟩
  | succ j ih =>
    by_cases e : i = j + 1
    · subst e; exact ⟨[], by simp⟩
    · obtain ⟨R, hR⟩ := ih (by omega)
      exact ⟨R ++ (sepOf n j ++ X j), by rw [body_succ, hR, List.append_assoc]⟩

theorem fromL_part (W : List UInt8) (n : Nat) (X : Nat → List UInt8) (i : Nat) (hi : i < n) : ∃ R, fromL W n X = (W ++ [32] ++ body n X i) ++ sepOf n i ++ X i ++ R := by
  obtain ⟨R, hR⟩ := body_le n X (i + 1) n (by omega)
  refine ⟨R, ?_⟩
  rw [fromL_body W n X (by omega), hR, body_succ]
  simp [List.append_assoc]

theorem sumL_le (X : Nat → List UInt8) (i j : Nat) (h : i ≤ j) : sumL X i ≤ sumL X j := by
  induction j with
  | zero => rw [show i = 0 by omega]; exact Nat.le_refl _
  | succ j ih =>
    by_cases e : i = j + 1
    · subst e; exact Nat.le_refl _
    · exact Nat.le_trans (ih (by omega)) (Nat.le_add_right _ _)
theorem len_le_sumL (X : Nat → List UInt8) (i n : Nat) (h : i < n) : (X i).length ≤ sumL X n := by
  have := sumL_le X (i + 1) n h
  simp only [sumL] at this
  omega

/-- The bytes of t stand in s at p. -/
def Here (s : List UInt8) (p : Nat) (t : List UInt8) : Prop := p + t.length ≤ s.length ∧ ∀ i, i < t.length → s[p + i]? = t[i]?
theorem here_of {s A t B : List UInt8} {p : Nat} (h : s = A ++ t ++ B) (hp : p = A.length) : Here s p t := by
  subst h hp
  refine ⟨by simp only [List.length_append]; omega, fun i hi => ?_⟩
  rw [List.append_assoc, List.getElem?_append_right (by omega), show A.length + i - A.length = i by omega, List.getElem?_append_left hi]

end Go.Proofs.Qxb6604234a
