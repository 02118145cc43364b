/-
  THE PLAIN LAW of the reading back: the tokens of the line.
-/
import Derived.Test.Qxb6604234aSplitW
namespace Go.Proofs.Qxb6604234a
open Go.RowKit
set_option linter.unusedVariables false

theorem ba_ext {a b : ByteArray} (h : a.data.toList = b.data.toList) : a = b := by
  obtain ⟨x⟩ := a
  obtain ⟨y⟩ := b
  have : x = y := Array.toList_inj.1 h
  rw [this]

/-- The i-th token of the line of n names (n at least 2). -/
def tok (n : Nat) (X : Nat → List UInt8) (i : Nat) : List UInt8 := if i + 2 < n then X i ++ [44] else if i + 2 = n then X i else if i + 1 = n then [97, 110, 100] else X (n - 1)

theorem body_flat (n : Nat) (X : Nat → List UInt8) : ∀ j, j + 1 < n → body n X (j + 1) = flat ((List.range j).map fun i => X i ++ [44]) ++ X j := by
  intro j
  induction j with
  | zero => intro _; rw [body_succ, body_zero]; simp [sepOf, flat]
  | succ j ih =>
    intro h
    have hs : sepOf n (j + 1) = [44, 32] := by unfold sepOf; rw [if_neg (by omega), if_neg (by omega)]
    rw [body_succ, ih (by omega), hs, List.range_succ, List.map_append]
    show _ = flat (_ ++ [X j ++ [44]]) ++ _
    rw [flat_snoc]
    simp [List.append_assoc]

theorem nosp_comma {l : List UInt8} (h : NoSp l) : NoSp (l ++ [44]) := by
  intro x hx
  rcases List.mem_append.1 hx with h1 | h1
  · exact h x h1
  · simp at h1; subst h1; decide

theorem done_tok (m : Nat) (X : Nat → List UInt8) (hX : ∀ i, i < m + 2 → NoSp (X i)) : Done (body (m + 2) X (m + 2)) ((List.range (m + 3)).map (tok (m + 2) X)) := by
  refine ⟨((List.range m).map fun i => X i ++ [44]) ++ [X m] ++ [[97, 110, 100]], X (m + 1), ?_, ?_, ?_, hX (m + 1) (by omega)⟩
  · rw [List.range_succ, List.range_succ, List.range_succ, List.map_append, List.map_append, List.map_append]
    have h1 : (List.range m).map (tok (m + 2) X) = (List.range m).map fun i => X i ++ [44] := by
      refine List.map_congr_left fun i hi => ?_
      have := List.mem_range.1 hi
      unfold tok
      rw [if_pos (by omega)]
    have h2 : tok (m + 2) X m = X m := by unfold tok; rw [if_neg (by omega), if_pos rfl]
    have h3 : tok (m + 2) X (m + 1) = [97, 110, 100] := by unfold tok; rw [if_neg (by omega), if_neg (by omega), if_pos rfl]
    have h4 : tok (m + 2) X (m + 2) = X (m + 1) := by unfold tok; rw [if_neg (by omega), if_neg (by omega), if_neg (by omega)]; rfl
    rw [h1]
    simp [h2, h3, h4]
  · rw [flat_snoc, flat_snoc, body_succ, body_flat (m + 2) X m (by omega)]
    have hs : sepOf (m + 2) (m + 1) = [32, 97, 110, 100, 32] := by unfold sepOf; rw [if_neg (by omega), if_pos rfl]
    rw [hs]
    simp [List.append_assoc]
  · intro t ht
    rcases List.mem_append.1 ht with h1 | h1
    · rcases List.mem_append.1 h1 with h2 | h2
      · obtain ⟨i, hi, rfl⟩ := List.mem_map.1 h2
        have := List.mem_range.1 hi
        exact nosp_comma (hX i (by omega))
      · simp at h2; subst h2; exact hX _ (by omega)
    · simp at h1; subst h1
      intro x hx
      simp at hx
      rcases hx with rfl | rfl | rfl <;> decide

theorem done_one (X : Nat → List UInt8) (hX : NoSp (X 0)) : Done (body 1 X 1) [X 0] := by
  refine ⟨[], X 0, rfl, ?_, fun t ht => absurd ht (by simp), hX⟩
  rw [body_succ, body_zero]
  simp [flat, sepOf]

theorem PlainId.nosp {l : List UInt8} (h : PlainId l) : NoSp l := by
  intro x hx
  obtain ⟨p, hp⟩ := List.getElem?_of_mem hx
  exact (h.2 p x hp).1

theorem add_at (b o i : Nat) : (⟨b, o, none⟩ : Addr).add i = ⟨b, o + i, none⟩ := by unfold Addr.add; split <;> simp_all
/-- What the cells of a slice of tokens hold. -/
theorem own_cells {w : World} {B : Nat} {v : Value} {ts : List ByteArray} (h : w.ownsRow B 9 1 v ts.length (ts.map Value.string)) (h0 : 0 < ts.length) :
    ∃ g cap, v = .slice (some ⟨g, 0, none⟩) ts.length cap ∧ B ≤ g ∧ ∀ i x, ts[i]? = some x → w.cell? ⟨g, i, none⟩ = some (.string x) := by
  rcases h.2 with ⟨_, h1⟩ | ⟨g, cap, cur, rfl, hb, _⟩
  · omega
  · refine ⟨g, cap, rfl, hb, fun i x hx => ?_⟩
    have h2 := h.cells (g := g) rfl i (.string x) (by rw [List.getElem?_map, hx]; rfl)
    rw [add_at, Nat.zero_add] at h2
    exact h2

end Go.Proofs.Qxb6604234a
