/-
  'plainID' and 'splitSpaces'.
-/
import Derived.Test.Qxb6604234aPlain
import Derived.Laws.AppendOwn
namespace Go.Proofs.Qxb6604234a
open Go.RowKit
set_option linter.unusedVariables false

theorem len_data (s : ByteArray) : s.data.toList.length = s.size := Array.length_toList
theorem get_at {s : ByteArray} {i : Nat} (h : i < s.size) : s.data.toList[i]? = some s[i] := by
  rw [Array.getElem?_toList, Array.getElem?_eq_getElem h]; rfl
theorem byte_eq {x : UInt8} (n : Nat) (y : UInt8) (hy : y.toNat = n) (h : x = y) : ((x.toNat : Int) == (n : Int)) = true := by
  rw [beq_iff_eq, h, hy]
theorem byte_ne {x : UInt8} (n : Nat) (y : UInt8) (hy : y.toNat = n) (h : ¬ x = y) : ((x.toNat : Int) == (n : Int)) = false := by
  rw [beq_eq_false_iff_ne]
  intro e
  exact h (UInt8.toNat_inj.1 (by omega))

/-- A member's name: not empty, no space, no comma. -/
def PlainId (l : List UInt8) : Prop := 0 < l.length ∧ ∀ (p : Nat) (x : UInt8), l[p]? = some x → x ≠ 32 ∧ x ≠ 44

set_option maxHeartbeats 1000000 in
theorem plainID_any (s : ByteArray) (w : World) (hs : s.size ≤ 1048576) :
    Calls Try.prog 16 #[.string s] w fun e w' => SomeB (PlainId s.data.toList) e ∧ w' = w := by
  by_cases h0 : s.size = 0
  · have q : ((s.size : Int) == 0) = true := by rw [beq_iff_eq]; omega
    clear h0
    go_enter Try.func16, Try.ntmps16
    go_wp2
    go_ret
    exact ⟨SomeB.no rfl, rfl⟩
  have q : ((s.size : Int) == 0) = false := by rw [beq_eq_false_iff_ne]; omega
  have H0 := hide h0
  clear h0
  go_enter Try.func16, Try.ntmps16
  go_wp2
  go_loop [3] (fun i => ∃ (k : Nat), k ≤ s.size ∧ i = .int .i64 k ∧ ∀ (p : Nat) (x : UInt8), p < k → s.data.toList[p]? = some x → x ≠ 32 ∧ x ≠ 44) (fun i => s.size - (intOf i).toNat)
  case atStart => exact ⟨0, Nat.zero_le _, rfl, fun p x hp => absurd hp (by omega)⟩
  case round =>
    obtain ⟨k, hk, rfl, hq⟩ := hrel
    have HQ := hide hq
    clear hq
    by_cases hlt : k < s.size
    · have i1 : (k : Int) < (s.size : Int) := by omega
      have hat := get_at hlt
      have HAT := hide hat
      clear hat
      by_cases h32 : s[k] = 32
      · have q1 : ((s[k].toNat : Int) == 32) = true := byte_eq 32 32 rfl h32
        clear h32
        go_wp2
        go_ret
        exact ⟨SomeB.no rfl, rfl⟩
      have q1 : ((s[k].toNat : Int) == 32) = false := byte_ne 32 32 rfl h32
      by_cases h44 : s[k] = 44
      · have q2 : ((s[k].toNat : Int) == 44) = true := byte_eq 44 44 rfl h44
        clear h32 h44
        go_wp2
        go_ret
        exact ⟨SomeB.no rfl, rfl⟩
      have q2 : ((s[k].toNat : Int) == 44) = false := byte_ne 44 44 rfl h44
      have R : Hid (∀ (p : Nat) (x : UInt8), p < k + 1 → s.data.toList[p]? = some x → x ≠ 32 ∧ x ≠ 44) := fun p x hp hx => by
        by_cases e : p = k
        · subst e
          rw [HAT.out] at hx
          cases hx
          exact ⟨h32, h44⟩
        · exact HQ.out p x (by omega) hx
      clear h32 h44
      go_wp2
      go_round
      case rel => exact ⟨k + 1, by omega, by go_num, R.out⟩
      case measure => simp [intOf]; omega
    · have R : Hid (PlainId s.data.toList) := ⟨by rw [len_data]; have := H0.out; omega, fun p x hx => HQ.out p x (by
        have := (List.getElem?_eq_some_iff.1 hx).1
        rw [len_data] at this
        omega) hx⟩
      go_wp2
      go_ret
      exact ⟨SomeB.yes rfl R.out, rfl⟩

/-! ### the plain law of the cut at spaces -/
def NoSp (t : List UInt8) : Prop := ∀ x ∈ t, x ≠ 32
/-- Each token with the space behind it. -/
def flat (T : List (List UInt8)) : List UInt8 := (T.map fun t => t ++ [32]).flatten
theorem flat_snoc (T : List (List UInt8)) (t : List UInt8) : flat (T ++ [t]) = flat T ++ (t ++ [32]) := by
  unfold flat; rw [List.map_append, List.flatten_append]; simp

theorem cut_uniq : ∀ {a b x y : List UInt8}, NoSp a → NoSp b → a ++ 32 :: x = b ++ 32 :: y → a = b ∧ x = y := by
  intro a
  induction a with
  | nil =>
    intro b x y _ hb h
    cases b with
    | nil => simp at h; exact ⟨rfl, h⟩
    | cons c b => simp at h; exact absurd h.1.symm (hb c (by simp))
  | cons c a ih =>
    intro b x y ha hb h
    cases b with
    | nil => simp at h; exact absurd h.1 (ha c (by simp))
    | cons d b =>
      simp at h
      obtain ⟨rfl, h⟩ := h
      obtain ⟨rfl, h2⟩ := ih (fun z hz => ha z (by simp [hz])) (fun z hz => hb z (by simp [hz])) h
      exact ⟨rfl, h2⟩

/-- T are the tokens of l. -/
def Done (l : List UInt8) (T : List (List UInt8)) : Prop := ∃ T0 c, T = T0 ++ [c] ∧ flat T0 ++ c = l ∧ (∀ t ∈ T0, NoSp t) ∧ NoSp c

theorem done_uniq' : ∀ (A B : List (List UInt8)) (c d : List UInt8), (∀ t ∈ A, NoSp t) → NoSp c → (∀ t ∈ B, NoSp t) → NoSp d → flat A ++ c = flat B ++ d → A = B ∧ c = d := by
  intro A
  induction A with
  | nil =>
    intro B c d _ hc hB hd h
    cases B with
    | nil => exact ⟨rfl, by simpa [flat] using h⟩
    | cons b B =>
      exfalso
      have : (32 : UInt8) ∈ c := by
        have h' : c = flat (b :: B) ++ d := by simpa [flat] using h
        rw [h']; simp [flat]
      exact hc _ this rfl
  | cons a A ih =>
    intro B c d hA hc hB hd h
    cases B with
    | nil =>
      exfalso
      have : (32 : UInt8) ∈ d := by
        have h' : d = flat (a :: A) ++ c := by simpa [flat] using h.symm
        rw [h']; simp [flat]
      exact hd _ this rfl
    | cons b B =>
      have h' : a ++ 32 :: (flat A ++ c) = b ++ 32 :: (flat B ++ d) := by
        simpa [flat, List.append_assoc] using h
      obtain ⟨rfl, h2⟩ := cut_uniq (hA a (by simp)) (hB b (by simp)) h'
      obtain ⟨rfl, rfl⟩ := ih B c d (fun t ht => hA t (by simp [ht])) hc (fun t ht => hB t (by simp [ht])) hd h2
      exact ⟨rfl, rfl⟩
theorem Done.uniq {l : List UInt8} {T U : List (List UInt8)} (h : Done l T) (k : Done l U) : T = U := by
  obtain ⟨A, c, rfl, h1, h2, h3⟩ := h
  obtain ⟨B, d, rfl, k1, k2, k3⟩ := k
  obtain ⟨rfl, rfl⟩ := done_uniq' A B c d h2 h3 k2 k3 (h1.trans k1.symm)
  rfl

/-- Where the loop stands: i bytes seen, the open token begins at st. -/
def SpI (l : List UInt8) (i st : Nat) (T : List (List UInt8)) : Prop := st ≤ i ∧ i ≤ l.length ∧ flat T = l.take st ∧ (∀ t ∈ T, NoSp t) ∧ ∀ p : Nat, st ≤ p → p < i → l[p]? ≠ some 32
theorem SpI.start (l : List UInt8) : SpI l 0 0 [] := ⟨Nat.le_refl _, Nat.zero_le _, by simp [flat], fun t ht => absurd ht (by simp), fun p _ hp => absurd hp (by omega)⟩
theorem nosp_mid {l : List UInt8} {i st : Nat} (h : ∀ p : Nat, st ≤ p → p < i → l[p]? ≠ some 32) : NoSp ((l.drop st).take (i - st)) := by
  intro x hx e
  subst e
  obtain ⟨q, hq⟩ := List.getElem?_of_mem hx
  have hq' := (List.getElem?_eq_some_iff.1 hq).1
  rw [List.length_take] at hq'
  rw [List.getElem?_take_of_lt (by omega), List.getElem?_drop] at hq
  exact h (st + q) (by omega) (by omega) hq
theorem SpI.pass {l : List UInt8} {i st : Nat} {T : List (List UInt8)} (h : SpI l i st T) (hi : i < l.length) (hx : l[i]? ≠ some 32) : SpI l (i + 1) st T := by
  obtain ⟨h1, h2, h3, h4, h5⟩ := h
  refine ⟨by omega, by omega, h3, h4, fun p hp hp2 => ?_⟩
  by_cases e : p = i
  · subst e; exact hx
  · exact h5 p hp (by omega)
theorem SpI.cut {l : List UInt8} {i st : Nat} {T : List (List UInt8)} (h : SpI l i st T) (hx : l[i]? = some 32) : SpI l (i + 1) (i + 1) (T ++ [(l.drop st).take (i - st)]) := by
  obtain ⟨h1, h2, h3, h4, h5⟩ := h
  have hi := (List.getElem?_eq_some_iff.1 hx).1
  refine ⟨Nat.le_refl _, by omega, ?_, ?_, fun p hp hp2 => absurd hp (by omega)⟩
  · rw [flat_snoc, h3]
    have e1 : l.take (i + 1) = l.take i ++ [32] := by rw [List.take_add_one, hx]; rfl
    have e2 : l.take i = l.take st ++ (l.drop st).take (i - st) := by
      rw [← List.take_add, show st + (i - st) = i by omega]
    rw [e1, e2, List.append_assoc]
  · intro t ht
    rcases List.mem_append.1 ht with h6 | h6
    · exact h4 t h6
    · simp at h6; subst h6; exact nosp_mid h5
theorem SpI.fin {l : List UInt8} {st : Nat} {T : List (List UInt8)} (h : SpI l l.length st T) : Done l (T ++ [(l.drop st).take (l.length - st)]) := by
  obtain ⟨h1, h2, h3, h4, h5⟩ := h
  refine ⟨T, _, rfl, ?_, h4, nosp_mid h5⟩
  rw [h3, ← List.take_add, show st + (l.length - st) = l.length by omega, List.take_length]
theorem SpI.count {l : List UInt8} {i st : Nat} {T : List (List UInt8)} (h : SpI l i st T) : T.length ≤ l.length := by
  have h3 := congrArg List.length h.2.2.1
  have : ∀ T : List (List UInt8), T.length ≤ (flat T).length := by
    intro T
    induction T with
    | nil => simp
    | cons t T ih => simp [flat] at ih ⊢; omega
  have := this T
  rw [List.length_take] at h3
  omega

end Go.Proofs.Qxb6604234a
