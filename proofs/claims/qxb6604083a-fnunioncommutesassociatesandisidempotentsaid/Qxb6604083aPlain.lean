/-
  PLAIN: sets of numbers as runs: well-formed lists of runs are unique; one step of the merge.
-/
namespace Go.Proofs.Qxb6604083a

/-- Every run is nonempty, and ends before the next one's first number. -/
def WF : List (Int × Int) → Prop
  | [] => True
  | r :: l => r.1 < r.2 ∧ (∀ q, l.head? = some q → r.2 < q.1) ∧ WF l

def Has (L : List (Int × Int)) (x : Int) : Prop := ∃ r, r ∈ L ∧ r.1 ≤ x ∧ x < r.2

theorem Has_nil (x : Int) : ¬ Has [] x := by rintro ⟨r, h, _⟩; cases h
theorem Has_cons (r : Int × Int) (l : List (Int × Int)) (x : Int) : Has (r :: l) x ↔ (r.1 ≤ x ∧ x < r.2) ∨ Has l x := by
  constructor
  · rintro ⟨q, h, h1, h2⟩
    rcases List.mem_cons.1 h with rfl | h
    · exact .inl ⟨h1, h2⟩
    · exact .inr ⟨q, h, h1, h2⟩
  · rintro (⟨h1, h2⟩ | ⟨q, h, h1, h2⟩)
    · exact ⟨r, List.mem_cons_self, h1, h2⟩
    · exact ⟨q, List.mem_cons_of_mem _ h, h1, h2⟩
theorem Has_append (l m : List (Int × Int)) (x : Int) : Has (l ++ m) x ↔ Has l x ∨ Has m x := by
  induction l with
  | nil => simp [Has_nil]
  | cons r l ih => rw [List.cons_append, Has_cons, Has_cons, ih, or_assoc]

/-- What a well-formed list holds lies at or behind its head's first number. -/
theorem WF.ge {L : List (Int × Int)} (h : WF L) {q : Int × Int} (hq : L.head? = some q) {x : Int} (hx : Has L x) : q.1 ≤ x := by
  induction L generalizing q with
  | nil => simp at hq
  | cons r l ih =>
    simp at hq
    subst hq
    rcases (Has_cons r l x).1 hx with ⟨h1, _⟩ | h1
    · exact h1
    · cases l with
      | nil => exact absurd h1 (Has_nil x)
      | cons p l =>
        have := ih h.2.2 rfl h1
        have h3 := h.2.1 p rfl
        have h4 := h.1
        omega
/-- .. and what lies in the tail lies behind the head's end. -/
theorem WF.tail_gt {r : Int × Int} {l : List (Int × Int)} (h : WF (r :: l)) {x : Int} (hx : Has l x) : r.2 < x := by
  cases l with
  | nil => exact absurd hx (Has_nil x)
  | cons p l =>
    have := h.2.2.ge rfl hx
    have h3 := h.2.1 p rfl
    omega

theorem WF.uniq : ∀ {L M : List (Int × Int)}, WF L → WF M → (∀ x, Has L x ↔ Has M x) → L = M
  | [], [], _, _, _ => rfl
  | [], q :: m, _, hM, h => absurd ((h q.1).2 ((Has_cons q m q.1).2 (.inl ⟨Int.le_refl _, hM.1⟩))) (Has_nil _)
  | r :: l, [], hL, _, h => absurd ((h r.1).1 ((Has_cons r l r.1).2 (.inl ⟨Int.le_refl _, hL.1⟩))) (Has_nil _)
  | r :: l, q :: m, hL, hM, h => by
    have e1 : r.1 = q.1 := by
      have h1 := hM.ge rfl ((h r.1).1 ((Has_cons r l r.1).2 (.inl ⟨Int.le_refl _, hL.1⟩)))
      have h2 := hL.ge rfl ((h q.1).2 ((Has_cons q m q.1).2 (.inl ⟨Int.le_refl _, hM.1⟩)))
      omega
    have n1 : ¬ Has (r :: l) r.2 := by
      intro hx
      rcases (Has_cons r l r.2).1 hx with ⟨_, h2⟩ | h2
      · omega
      · have := hL.tail_gt h2; omega
    have n2 : ¬ Has (q :: m) q.2 := by
      intro hx
      rcases (Has_cons q m q.2).1 hx with ⟨_, h2⟩ | h2
      · omega
      · have := hM.tail_gt h2; omega
    have e2 : r.2 = q.2 := by
      have a1 := hL.1
      have a2 := hM.1
      rcases Int.lt_trichotomy r.2 q.2 with hlt | heq | hgt
      · exact absurd ((h r.2).2 ((Has_cons q m r.2).2 (.inl ⟨by omega, hlt⟩))) n1
      · exact heq
      · exact absurd ((h q.2).1 ((Has_cons r l q.2).2 (.inl ⟨by omega, hgt⟩))) n2
    have e : r = q := Prod.ext e1 e2
    subst e
    have : l = m := WF.uniq hL.2.2 hM.2.2 (fun x => by
      constructor
      · intro hx
        have hgt := hL.tail_gt hx
        rcases (Has_cons r m x).1 ((h x).1 ((Has_cons r l x).2 (.inr hx))) with ⟨_, h2⟩ | h2
        · omega
        · exact h2
      · intro hx
        have hgt := hM.tail_gt hx
        rcases (Has_cons r l x).1 ((h x).2 ((Has_cons r m x).2 (.inr hx))) with ⟨_, h2⟩ | h2
        · omega
        · exact h2)
    rw [this]

theorem WF_snoc {v : List (Int × Int)} {r : Int × Int} (h : WF v) (hr : r.1 < r.2) (hl : ∀ q, v.getLast? = some q → q.2 < r.1) : WF (v ++ [r]) := by
  induction v with
  | nil => exact ⟨hr, by simp, trivial⟩
  | cons p l ih =>
    refine ⟨h.1, ?_, ih h.2.2 (fun q hq => hl q ?_)⟩
    · intro q hq
      cases l with
      | nil => simp at hq; subst hq; exact hl p rfl
      | cons s l => simp at hq; subst hq; exact h.2.1 s rfl
    · cases l with
      | nil => simp at hq
      | cons s l => rw [List.getLast?_cons_cons]; exact hq

theorem WF_last {v : List (Int × Int)} {p q q' : Int} (h : WF (v ++ [(p, q)])) (hq : q ≤ q') : WF (v ++ [(p, q')]) := by
  induction v with
  | nil => exact ⟨by have := h.1; simp at this ⊢; omega, by simp, trivial⟩
  | cons r l ih =>
    refine ⟨h.1, ?_, ih h.2.2⟩
    intro s hs
    cases l with
    | nil => simp at hs; subst hs; exact h.2.1 (p, q) rfl
    | cons s' l => simp at hs; subst hs; exact h.2.1 s' rfl
theorem WF_last_lt {v : List (Int × Int)} {p q : Int} (h : WF (v ++ [(p, q)])) : p < q := by
  induction v with
  | nil => exact h.1
  | cons r l ih => exact ih h.2.2

/-- THE STATE OF THE MERGE: what is merged so far (u), what is left of the two (s, t). -/
structure Mg (S T s t u : List (Int × Int)) : Prop where
  ws : WF s
  wt : WF t
  wu : WF u
  has : ∀ x, (Has u x ∨ Has s x ∨ Has t x) ↔ (Has S x ∨ Has T x)
  lasts : ∀ p q, u.getLast? = some p → s.head? = some q → p.1 ≤ q.1
  lastt : ∀ p q, u.getLast? = some p → t.head? = some q → p.1 ≤ q.1
  len : s.length + t.length + u.length ≤ S.length + T.length

theorem Mg.start {S T : List (Int × Int)} (hS : WF S) (hT : WF T) : Mg S T S T [] :=
  ⟨hS, hT, trivial, fun x => by simp [Has_nil], by simp, by simp, by simp⟩
theorem Mg.swap {S T s t u : List (Int × Int)} (h : Mg S T s t u) : Mg T S t s u :=
  ⟨h.wt, h.ws, h.wu, fun x => by have := h.has x; rw [or_comm (a := Has t x), or_comm (a := Has T x)]; exact this, h.lastt, h.lasts, by have := h.len; omega⟩
theorem Mg.done {S T u : List (Int × Int)} (h : Mg S T [] [] u) : WF u ∧ (∀ x, Has u x ↔ (Has S x ∨ Has T x)) ∧ u.length ≤ S.length + T.length :=
  ⟨h.wu, fun x => by have := h.has x; simpa [Has_nil] using this, by have := h.len; simpa using this⟩

/-- The head of s is next, and it touches the last run: they are joined. -/
theorem Mg.join {S T s t v : List (Int × Int)} {r : Int × Int} {p q : Int} (h : Mg S T (r :: s) t (v ++ [(p, q)])) (hmin : ∀ k, t.head? = some k → r.1 ≤ k.1) (htouch : r.1 ≤ q) : Mg S T s t (v ++ [(p, max q r.2)]) := by
  have hpq := WF_last_lt h.wu
  have hpr : p ≤ r.1 := h.lasts (p, q) r (by simp) rfl
  have hrr := h.ws.1
  refine ⟨h.ws.2.2, h.wt, WF_last h.wu (Int.le_max_left _ _), fun x => ?_, ?_, ?_, ?_⟩
  · have := h.has x
    rw [Has_append, Has_cons, Has_cons] at this
    rw [Has_append, Has_cons, ← this]
    simp only [Has_nil, or_false]
    constructor
    · rintro ((h1 | ⟨h1, h2⟩) | h1 | h1)
      · exact .inl (.inl h1)
      · by_cases hx : x < q
        · exact .inl (.inr ⟨h1, hx⟩)
        · exact .inr (.inl (.inl ⟨by omega, by omega⟩))
      · exact .inr (.inl (.inr h1))
      · exact .inr (.inr h1)
    · rintro ((h1 | ⟨h1, h2⟩) | (⟨h1, h2⟩ | h1) | h1)
      · exact .inl (.inl h1)
      · exact .inl (.inr ⟨h1, by omega⟩)
      · exact .inl (.inr ⟨by omega, by omega⟩)
      · exact .inr (.inl h1)
      · exact .inr (.inr h1)
  · intro a b ha hb
    simp at ha
    subst ha
    have := h.ws.2.1 b hb
    simp; omega
  · intro a b ha hb
    simp at ha
    subst ha
    have := hmin b hb
    simp; omega
  · have := h.len; simp at this ⊢; omega

/-- The head of s is next, and stands apart: it is appended. -/
theorem Mg.app {S T s t u : List (Int × Int)} {r : Int × Int} (h : Mg S T (r :: s) t u) (hmin : ∀ k, t.head? = some k → r.1 ≤ k.1) (happ : ∀ p, u.getLast? = some p → p.2 < r.1) : Mg S T s t (u ++ [r]) := by
  have hrr := h.ws.1
  refine ⟨h.ws.2.2, h.wt, WF_snoc h.wu hrr happ, fun x => ?_, ?_, ?_, ?_⟩
  · have := h.has x
    rw [Has_cons] at this
    rw [Has_append, Has_cons, ← this]
    simp only [Has_nil, or_false]
    constructor
    · rintro ((h1 | h1) | h1 | h1)
      · exact .inl h1
      · exact .inr (.inl (.inl h1))
      · exact .inr (.inl (.inr h1))
      · exact .inr (.inr h1)
    · rintro (h1 | (h1 | h1) | h1)
      · exact .inl (.inl h1)
      · exact .inl (.inr h1)
      · exact .inr (.inl h1)
      · exact .inr (.inr h1)
  · intro a b ha hb
    simp at ha
    subst ha
    have := h.ws.2.1 b hb
    omega
  · intro a b ha hb
    simp at ha
    subst ha
    exact hmin b hb
  · have := h.len; simp at this ⊢; omega

/-- What is known once the next run has been taken. -/
structure Nx (S T s t u : List (Int × Int)) (r : Int × Int) (s2 t2 : List (Int × Int)) : Prop where
  join : ∀ v p q, u = v ++ [(p, q)] → r.1 ≤ q → Mg S T s2 t2 (v ++ [(p, max q r.2)])
  app : (∀ p, u.getLast? = some p → p.2 < r.1) → Mg S T s2 t2 (u ++ [r])
  len : s2.length + t2.length + 1 = s.length + t.length

theorem Nx.left {S T s t u : List (Int × Int)} {r : Int × Int} (h : Mg S T (r :: s) t u) (hmin : ∀ k, t.head? = some k → r.1 ≤ k.1) : Nx S T (r :: s) t u r s t :=
  ⟨fun v p q e ht => by subst e; exact h.join hmin ht, fun ha => h.app hmin ha, by simp; omega⟩
theorem Nx.right {S T s t u : List (Int × Int)} {r : Int × Int} (h : Mg S T s (r :: t) u) (hmin : ∀ k, s.head? = some k → r.1 ≤ k.1) : Nx S T s (r :: t) u r s t :=
  ⟨fun v p q e ht => by subst e; exact (h.swap.join hmin ht).swap, fun ha => (h.swap.app hmin ha).swap, by simp; omega⟩

/-- Two columns as a list of runs. -/
def mk (n : Nat) (F E : Nat → Int) : List (Int × Int) := (List.range n).map (fun i => (F i, E i))
theorem mk_length (n : Nat) (F E : Nat → Int) : (mk n F E).length = n := by simp [mk]
theorem mk_get (n : Nat) (F E : Nat → Int) (i : Nat) (h : i < n) : (mk n F E)[i]? = some (F i, E i) := by
  unfold mk; rw [List.getElem?_map, List.getElem?_range h]; rfl

/-- The two columns of a list of runs. -/
def fF (U : List (Int × Int)) (i : Nat) : Int := (U.getD i (0, 0)).1
def fE (U : List (Int × Int)) (i : Nat) : Int := (U.getD i (0, 0)).2
theorem mk_self (U : List (Int × Int)) : mk U.length (fF U) (fE U) = U := by
  apply List.ext_getElem?
  intro i
  by_cases h : i < U.length
  · rw [mk_get _ _ _ i h]
    simp [fF, fE, List.getElem?_eq_getElem h]
  · rw [List.getElem?_eq_none (by rw [mk_length]; omega), List.getElem?_eq_none (by omega)]

/-- Well-formed, by the index. -/
theorem WF_of_index : ∀ (L : List (Int × Int)), (∀ (i : Nat) (r : Int × Int), L[i]? = some r → r.1 < r.2) → (∀ (i : Nat) (r q : Int × Int), L[i]? = some r → L[i + 1]? = some q → r.2 < q.1) → WF L
  | [], _, _ => trivial
  | r :: l, h1, h2 => by
    refine ⟨h1 0 r rfl, fun q hq => h2 0 r q rfl ?_, WF_of_index l (fun i r h => h1 (i + 1) r (by simpa using h)) (fun i r q h h' => h2 (i + 1) r q (by simpa using h) (by simpa using h'))⟩
    cases l with
    | nil => simp at hq
    | cons s l => simpa using hq

theorem WF_mk (n : Nat) (F E : Nat → Int) (h1 : ∀ i, i < n → F i < E i) (h2 : ∀ i, i + 1 < n → E i < F (i + 1)) : WF (mk n F E) := by
  refine WF_of_index _ ?_ ?_
  · intro i r h
    by_cases hi : i < n
    · rw [mk_get n F E i hi] at h; cases h; exact h1 i hi
    · rw [List.getElem?_eq_none (by rw [mk_length]; omega)] at h; cases h
  · intro i r q h h'
    by_cases hi : i + 1 < n
    · rw [mk_get n F E i (by omega)] at h; rw [mk_get n F E (i + 1) hi] at h'; cases h; cases h'; exact h2 i hi
    · rw [List.getElem?_eq_none (by rw [mk_length]; omega)] at h'; cases h'

end Go.Proofs.Qxb6604083a
