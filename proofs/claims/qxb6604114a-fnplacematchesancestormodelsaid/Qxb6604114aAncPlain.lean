/-
  PLAIN, FOR 'b1Ancestors': the order in which the entities are taken; the closure, row by row.
-/
import Derived.Test.Qxb6604114aPlain
namespace Go.Proofs.Qxb6604114a
set_option linter.unusedVariables false

/-- The first l entities are ordered (o), each behind all that control it; rk is the place in the order. -/
structure Ord (n : Nat) (L : Nat → Nat) (e : Nat → Nat → Nat) (dn : Nat → Bool) (rk o : Nat → Nat) (l : Nat) : Prop where
  cntd : (List.range n).countP dn = l
  done : ∀ v, v < n → dn v = true → rk v < l ∧ o (rk v) = v ∧ ∀ j, j < L v → dn (e v j) = true ∧ rk (e v j) < rk v
  ord : ∀ i, i < l → o i < n ∧ dn (o i) = true ∧ rk (o i) = i

section
variable {n : Nat} {L : Nat → Nat} {e : Nat → Nat → Nat} {dn : Nat → Bool} {rk o : Nat → Nat} {l : Nat}

theorem Ord.start : Ord n L e (fun _ => false) (fun _ => 0) (fun _ => 0) 0 :=
  ⟨countP_none (fun _ _ => rfl), fun v _ h => (by cases h), fun i hi => by omega⟩

theorem Ord.room (h : Ord n L e dn rk o l) {v : Nat} (hv : v < n) (hd : dn v = false) : l < n := by
  rcases Nat.lt_or_ge l n with h1 | h1
  · exact h1
  · have := countP_all (by rw [h.cntd]; exact h1) v hv
    rw [hd] at this; cases this
theorem Ord.full (h : Ord n L e dn rk o l) (hl : n ≤ l) (v : Nat) (hv : v < n) : dn v = true := countP_all (by rw [h.cntd]; exact hl) v hv

theorem Ord.add (h : Ord n L e dn rk o l) (he : ∀ i j, i < n → j < L i → e i j < n) {v : Nat} (hv : v < n) (hd : dn v = false) (hall : ∀ j, j < L v → dn (e v j) = true) :
    Ord n L e (upd dn v true) (upd rk v l) (upd o l v) (l + 1) := by
  have hne : ∀ u, dn u = true → u ≠ v := fun u hu q => by rw [q, hd] at hu; cases hu
  refine ⟨?_, ?_, ?_⟩
  · rw [countP_succ (p := dn) v hv hd (fun a _ => ?_), h.cntd]
    by_cases q : a = v
    · subst q; simp [upd]
    · rw [upd_other _ _ _ q]; simp [q]
  · intro u hu hp
    by_cases q : u = v
    · subst q
      refine ⟨by rw [upd_same]; omega, by rw [upd_same, upd_same], fun j hj => ?_⟩
      have h1 := hall j hj
      have h2 := h.done _ (he u j hv hj) h1
      rw [upd_other _ _ _ (hne _ h1), upd_other _ _ _ (hne _ h1), upd_same]
      exact ⟨h1, h2.1⟩
    · rw [upd_other _ _ _ q] at hp
      obtain ⟨h1, h2, h3⟩ := h.done u hu hp
      rw [upd_other _ _ _ q]
      refine ⟨by omega, ?_, fun j hj => ?_⟩
      · rw [upd_other _ _ _ (by omega)]; exact h2
      · have h4 := h3 j hj
        rw [upd_other _ _ _ (hne _ h4.1), upd_other _ _ _ (hne _ h4.1)]
        exact h4
  · intro i hi
    by_cases q : i = l
    · subst q; rw [upd_same]; exact ⟨hv, upd_same _ _ _, upd_same _ _ _⟩
    · obtain ⟨h1, h2, h3⟩ := h.ord i (by omega)
      rw [upd_other _ _ _ q, upd_other _ _ _ (hne _ h2), upd_other _ _ _ (hne _ h2)]
      exact ⟨h1, h2, h3⟩

/-- The closure of the first k entities of the order; the others' rows are empty. -/
structure Cl (n : Nat) (L : Nat → Nat) (e : Nat → Nat → Nat) (rk : Nat → Nat) (M : Nat → Nat → Bool) (C : Nat → Nat) (k : Nat) : Prop where
  fin : ∀ v, v < n → rk v < k → (∀ a, a < n → (M v a = true ↔ ∃ j, j < L v ∧ (e v j = a ∨ M (e v j) a = true))) ∧ C v = cnt n M v
  emp : ∀ v, v < n → k ≤ rk v → ∀ a, a < n → M v a = false

theorem Cl.start : Cl n L e rk (fun _ _ => false) (fun _ => 0) 0 := ⟨fun v _ h => by omega, fun _ _ _ _ _ => rfl⟩

/-- Row v after its first j controllers. -/
def any7 (e : Nat → Nat → Nat) (M : Nat → Nat → Bool) (v j b : Nat) : Bool := (List.range j).any (fun i => decide (e v i = b) || M (e v i) b)
def M7 (e : Nat → Nat → Nat) (M : Nat → Nat → Bool) (v j u b : Nat) : Bool := if u = v then any7 e M v j b else M u b
/-- .. and, of the next one, itself and the first a columns of its row. -/
def M8 (e : Nat → Nat → Nat) (M : Nat → Nat → Bool) (v j a u b : Nat) : Bool := if u = v then (any7 e M v j b || decide (b = e v j) || (decide (b < a) && M (e v j) b)) else M u b

theorem any7_succ (M : Nat → Nat → Bool) (v j b : Nat) : any7 e M v (j + 1) b = (any7 e M v j b || (decide (e v j = b) || M (e v j) b)) := by
  unfold any7; rw [List.range_succ, List.any_append]; simp
theorem any7_iff (M : Nat → Nat → Bool) (v j b : Nat) : any7 e M v j b = true ↔ ∃ i, i < j ∧ (e v i = b ∨ M (e v i) b = true) := by
  unfold any7; rw [List.any_eq_true]
  constructor
  · rintro ⟨i, hi, h⟩
    exact ⟨i, List.mem_range.1 hi, by simpa using h⟩
  · rintro ⟨i, hi, h⟩
    exact ⟨i, List.mem_range.2 hi, by simpa using h⟩
theorem M7_zero (M : Nat → Nat → Bool) (v u b : Nat) (h : M v b = false) : M7 e M v 0 u b = M u b := by
  unfold M7
  split
  · rename_i q; subst q; rw [h]; rfl
  · rfl
theorem M8_zero (M : Nat → Nat → Bool) (v j u b : Nat) : M8 e M v j 0 u b = if u = v ∧ b = e v j then true else M7 e M v j u b := by
  unfold M8 M7
  by_cases q : u = v
  · subst q
    by_cases q2 : b = e u j
    · subst q2; simp
    · simp [q2]
  · simp [q]
theorem M8_full (M : Nat → Nat → Bool) (v j u b : Nat) (hb : b < n) : M8 e M v j n u b = M7 e M v (j + 1) u b := by
  unfold M8 M7
  by_cases q : u = v
  · subst q
    rw [if_pos rfl, if_pos rfl, any7_succ]
    simp only [hb, decide_true, Bool.true_and, Bool.or_assoc]
    rw [show decide (b = e u j) = decide (e u j = b) by rw [decide_eq_decide]; exact ⟨fun h => h.symm, fun h => h.symm⟩]
  · rw [if_neg q, if_neg q]
theorem M8_row (M : Nat → Nat → Bool) (v j a b : Nat) (hne : e v j ≠ v) : M8 e M v j a (e v j) b = M (e v j) b := by
  unfold M8; rw [if_neg hne]
theorem M8_skip (M : Nat → Nat → Bool) (v j a u b : Nat) (h : M (e v j) a = false) : M8 e M v j (a + 1) u b = M8 e M v j a u b := by
  unfold M8
  by_cases q : u = v
  · rw [if_pos q, if_pos q]
    by_cases q2 : b = a
    · subst q2; simp [h]
    · rw [show decide (b < a + 1) = decide (b < a) by rw [decide_eq_decide]; omega]
  · rw [if_neg q, if_neg q]
theorem M8_take (M : Nat → Nat → Bool) (v j a u b : Nat) (h : M (e v j) a = true) : M8 e M v j (a + 1) u b = if u = v ∧ b = a then true else M8 e M v j a u b := by
  unfold M8
  by_cases q : u = v
  · rw [if_pos q, if_pos q]
    by_cases q2 : b = a
    · subst q2; rw [if_pos ⟨q, rfl⟩]; simp [h]
    · rw [if_neg (fun x => q2 x.2), show decide (b < a + 1) = decide (b < a) by rw [decide_eq_decide]; omega]
  · rw [if_neg q, if_neg q, if_neg (fun x => q x.1)]

theorem Cl.next {M : Nat → Nat → Bool} {C : Nat → Nat} {k : Nat} (h : Cl n L e rk M C k) (he : ∀ i j, i < n → j < L i → e i j < n) (hO : Ord n L e dn rk o n) (hk : k < n) :
    Cl n L e rk (M7 e M (o k) (L (o k))) (upd C (o k) (cnt n (M7 e M (o k) (L (o k))) (o k))) (k + 1) := by
  obtain ⟨hv, hdv, hrv⟩ := hO.ord k hk
  have hinj : ∀ u, u < n → rk u = k → u = o k := fun u hu q => by
    have := (hO.done u hu (hO.full (Nat.le_refl _) u hu)).2.1
    rw [q] at this; exact this.symm
  have hlow : ∀ u, u < n → ∀ j, j < L u → rk (e u j) < rk u := fun u hu j hj => ((hO.done u hu (hO.full (Nat.le_refl _) u hu)).2.2 j hj).2
  have hrow : ∀ u b, u ≠ o k → M7 e M (o k) (L (o k)) u b = M u b := fun u b q => if_neg q
  have hcnt : ∀ u, u ≠ o k → cnt n (M7 e M (o k) (L (o k))) u = cnt n M u := fun u q => by
    unfold cnt; apply List.countP_congr; intro b _; rw [hrow u b q]
  refine ⟨fun u hu hru => ?_, fun u hu hru a ha => ?_⟩
  · by_cases q : u = o k
    · subst q
      refine ⟨fun a ha => ?_, upd_same _ _ _⟩
      have hx : M7 e M (o k) (L (o k)) (o k) a = any7 e M (o k) (L (o k)) a := if_pos rfl
      rw [hx, any7_iff]
      constructor
      · rintro ⟨j, hj, h1⟩
        refine ⟨j, hj, ?_⟩
        rw [hrow _ _ (fun q => by have := hlow _ hu j hj; rw [q] at this; omega)]
        exact h1
      · rintro ⟨j, hj, h1⟩
        refine ⟨j, hj, ?_⟩
        rw [hrow _ _ (fun q => by have := hlow _ hu j hj; rw [q] at this; omega)] at h1
        exact h1
    · have hru' : rk u < k := by
        rcases Nat.lt_or_ge (rk u) k with h1 | h1
        · exact h1
        · exact absurd (hinj u hu (by omega)) q
      obtain ⟨h1, h2⟩ := h.fin u hu hru'
      refine ⟨fun a ha => ?_, ?_⟩
      · rw [hrow u a q, h1 a ha]
        have hsame : ∀ j, j < L u → M7 e M (o k) (L (o k)) (e u j) a = M (e u j) a := fun j hj => hrow _ _ (fun q2 => by have := hlow u hu j hj; rw [q2, hrv] at this; omega)
        constructor
        · rintro ⟨j, hj, h3⟩; exact ⟨j, hj, by rw [hsame j hj]; exact h3⟩
        · rintro ⟨j, hj, h3⟩; rw [hsame j hj] at h3; exact ⟨j, hj, h3⟩
      · rw [upd_other _ _ _ q, h2, hcnt u q]
  · have q : u ≠ o k := fun q => by rw [q, hrv] at hru; omega
    rw [hrow u a q]
    exact h.emp u hu (by omega) a ha

theorem Cl.ctl {M : Nat → Nat → Bool} {C : Nat → Nat} (h : Cl n L e rk M C n) (he : ∀ i j, i < n → j < L i → e i j < n) (hO : Ord n L e dn rk o n) : Ctl n L e M rk ∧ ∀ i, i < n → C i = cnt n M i := by
  have hr : ∀ v, v < n → rk v < n := fun v hv => (hO.done v hv (hO.full (Nat.le_refl _) v hv)).1
  refine ⟨⟨?_, ?_, ?_⟩, fun i hi => (h.fin i hi (hr i hi)).2⟩
  · rintro v d hv ⟨j, hj, rfl⟩; exact he v j hv hj
  · intro v a hv ha
    rw [(h.fin v hv (hr v hv)).1 a ha]
    constructor
    · rintro ⟨j, hj, h1⟩; exact ⟨e v j, ⟨j, hj, rfl⟩, h1⟩
    · rintro ⟨d, ⟨j, hj, rfl⟩, h1⟩; exact ⟨j, hj, h1⟩
  · rintro v d hv ⟨j, hj, rfl⟩; exact ((hO.done v hv (hO.full (Nat.le_refl _) v hv)).2.2 j hj).2
end

/-- The matrix's cell at place j. -/
theorem place_iff {n v a j : Nat} (hn : 0 < n) (ha : a < n) : (j = v * n + a) ↔ (j / n = v ∧ j % n = a) := by
  constructor
  · rintro rfl
    have h1 : (v * n + a) / n = v := by rw [Nat.mul_comm, Nat.mul_add_div hn, Nat.div_eq_of_lt ha, Nat.add_zero]
    have h2 : (v * n + a) % n = a := by rw [Nat.mul_comm, Nat.mul_add_mod, Nat.mod_eq_of_lt ha]
    exact ⟨h1, h2⟩
  · rintro ⟨rfl, rfl⟩
    have := Nat.div_add_mod j n
    rw [Nat.mul_comm] at this
    omega

end Go.Proofs.Qxb6604114a
