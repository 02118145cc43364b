/-
  PLAIN: direct control (entity v has L v controllers, the j-th of them e v j), its closure A, how many control v, chains; the state as 'place' keeps it, and what one placing does to it.
-/
namespace Go.Proofs.Qxb6604114a
set_option linter.unusedVariables false

/-- d is among v's direct controllers. -/
def Dir (L : Nat → Nat) (e : Nat → Nat → Nat) (v d : Nat) : Prop := ∃ j, j < L v ∧ e v j = d

/-- A is the closure of direct control, which has no cycle (rk falls). -/
structure Ctl (n : Nat) (L : Nat → Nat) (e : Nat → Nat → Nat) (A : Nat → Nat → Bool) (rk : Nat → Nat) : Prop where
  rng : ∀ v d, v < n → Dir L e v d → d < n
  step : ∀ v a, v < n → a < n → (A v a = true ↔ ∃ d, Dir L e v d ∧ (d = a ∨ A d a = true))
  rank : ∀ v d, v < n → Dir L e v d → rk d < rk v

/-- How many control v. -/
def cnt (n : Nat) (A : Nat → Nat → Bool) (v : Nat) : Nat := (List.range n).countP (A v)

/-! ### counting -/
theorem countP_le (p q : Nat → Bool) (h : ∀ a, p a = true → q a = true) (l : List Nat) : l.countP p ≤ l.countP q := by
  induction l with
  | nil => simp
  | cons x l ih =>
    rw [List.countP_cons, List.countP_cons]
    by_cases hp : p x = true
    · rw [if_pos hp, if_pos (h x hp)]; omega
    · rw [if_neg hp]; split <;> omega
theorem countP_lt {n : Nat} {p q : Nat → Bool} (h : ∀ a, p a = true → q a = true) (k : Nat) (hk : k < n) (hq : q k = true) (hp : p k = false) : (List.range n).countP p < (List.range n).countP q := by
  induction n with
  | zero => omega
  | succ n ih =>
    rw [List.range_succ, List.countP_append, List.countP_append]
    have hle := countP_le p q h (List.range n)
    by_cases e : k = n
    · subst e
      simp only [List.countP_cons, List.countP_nil, hq, hp]
      simp; omega
    · have := ih (by omega)
      have h1 := countP_le p q h [n]
      omega
theorem countP_succ {n : Nat} {p q : Nat → Bool} (k : Nat) (hk : k < n) (hp : p k = false) (h : ∀ a, a < n → (q a = true ↔ (a = k ∨ p a = true))) : (List.range n).countP q = (List.range n).countP p + 1 := by
  have key : ∀ m, m ≤ n → (List.range m).countP q = (List.range m).countP p + if k < m then 1 else 0 := by
    intro m
    induction m with
    | zero => intro _; simp
    | succ m ih =>
      intro hm
      rw [List.range_succ, List.countP_append, List.countP_append, ih (by omega)]
      have hq := h m (by omega)
      by_cases e : m = k
      · subst e
        have : q m = true := hq.2 (.inl rfl)
        simp only [List.countP_cons, List.countP_nil, this, hp]
        simp
      · have hqp : q m = p m := by
          cases hpm : p m
          · cases hqm : q m
            · rfl
            · rcases hq.1 hqm with h1 | h1
              · exact absurd h1 e
              · rw [hpm] at h1; cases h1
          · exact hq.2 (.inr hpm)
        simp only [List.countP_cons, List.countP_nil, hqp]
        by_cases h1 : k < m
        · have e1 : (if k < m then 1 else 0) = (1 : Nat) := if_pos h1
          have e2 : (if k < m + 1 then 1 else 0) = (1 : Nat) := if_pos (by omega)
          rw [e1, e2]; omega
        · have e1 : (if k < m then 1 else 0) = (0 : Nat) := if_neg h1
          have e2 : (if k < m + 1 then 1 else 0) = (0 : Nat) := if_neg (by omega)
          rw [e1, e2]; omega
  have := key n (Nat.le_refl _)
  rw [if_pos hk] at this
  exact this
theorem countP_zero {n : Nat} {p : Nat → Bool} (h : (List.range n).countP p = 0) (a : Nat) (ha : a < n) : p a = false := by
  cases hp : p a
  · rfl
  · have := countP_lt (n := n) (p := fun _ => false) (q := p) (fun _ hx => by cases hx) a ha hp rfl
    omega
theorem countP_none {n : Nat} {p : Nat → Bool} (h : ∀ a, a < n → p a = false) : (List.range n).countP p = 0 := by
  rw [List.countP_eq_zero]
  intro a ha
  rw [h a (List.mem_range.1 ha)]; simp
theorem countP_all {n : Nat} {p : Nat → Bool} (h : n ≤ (List.range n).countP p) (a : Nat) (ha : a < n) : p a = true := by
  have hle := List.countP_le_length (p := p) (l := List.range n)
  rw [List.length_range] at hle
  have : (List.range n).countP p = (List.range n).length := by rw [List.length_range]; omega
  exact List.countP_eq_length.1 this a (List.mem_range.2 ha)
theorem countP_upto {p : Nat → Bool} (k : Nat) : (List.range (k + 1)).countP p = (List.range k).countP p + if p k = true then 1 else 0 := by
  rw [List.range_succ, List.countP_append]; simp [List.countP_cons]
theorem countP_le_n (p : Nat → Bool) (n : Nat) : (List.range n).countP p ≤ n := by
  have hle := List.countP_le_length (p := p) (l := List.range n)
  rwa [List.length_range] at hle

section
variable {n : Nat} {L : Nat → Nat} {e : Nat → Nat → Nat} {A : Nat → Nat → Bool} {rk : Nat → Nat}

theorem Ctl.dir (h : Ctl n L e A rk) {v d : Nat} (hv : v < n) (hd : Dir L e v d) : A v d = true := (h.step v d hv (h.rng v d hv hd)).2 ⟨d, hd, .inl rfl⟩

theorem Ctl.lt_rank (h : Ctl n L e A rk) : ∀ (m v a : Nat), rk v ≤ m → v < n → a < n → A v a = true → rk a < rk v := by
  intro m
  induction m with
  | zero =>
    intro v a hm hv ha hA
    obtain ⟨d, hd, _⟩ := (h.step v a hv ha).1 hA
    have := h.rank v d hv hd
    omega
  | succ m ih =>
    intro v a hm hv ha hA
    obtain ⟨d, hd, h1⟩ := (h.step v a hv ha).1 hA
    have hr := h.rank v d hv hd
    rcases h1 with rfl | h1
    · exact hr
    · have := ih d a (by omega) (h.rng v d hv hd) ha h1
      omega
theorem Ctl.irrefl (h : Ctl n L e A rk) {v : Nat} (hv : v < n) : A v v = false := by
  cases hA : A v v
  · rfl
  · have := h.lt_rank _ v v (Nat.le_refl _) hv hv hA; omega

theorem Ctl.trans' (h : Ctl n L e A rk) : ∀ (m v a b : Nat), rk v ≤ m → v < n → a < n → b < n → A v a = true → A a b = true → A v b = true := by
  intro m
  induction m with
  | zero =>
    intro v a b hm hv ha hb h1 h2
    obtain ⟨d, hd, _⟩ := (h.step v a hv ha).1 h1
    have := h.rank v d hv hd
    omega
  | succ m ih =>
    intro v a b hm hv ha hb h1 h2
    obtain ⟨d, hd, h3⟩ := (h.step v a hv ha).1 h1
    have hr := h.rank v d hv hd
    have hdn := h.rng v d hv hd
    rcases h3 with rfl | h3
    · exact (h.step v b hv hb).2 ⟨d, hd, .inr h2⟩
    · exact (h.step v b hv hb).2 ⟨d, hd, .inr (ih d a b (by omega) hdn ha hb h3 h2)⟩
theorem Ctl.trans (h : Ctl n L e A rk) {v a b : Nat} (hv : v < n) (ha : a < n) (hb : b < n) (h1 : A v a = true) (h2 : A a b = true) : A v b = true := h.trans' _ v a b (Nat.le_refl _) hv ha hb h1 h2

/-- The matrix is only asked below n: outside it may hold anything; where we count it does not matter. -/
theorem Ctl.cnt_lt (h : Ctl n L e A rk) {v a : Nat} (hv : v < n) (ha : a < n) (hA : A v a = true) : cnt n A a < cnt n A v := by
  have h1 : (List.range n).countP (fun b => A a b && decide (b < n)) < (List.range n).countP (fun b => A v b && decide (b < n)) := by
    refine countP_lt (fun b hb => ?_) a ha (by simp [hA, ha]) (by simp [h.irrefl ha])
    simp at hb ⊢
    exact ⟨h.trans hv ha hb.2 hA hb.1, hb.2⟩
  have h2 : ∀ u, (List.range n).countP (fun b => A u b && decide (b < n)) = cnt n A u := by
    intro u
    unfold cnt
    apply List.countP_congr
    intro b hb
    have := List.mem_range.1 hb
    simp [this]
  rw [h2, h2] at h1
  exact h1

/-- Those that control v form one chain. -/
def Good (n : Nat) (A : Nat → Nat → Bool) (v : Nat) : Prop := ∀ a b, a < n → b < n → A v a = true → A v b = true → a = b ∨ A a b = true ∨ A b a = true

def lowP (n : Nat) (A : Nat → Nat → Bool) (v a : Nat) : Bool := A v a && decide (cnt n A a + 1 = cnt n A v)
/-- The lowest of those that control v, as the model asks for it. -/
def low (n : Nat) (A : Nat → Nat → Bool) (v : Nat) : Int := if cnt n A v = 0 then -1 else match (List.range n).find? (lowP n A v) with
  | some a => (a : Int)
  | none => -2

theorem find_range {p : Nat → Bool} {n a : Nat} (ha : a < n) (hp : p a = true) (hb : ∀ b, b < a → p b = false) : (List.range n).find? p = some a := by
  rw [List.find?_range_eq_some]
  exact ⟨hp, List.mem_range.2 ha, fun j hj => by simp [hb j hj]⟩
theorem find_range_none {p : Nat → Bool} {n : Nat} (hb : ∀ b, b < n → p b = false) : (List.range n).find? p = none := by
  rw [List.find?_eq_none]
  intro b hb'
  simp [hb b (List.mem_range.1 hb')]

theorem low_zero {v : Nat} (h : cnt n A v = 0) : low n A v = -1 := by unfold low; rw [if_pos h]
theorem low_some {v a : Nat} (ha : a < n) (hp : lowP n A v a = true) (hb : ∀ b, b < a → lowP n A v b = false) : low n A v = (a : Int) := by
  have hc : ¬ cnt n A v = 0 := by
    unfold lowP at hp; simp at hp; omega
  unfold low
  rw [if_neg hc, find_range ha hp hb]
theorem low_none {v : Nat} (hc : ¬ cnt n A v = 0) (hb : ∀ b, b < n → lowP n A v b = false) : low n A v = -2 := by
  unfold low
  rw [if_neg hc, find_range_none hb]

/-- Of two on a chain, the one with fewer above it is above. -/
theorem Ctl.chain (h : Ctl n L e A rk) {v a b : Nat} (hv : v < n) (ha : a < n) (hb : b < n) (hg : Good n A v) (h1 : A v a = true) (h2 : A v b = true) (hc : cnt n A a ≤ cnt n A b) : a = b ∨ A b a = true := by
  rcases hg a b ha hb h1 h2 with rfl | h3 | h3
  · exact .inl rfl
  · have := h.cnt_lt ha hb h3; omega
  · exact .inr h3

/-- If all that control v are k and those that control k, then one more controls v than k, v's chain is good if k's is, and k is v's lowest. -/
theorem Ctl.link (h : Ctl n L e A rk) {v k : Nat} (hv : v < n) (hk : k < n) (hall : ∀ a, a < n → (A v a = true ↔ (a = k ∨ A k a = true))) (hg : Good n A k) :
    cnt n A v = cnt n A k + 1 ∧ Good n A v ∧ low n A v = (k : Int) := by
  have hc : cnt n A v = cnt n A k + 1 := countP_succ k hk (h.irrefl hk) hall
  have hvk : A v k = true := (hall k hk).2 (.inl rfl)
  refine ⟨hc, ?_, ?_⟩
  · intro a b ha hb h1 h2
    rcases (hall a ha).1 h1 with rfl | h1
    · rcases (hall b hb).1 h2 with rfl | h2
      · exact .inl rfl
      · exact .inr (.inl h2)
    · rcases (hall b hb).1 h2 with rfl | h2
      · exact .inr (.inr h1)
      · exact hg a b ha hb h1 h2
  · refine low_some hk (by unfold lowP; simp [hvk, hc]) (fun b hb => ?_)
    unfold lowP
    cases hvb : A v b
    · rfl
    · have hbn : b < n := by omega
      rcases (hall b hbn).1 hvb with rfl | h1
      · omega
      · have := h.cnt_lt hk hbn h1
        simp; omega

/-- On a chain that is not empty there is a lowest. -/
theorem Ctl.lowest (h : Ctl n L e A rk) {v : Nat} (hv : v < n) (hg : Good n A v) (hc : 0 < cnt n A v) : ∃ k, k < n ∧ low n A v = (k : Int) ∧ A v k = true ∧ cnt n A k + 1 = cnt n A v ∧ ∀ a, a < n → (A v a = true ↔ (a = k ∨ A k a = true)) := by
  have hex : ∃ a, a < n ∧ A v a = true := by
    apply Classical.byContradiction
    intro hno
    have : cnt n A v = 0 := countP_none (fun a ha => by
      cases hA : A v a
      · rfl
      · exact absurd ⟨a, ha, hA⟩ hno)
    omega
  have hmax : ∀ m, (∃ a, a < n ∧ A v a = true ∧ m ≤ cnt n A a) → ∃ k, k < n ∧ A v k = true ∧ ∀ a, a < n → A v a = true → cnt n A a ≤ cnt n A k := by
    intro m
    have : ∀ f m, n ≤ m + f → (∃ a, a < n ∧ A v a = true ∧ m ≤ cnt n A a) → ∃ k, k < n ∧ A v k = true ∧ ∀ a, a < n → A v a = true → cnt n A a ≤ cnt n A k := by
      intro f
      induction f with
      | zero =>
        intro m hm ⟨a, ha, h1, h2⟩
        refine ⟨a, ha, h1, fun b hb hAb => ?_⟩
        have := countP_le_n (A b) n
        unfold cnt at h2 ⊢
        omega
      | succ f ih =>
        intro m hm ⟨a, ha, h1, h2⟩
        by_cases hx : ∃ b, b < n ∧ A v b = true ∧ cnt n A a + 1 ≤ cnt n A b
        · obtain ⟨b, hb, hAb, hcb⟩ := hx
          exact ih (m + 1) (by omega) ⟨b, hb, hAb, by omega⟩
        · refine ⟨a, ha, h1, fun b hb hAb => ?_⟩
          apply Classical.byContradiction
          intro hlt
          exact hx ⟨b, hb, hAb, by omega⟩
    exact this n m (by omega)
  obtain ⟨a0, ha0, hA0⟩ := hex
  obtain ⟨k, hk, hAk, hm⟩ := hmax 0 ⟨a0, ha0, hA0, Nat.zero_le _⟩
  have hall : ∀ a, a < n → (A v a = true ↔ (a = k ∨ A k a = true)) := by
    intro a ha
    constructor
    · intro h1; exact h.chain hv ha hk hg h1 hAk (hm a ha h1)
    · rintro (rfl | h1)
      · exact hAk
      · exact h.trans hv hk ha hAk h1
  have hgk : Good n A k := fun a b ha hb h1 h2 => hg a b ha hb (h.trans hv hk ha hAk h1) (h.trans hv hk hb hAk h2)
  obtain ⟨l1, _, l3⟩ := h.link hv hk hall hgk
  exact ⟨k, hk, l3, hAk, l1.symm, hall⟩

/-! ### the state -/
structure Inv (n : Nat) (L : Nat → Nat) (e : Nat → Nat → Nat) (A : Nat → Nat → Bool) (pl : Nat → Bool) (pa de : Nat → Int) : Prop where
  closed : ∀ v d, v < n → pl v = true → Dir L e v d → pl d = true
  good : ∀ v, v < n → pl v = true → Good n A v
  depth : ∀ v, v < n → pl v = true → de v = (cnt n A v : Int)
  parent : ∀ v, v < n → pl v = true → pa v = low n A v
  bare : ∀ v, v < n → pl v = false → L v = 0 → de v = 0

def Clo (A : Nat → Nat → Bool) (x v : Nat) : Prop := v = x ∨ A x v = true

/-- What a placing does to the state, whatever it answers. -/
structure Res (n : Nat) (L : Nat → Nat) (e : Nat → Nat → Nat) (A : Nat → Nat → Bool) (x : Nat) (pl : Nat → Bool) (pa de : Nat → Int) (pl' : Nat → Bool) (pa' de' : Nat → Int) : Prop where
  inv : Inv n L e A pl' pa' de'
  mono : ∀ v, v < n → pl v = true → pl' v = true
  new : ∀ v, v < n → pl' v = true → pl v = false → Clo A x v
  keep : ∀ v, v < n → pl' v = pl v → pa' v = pa v ∧ de' v = de v

theorem Res.refl {x : Nat} {pl : Nat → Bool} {pa de : Nat → Int} (h : Inv n L e A pl pa de) : Res n L e A x pl pa de pl pa de :=
  ⟨h, fun _ _ h => h, fun v _ h1 h2 => (by rw [h1] at h2; cases h2), fun _ _ _ => ⟨rfl, rfl⟩⟩

/-- A placing of one of x's controllers, behind what was done for x so far. -/
theorem Res.then_ (h : Ctl n L e A rk) {x d : Nat} (hx : x < n) (hd : Dir L e x d) {pl pl1 pl2 : Nat → Bool} {pa de pa1 de1 pa2 de2 : Nat → Int} (h1 : Res n L e A x pl pa de pl1 pa1 de1) (h2 : Res n L e A d pl1 pa1 de1 pl2 pa2 de2) : Res n L e A x pl pa de pl2 pa2 de2 := by
  have hdn := h.rng x d hx hd
  have hxd := h.dir hx hd
  refine ⟨h2.inv, fun v hv h3 => h2.mono v hv (h1.mono v hv h3), fun v hv h3 h4 => ?_, fun v hv h3 => ?_⟩
  · cases h5 : pl1 v
    · rcases h2.new v hv h3 h5 with rfl | h6
      · exact .inr hxd
      · exact .inr (h.trans hx hdn hv hxd h6)
    · exact h1.new v hv h5 h4
  · have h5 : pl1 v = pl v := by
      cases h6 : pl v
      · cases h7 : pl1 v
        · rfl
        · have := h2.mono v hv h7; rw [h3, h6] at this; cases this
      · exact h1.mono v hv h6
    have k1 := h1.keep v hv h5
    have k2 := h2.keep v hv (h3.trans h5.symm)
    exact ⟨k2.1.trans k1.1, k2.2.trans k1.2⟩

/-- The controller with the longest chain among the first j (-1 where there is none). -/
structure Near (n : Nat) (L : Nat → Nat) (e : Nat → Nat → Nat) (A : Nat → Nat → Bool) (x j : Nat) (near : Int) : Prop where
  none : j = 0 → near = -1
  some : 0 < j → ∃ i, i < j ∧ near = (e x i : Int) ∧ ∀ i', i' < j → cnt n A (e x i') ≤ cnt n A (e x i)

theorem Near.start {x : Nat} : Near n L e A x 0 (-1) := ⟨fun _ => rfl, fun h => by omega⟩
theorem Near.take {x j : Nat} {near : Int} (h : Near n L e A x j near) (hn : near < 0 ∨ ∃ k : Nat, near = (k : Int) ∧ cnt n A k < cnt n A (e x j)) : Near n L e A x (j + 1) (e x j : Int) := by
  refine ⟨fun h => by omega, fun _ => ⟨j, by omega, rfl, fun i' hi' => ?_⟩⟩
  by_cases e1 : i' = j
  · subst e1; exact Nat.le_refl _
  · obtain ⟨i, hi, hnear, hmax⟩ := h.some (by omega)
    rcases hn with hn | ⟨k, hk, hc⟩
    · omega
    · have : k = e x i := by omega
      subst this
      have := hmax i' (by omega)
      omega
theorem Near.keep {x j : Nat} {near : Int} (h : Near n L e A x j near) (k : Nat) (hk : near = (k : Int)) (hc : cnt n A (e x j) ≤ cnt n A k) : Near n L e A x (j + 1) near := by
  by_cases hj : j = 0
  · have := h.none hj; omega
  · obtain ⟨i, hi, hnear, hmax⟩ := h.some (by omega)
    refine ⟨fun h => by omega, fun _ => ⟨i, by omega, hnear, fun i' hi' => ?_⟩⟩
    by_cases e1 : i' = j
    · subst e1
      have : k = e x i := by omega
      subst this
      exact hc
    · exact hmax i' (by omega)

def upd {α : Type} (f : Nat → α) (x : Nat) (y : α) (v : Nat) : α := if v = x then y else f v
theorem upd_same {α : Type} (f : Nat → α) (x : Nat) (y : α) : upd f x y x = y := if_pos rfl
theorem upd_other {α : Type} (f : Nat → α) (x : Nat) (y : α) {v : Nat} (h : v ≠ x) : upd f x y v = f v := if_neg h

/-- The last step of a placing: x is placed below near. -/
theorem Inv.place (h : Ctl n L e A rk) {x : Nat} (hx : x < n) {pl : Nat → Bool} {pa de : Nat → Int} (hI : Inv n L e A pl pa de) (hpx : pl x = false) (hall : ∀ d, Dir L e x d → pl d = true) {near : Int} (hN : Near n L e A x (L x) near)
    (hch : ∀ d k : Nat, Dir L e x d → near = (k : Int) → d = k ∨ A k d = true) :
    Inv n L e A (upd pl x true) (upd pa x near) (if 0 ≤ near then upd de x (de near.toNat + 1) else de) ∧
      Res n L e A x pl pa de (upd pl x true) (upd pa x near) (if 0 ≤ near then upd de x (de near.toNat + 1) else de) := by
  have main : Good n A x ∧ (if 0 ≤ near then upd de x (de near.toNat + 1) else de) x = (cnt n A x : Int) ∧ near = low n A x := by
    by_cases hL : L x = 0
    · have hn := hN.none hL
      have hno : ∀ a, a < n → A x a = false := by
        intro a ha
        cases hA : A x a
        · rfl
        · obtain ⟨d, ⟨j, hj, _⟩, _⟩ := (h.step x a hx ha).1 hA
          omega
      have hc : cnt n A x = 0 := countP_none hno
      refine ⟨fun a b ha hb h1 => (by rw [hno a ha] at h1; cases h1), ?_, by rw [hn, low_zero hc]⟩
      rw [hn, if_neg (by omega), hI.bare x hx hpx hL, hc]; rfl
    · obtain ⟨i, hi, hnear, hmax⟩ := hN.some (by omega)
      have hdk : Dir L e x (e x i) := ⟨i, hi, rfl⟩
      have hkn := h.rng x _ hx hdk
      have hpk := hall _ hdk
      have hallA : ∀ a, a < n → (A x a = true ↔ (a = e x i ∨ A (e x i) a = true)) := by
        intro a ha
        constructor
        · intro hA
          obtain ⟨d, hd, h1⟩ := (h.step x a hx ha).1 hA
          have hdn := h.rng x d hx hd
          rcases hch d (e x i) hd hnear with rfl | h2
          · rcases h1 with rfl | h1
            · exact .inl rfl
            · exact .inr h1
          · rcases h1 with rfl | h1
            · exact .inr h2
            · exact .inr (h.trans hkn hdn ha h2 h1)
        · rintro (rfl | h1)
          · exact h.dir hx hdk
          · exact h.trans hx hkn ha (h.dir hx hdk) h1
      obtain ⟨l1, l2, l3⟩ := h.link hx hkn hallA (hI.good _ hkn hpk)
      refine ⟨l2, ?_, by rw [hnear, l3]⟩
      rw [if_pos (by omega), upd_same, hnear, Int.toNat_natCast, hI.depth _ hkn hpk, l1]
      rfl
  have hde : ∀ v, v ≠ x → (if 0 ≤ near then upd de x (de near.toNat + 1) else de) v = de v := by
    intro v hv
    split
    · exact upd_other _ _ _ hv
    · rfl
  have inv' : Inv n L e A (upd pl x true) (upd pa x near) (if 0 ≤ near then upd de x (de near.toNat + 1) else de) := by
    refine ⟨?_, ?_, ?_, ?_, ?_⟩
    · intro v d hv hp hd
      by_cases hdx : d = x
      · rw [hdx, upd_same]
      · rw [upd_other _ _ _ hdx]
        by_cases hvx : v = x
        · subst hvx; exact hall d hd
        · rw [upd_other _ _ _ hvx] at hp; exact hI.closed v d hv hp hd
    · intro v hv hp
      by_cases hvx : v = x
      · subst hvx; exact main.1
      · rw [upd_other _ _ _ hvx] at hp; exact hI.good v hv hp
    · intro v hv hp
      by_cases hvx : v = x
      · subst hvx; exact main.2.1
      · rw [upd_other _ _ _ hvx] at hp; rw [hde v hvx]; exact hI.depth v hv hp
    · intro v hv hp
      by_cases hvx : v = x
      · subst hvx; rw [upd_same]; exact main.2.2
      · rw [upd_other _ _ _ hvx] at hp; rw [upd_other _ _ _ hvx]; exact hI.parent v hv hp
    · intro v hv hp hL
      by_cases hvx : v = x
      · subst hvx; rw [upd_same] at hp; cases hp
      · rw [upd_other _ _ _ hvx] at hp; rw [hde v hvx]; exact hI.bare v hv hp hL
  refine ⟨inv', inv', ?_, ?_, ?_⟩
  · intro v hv hp
    by_cases hvx : v = x
    · subst hvx; exact upd_same _ _ _
    · rw [upd_other _ _ _ hvx]; exact hp
  · intro v hv hp hnp
    by_cases hvx : v = x
    · exact .inl hvx
    · rw [upd_other _ _ _ hvx, hnp] at hp; cases hp
  · intro v hv hp
    by_cases hvx : v = x
    · subst hvx; rw [upd_same, hpx] at hp; cases hp
    · rw [upd_other _ _ _ hvx, hde v hvx]; exact ⟨rfl, rfl⟩

/-- One step up in 'inChain'. -/
theorem Inv.up (h : Ctl n L e A rk) {pl : Nat → Bool} {pa de : Nat → Int} (hI : Inv n L e A pl pa de) {a b : Nat} (ha : a < n) (hb : b < n) (hpb : pl b = true) (hlt : cnt n A a < cnt n A b) :
    ∃ k, k < n ∧ pa b = (k : Int) ∧ pl k = true ∧ cnt n A a ≤ cnt n A k ∧ cnt n A k < cnt n A b ∧ ((a = b ∨ A b a = true) ↔ (a = k ∨ A k a = true)) := by
  obtain ⟨k, hk, hlow, hAk, hck, hall⟩ := h.lowest hb (hI.good b hb hpb) (by omega)
  have hclo : ∀ m v, rk v ≤ m → v < n → pl v = true → ∀ a, a < n → A v a = true → pl a = true := by
    intro m
    induction m with
    | zero =>
      intro v hm hv hp a ha hA
      obtain ⟨d, hd, _⟩ := (h.step v a hv ha).1 hA
      have := h.rank v d hv hd
      omega
    | succ m ih =>
      intro v hm hv hp a ha hA
      obtain ⟨d, hd, h1⟩ := (h.step v a hv ha).1 hA
      have hr := h.rank v d hv hd
      have hpd := hI.closed v d hv hp hd
      rcases h1 with rfl | h1
      · exact hpd
      · exact ih d (by omega) (h.rng v d hv hd) hpd a ha h1
  refine ⟨k, hk, by rw [hI.parent b hb hpb, hlow], hclo _ b (Nat.le_refl _) hb hpb k hk hAk, by omega, by omega, ?_⟩
  constructor
  · rintro (rfl | h1)
    · omega
    · exact (hall a ha).1 h1
  · intro h1; exact .inr ((hall a ha).2 h1)

/-- All that control a placed entity are placed. -/
theorem Inv.clo (h : Ctl n L e A rk) {pl : Nat → Bool} {pa de : Nat → Int} (hI : Inv n L e A pl pa de) : ∀ m v, rk v ≤ m → v < n → pl v = true → ∀ a, a < n → A v a = true → pl a = true := by
  intro m
  induction m with
  | zero =>
    intro v hm hv hp a ha hA
    obtain ⟨d, hd, _⟩ := (h.step v a hv ha).1 hA
    have := h.rank v d hv hd
    omega
  | succ m ih =>
    intro v hm hv hp a ha hA
    obtain ⟨d, hd, h1⟩ := (h.step v a hv ha).1 hA
    have hr := h.rank v d hv hd
    have hpd := hI.closed v d hv hp hd
    rcases h1 with rfl | h1
    · exact hpd
    · exact ih d (by omega) (h.rng v d hv hd) hpd a ha h1

/-- A conflict: f has two direct controllers, neither of which controls the other. -/
structure Conf (n : Nat) (L : Nat → Nat) (e : Nat → Nat → Nat) (A : Nat → Nat → Bool) (x : Nat) (pl' : Nat → Bool) (f o t : Nat) : Prop where
  fn : f < n
  clo : Clo A x f
  un : pl' f = false
  ne : o ≠ t
  d1 : Dir L e f o
  d2 : Dir L e f t
  a1 : A o t = false
  a2 : A t o = false

theorem Conf.lift (h : Ctl n L e A rk) {x d f o t : Nat} (hx : x < n) (hd : Dir L e x d) {pl' : Nat → Bool} (hc : Conf n L e A d pl' f o t) : Conf n L e A x pl' f o t := by
  refine ⟨hc.fn, ?_, hc.un, hc.ne, hc.d1, hc.d2, hc.a1, hc.a2⟩
  rcases hc.clo with rfl | h1
  · exact .inr (h.dir hx hd)
  · exact .inr (h.trans hx (h.rng x d hx hd) hc.fn (h.dir hx hd) h1)
theorem Conf.bad (h : Ctl n L e A rk) {x f o t : Nat} {pl' : Nat → Bool} (hc : Conf n L e A x pl' f o t) : ¬ Good n A f := by
  intro hg
  rcases hg o t (h.rng f o hc.fn hc.d1) (h.rng f t hc.fn hc.d2) (h.dir hc.fn hc.d1) (h.dir hc.fn hc.d2) with h1 | h1 | h1
  · exact hc.ne h1
  · rw [hc.a1] at h1; cases h1
  · rw [hc.a2] at h1; cases h1
end

end Go.Proofs.Qxb6604114a
