/-
  THE LEAVES: what the walks say of slices of numbers, of bools, of rows, of the matrix; copies; the tests that only read.
-/
import Derived.Test.Qxb6604114aRows
import Derived.Test.Qxb6604114aPlain
import Derived.WalkKit
import Derived.WalkSpells
import Derived.WalkLawsBesides
import Derived.Deep.OwnRows
import Derived.Deep.Draws
import Derived.Deep.QuietTactic
import Derived.BigQuiet
import Derived.RegionTactic
import Derived.BigRegion
import Derived.Deep.DrawnRows
import Derived.Deep.DeepCutAuto
import Derived.Deep.CutBlock
namespace Go.Proofs.Qxb6604114a
open Go.RowKit
set_option linter.unusedVariables false

theorem hide {p : Prop} (h : p) : Hid p := h
theorem Try.info3 : (Try.prog.info? 3).map (fun i => (i.zero, i.size, i.bytes)) = some (some (.int .i64 0), 1, 8) := by kernel_rfl
theorem Try.info4 : (Try.prog.info? 4).map (fun i => (i.zero, i.size, i.bytes)) = some (some (.bool false), 1, 1) := by kernel_rfl
theorem Try.info30 : (Try.prog.info? 30).map (fun i => (i.zero, i.size, i.bytes)) = some (some (.slice none 0 0), 1, 24) := by kernel_rfl

theorem Below.drewN' {B : Nat} {a w : World} (h : Below B a w) (n : Nat) : Below B a (w.drewN n) := ⟨h.os, h.tape, h.output, h.size, h.block⟩
theorem drewN_drewN (w : World) (a b : Nat) : (w.drewN a).drewN b = w.drewN (a + b) := by simp only [World.drewN, Nat.add_assoc]

/-- n cells of a slice, the i-th of them 'F i'. -/
def Cells (w : World) (a : Option Addr) (n : Nat) (F : Nat → Value) : Prop :=
  0 < n → ∃ b o, a = some ⟨b, o, none⟩ ∧ ∀ i, i < n → w.cell? ⟨b, o + i, none⟩ = some (F i)
def Ints (w : World) (a : Option Addr) (n : Nat) (F : Nat → Int) : Prop := Cells w a n (fun i => .int .i64 (F i))
def Bools (w : World) (a : Option Addr) (n : Nat) (G : Nat → Bool) : Prop := Cells w a n (fun i => .bool (G i))

theorem Cells.below {w w' : World} {a : Option Addr} {n : Nat} {F : Nat → Value} (h : Cells w a n F) (hb : Below w.heap.size w w') : Cells w' a n F := fun hn => by
  obtain ⟨b, o, e, hc⟩ := h hn
  exact ⟨b, o, e, fun i hi => (hb.cell (World.block_lt_of_cell? _ _ (hc i hi))).trans (hc i hi)⟩
theorem Cells.congr {w : World} {a : Option Addr} {n : Nat} {F G : Nat → Value} (h : Cells w a n F) (hFG : ∀ i, i < n → F i = G i) : Cells w a n G := fun hn => by
  obtain ⟨b, o, e, hc⟩ := h hn
  exact ⟨b, o, e, fun i hi => by rw [hc i hi, hFG i hi]⟩
theorem Cells.of_row {w : World} {b n : Nat} {t : TypeId} {F : Nat → Value} (h : w.rowIs b t n F) : Cells w (some ⟨b, 0, none⟩) n F := fun _ => ⟨b, 0, rfl, fun i hi => by rw [Nat.zero_add]; exact h.cell hi⟩

/-- n rows; the i-th has L i numbers, the j-th of them 'E i j'. -/
def Rows2 (w : World) (a : Option Addr) (n : Nat) (L : Nat → Nat) (E : Nat → Nat → Int) : Prop :=
  0 < n → ∃ b o, a = some ⟨b, o, none⟩ ∧ ∀ i, i < n → ∃ ai ci, w.cell? ⟨b, o + i, none⟩ = some (.slice ai (L i) ci) ∧ Ints w ai (L i) (E i) ∧ (ai = none → L i = 0)
theorem Rows2.below {w w' : World} {a : Option Addr} {n : Nat} {L : Nat → Nat} {E : Nat → Nat → Int} (h : Rows2 w a n L E) (hb : Below w.heap.size w w') : Rows2 w' a n L E := fun hn => by
  obtain ⟨b, o, e, hc⟩ := h hn
  refine ⟨b, o, e, fun i hi => ?_⟩
  obtain ⟨ai, ci, h1, h2, h3⟩ := hc i hi
  exact ⟨ai, ci, (hb.cell (World.block_lt_of_cell? _ _ h1)).trans h1, h2.below hb, h3⟩

/-- The matrix: n rows of n bools in one slice. -/
def Mat (w : World) (a : Option Addr) (n : Nat) (A : Nat → Nat → Bool) : Prop :=
  0 < n → ∃ b o, a = some ⟨b, o, none⟩ ∧ ∀ v i, v < n → i < n → w.cell? ⟨b, o + (v * n + i), none⟩ = some (.bool (A v i))
theorem Mat.below {w w' : World} {a : Option Addr} {n : Nat} {A : Nat → Nat → Bool} (h : Mat w a n A) (hb : Below w.heap.size w w') : Mat w' a n A := fun hn => by
  obtain ⟨b, o, e, hc⟩ := h hn
  exact ⟨b, o, e, fun v i hv hi => (hb.cell (World.block_lt_of_cell? _ _ (hc v i hv hi))).trans (hc v i hv hi)⟩

theorem mat_bound {n N v : Nat} (hN : n * n = N) (hv : v < n) : v * n + n ≤ N := by
  rw [← hN]
  have := Nat.mul_le_mul_right n (show v + 1 ≤ n from hv)
  rw [Nat.add_mul, Nat.one_mul] at this
  exact this

/-- v is x or controls x, as the model asks. -/
def cloB (A : Nat → Nat → Bool) (x v : Nat) : Bool := decide (v = x) || A x v

set_option maxHeartbeats 400000 in
theorem inClosure_any (n N x v c : Nat) (a : Option Addr) (A : Nat → Nat → Bool) (hn : n ≤ 256) (hx : x < n) (hv : v < n) (hN : n * n = N) (hN2 : N ≤ 65536) (w : World) (hM : Mat w a n A) :
    Calls Try.prog 22 #[.int .i64 n, .slice a N c, .int .i64 x, .int .i64 v] w fun e w' => e = .returned (.bool (cloB A x v)) ∧ w' = w := by
  obtain ⟨b, o, rfl, hc⟩ := hM (by omega)
  have h1 := hc x v hx hv
  have hb := mat_bound hN hx
  obtain ⟨p, hp⟩ : ∃ p, x * n = p := ⟨_, rfl⟩
  rw [hp] at h1 hb
  have hpi : (x : Int) * (n : Int) = (p : Int) := by rw [← hp]; rfl
  have Hp := hide hp
  clear hp hc hM
  by_cases e1 : v = x
  · have t1 : ((v : Int) == (x : Int)) = true := by rw [beq_iff_eq]; omega
    have hfin : Hid (cloB A x v = true) := by show cloB A x v = true; simp [cloB, e1]
    clear e1
    go_enter Try.func22, Try.ntmps22
    go_wp2
    go_ret
    exact ⟨by rw [hfin.out]; rfl, rfl⟩
  · have t1 : ((v : Int) == (x : Int)) = false := by rw [beq_eq_false_iff_ne]; omega
    have hfin : Hid (cloB A x v = A x v) := by show cloB A x v = A x v; simp [cloB, e1]
    clear e1
    go_enter Try.func22, Try.ntmps22
    go_wp2
    go_ret
    exact ⟨by rw [hfin.out]; rfl, rfl⟩

theorem step_fun {α : Type} (G : Nat → α) (z : α) (k j : Nat) : (if j = k then G k else if j < k then G j else z) = if j < k + 1 then G j else z := by
  by_cases e : j = k
  · subst e; rw [if_pos rfl, if_pos (by omega)]
  · rw [if_neg e]
    by_cases e2 : j < k
    · rw [if_pos e2, if_pos (by omega)]
    · rw [if_neg e2, if_neg (by omega)]

set_option maxHeartbeats 400000 in
theorem copyInts_any (a : Option Addr) (n c : Nat) (F : Nat → Int) (hn : n ≤ 1048576) (w : World) (hnil : a = none → n = 0) (hI : Cells w a n (fun i => .int .i64 (F i))) :
    Calls Try.prog 17 #[.slice a n c] w fun e w' => (∃ a' c', e = .returned (.slice a' n c') ∧ Cells w' a' n (fun i => .int .i64 (F i)) ∧ (a' = none → n = 0) ∧ (a' = none ∨ (a' = some ⟨w.heap.size, 0, none⟩ ∧ c' = n ∧ w'.rowIs w.heap.size 3 n (fun i => .int .i64 (F i)) ∧ w'.heap.size = w.heap.size + 1))) ∧ Below w.heap.size w w' := by
  have heq : ∀ (w : World) (a : Option Addr) (n c n' c' : Nat), (binOp .eql 30 (.slice a n c) (.slice none n' c')).run Try.prog w = .ok (.bool a.isNone) w := fun w a n c n' c' => Lib.run_eql_slice_nil w _ _ a n c n' c' Try.underlying30
  have hmk := fun w => run_make_row' (P := Try.prog) 30 3 (.int .i64 0) 8 Try.underlying30 Try.info3 rfl .i64 .i64 n (by omega) (by omega) w
  cases a with
  | none =>
    obtain rfl := hnil rfl
    clear hnil hmk
    go_enter Try.func17, Try.ntmps17
    go_wp2
    go_ret
    exact ⟨⟨none, _, rfl, fun h => absurd h (by omega), by simp, .inl rfl⟩, Below.refl _ _⟩
  | some x =>
    clear hnil
    go_enter Try.func17, Try.ntmps17
    go_wp2
    go_loopw [4] (fun i wr => ∃ k : Nat, k ≤ n ∧ i = .int .i64 k ∧ wr.rowIs w.heap.size 3 n (fun j => if j < k then .int .i64 (F j) else .int .i64 0) ∧ wr.heap.size = w.heap.size + 1 ∧ Below w.heap.size w wr) (fun i _ => n - (intOf i).toNat)
    case atStart => exact ⟨0, Nat.zero_le _, rfl, (World.rowIs_made w _ n 3).congr (by intro i hi; simp), by simp, (Below.refl _ _).alloc (Nat.le_refl _) _⟩
    case round =>
      obtain ⟨k, hk, rfl, hrow, hsz, hbel⟩ := hrel
      have HS := hide hsz
      clear hsz
      by_cases hlt : k < n
      · obtain ⟨b, o, e, hc⟩ := hI (by omega)
        cases e
        have hcs := hc k hlt
        have hbs := World.block_lt_of_cell? _ _ hcs
        have hcr : wr.cell? ⟨b, o + k, none⟩ = some (.int .i64 (F k)) := (hbel.cell hbs).trans hcs
        have hcd := hrow.cell hlt
        have hcf := hrow.frozen k
        simp only [Nat.lt_irrefl, if_false] at hcd
        have hrow' := (hrow.set k (.int .i64 (F k))).congr (g := fun j => if j < k + 1 then .int .i64 (F j) else .int .i64 0) (fun j _ => step_fun (α := Value) (fun i => .int .i64 (F i)) (.int .i64 0) k j)
        have hbel' : Below w.heap.size w (wr.setCell ⟨w.heap.size, k, none⟩ (.int .i64 (F k))) := hbel.setCell (Nat.le_refl _) _
        clear hmk hcs hrow hbs hc hbel hI
        go_wp2
        go_roundw
        case rel => exact ⟨k + 1, by omega, by go_num, hrow', by simpa using HS.out, hbel'⟩
        case measure => simp [intOf]; omega
      · have hrow' := hrow.congr (g := fun j => .int .i64 (F j)) (by intro j hj; simp [show j < k by omega])
        clear hmk hrow hI
        go_wp2
        go_ret
        exact ⟨⟨_, _, rfl, Cells.of_row hrow', fun h => absurd h (by simp), .inr ⟨rfl, rfl, hrow', HS.out⟩⟩, hbel⟩

set_option maxHeartbeats 400000 in
theorem copyBools_any (a : Option Addr) (n c : Nat) (F : Nat → Bool) (hn : n ≤ 1048576) (w : World) (hnil : a = none → n = 0) (hI : Cells w a n (fun i => .bool (F i))) :
    Calls Try.prog 16 #[.slice a n c] w fun e w' => (∃ a' c', e = .returned (.slice a' n c') ∧ Cells w' a' n (fun i => .bool (F i)) ∧ (a' = none → n = 0) ∧ (a' = none ∨ (a' = some ⟨w.heap.size, 0, none⟩ ∧ c' = n ∧ w'.rowIs w.heap.size 4 n (fun i => .bool (F i)) ∧ w'.heap.size = w.heap.size + 1))) ∧ Below w.heap.size w w' := by
  have heq : ∀ (w : World) (a : Option Addr) (n c n' c' : Nat), (binOp .eql 29 (.slice a n c) (.slice none n' c')).run Try.prog w = .ok (.bool a.isNone) w := fun w a n c n' c' => Lib.run_eql_slice_nil w _ _ a n c n' c' Try.underlying29
  have hmk := fun w => run_make_row' (P := Try.prog) 29 4 (.bool false) 1 Try.underlying29 Try.info4 rfl .i64 .i64 n (by omega) (by omega) w
  cases a with
  | none =>
    obtain rfl := hnil rfl
    clear hnil hmk
    go_enter Try.func16, Try.ntmps16
    go_wp2
    go_ret
    exact ⟨⟨none, _, rfl, fun h => absurd h (by omega), by simp, .inl rfl⟩, Below.refl _ _⟩
  | some x =>
    clear hnil
    go_enter Try.func16, Try.ntmps16
    go_wp2
    go_loopw [4] (fun i wr => ∃ k : Nat, k ≤ n ∧ i = .int .i64 k ∧ wr.rowIs w.heap.size 4 n (fun j => if j < k then .bool (F j) else .bool false) ∧ wr.heap.size = w.heap.size + 1 ∧ Below w.heap.size w wr) (fun i _ => n - (intOf i).toNat)
    case atStart => exact ⟨0, Nat.zero_le _, rfl, (World.rowIs_made w _ n 4).congr (by intro i hi; simp), by simp, (Below.refl _ _).alloc (Nat.le_refl _) _⟩
    case round =>
      obtain ⟨k, hk, rfl, hrow, hsz, hbel⟩ := hrel
      have HS := hide hsz
      clear hsz
      by_cases hlt : k < n
      · obtain ⟨b, o, e, hc⟩ := hI (by omega)
        cases e
        have hcs := hc k hlt
        have hbs := World.block_lt_of_cell? _ _ hcs
        have hcr : wr.cell? ⟨b, o + k, none⟩ = some (.bool (F k)) := (hbel.cell hbs).trans hcs
        have hcd := hrow.cell hlt
        have hcf := hrow.frozen k
        simp only [Nat.lt_irrefl, if_false] at hcd
        have hrow' := (hrow.set k (.bool (F k))).congr (g := fun j => if j < k + 1 then .bool (F j) else .bool false) (fun j _ => step_fun (α := Value) (fun i => .bool (F i)) (.bool false) k j)
        have hbel' : Below w.heap.size w (wr.setCell ⟨w.heap.size, k, none⟩ (.bool (F k))) := hbel.setCell (Nat.le_refl _) _
        clear hmk hcs hrow hbs hc hbel hI
        go_wp2
        go_roundw
        case rel => exact ⟨k + 1, by omega, by go_num, hrow', by simpa using HS.out, hbel'⟩
        case measure => simp [intOf]; omega
      · have hrow' := hrow.congr (g := fun j => .bool (F j)) (by intro j hj; simp [show j < k by omega])
        clear hmk hrow hI
        go_wp2
        go_ret
        exact ⟨⟨_, _, rfl, Cells.of_row hrow', fun h => absurd h (by simp), .inr ⟨rfl, rfl, hrow', HS.out⟩⟩, hbel⟩

/-- .. whose block lies above B. -/
def CellsA (B : Nat) (w : World) (a : Option Addr) (n : Nat) (F : Nat → Value) : Prop :=
  0 < n → ∃ b o, a = some ⟨b, o, none⟩ ∧ B < b ∧ ∀ i, i < n → w.cell? ⟨b, o + i, none⟩ = some (F i)
theorem CellsA.below {B : Nat} {w w' : World} {a : Option Addr} {n : Nat} {F : Nat → Value} (h : CellsA B w a n F) (hb : Below w.heap.size w w') : CellsA B w' a n F := fun hn => by
  obtain ⟨b, o, e, hB, hc⟩ := h hn
  exact ⟨b, o, e, hB, fun i hi => (hb.cell (World.block_lt_of_cell? _ _ (hc i hi))).trans (hc i hi)⟩
theorem CellsA.setCell {B : Nat} {w : World} {a : Option Addr} {n : Nat} {F : Nat → Value} (h : CellsA B w a n F) (j : Nat) (v : Value) : CellsA B (w.setCell ⟨B, j, none⟩ v) a n F := fun hn => by
  obtain ⟨b, o, e, hB, hc⟩ := h hn
  refine ⟨b, o, e, hB, fun i hi => ?_⟩
  rw [World.cell?_setCell_other _ _ _ _ (by intro q; cases q; omega)]
  exact hc i hi
theorem CellsA.plain {B : Nat} {w : World} {a : Option Addr} {n : Nat} {F : Nat → Value} (h : CellsA B w a n F) : Cells w a n F := fun hn => by
  obtain ⟨b, o, e, _, hc⟩ := h hn
  exact ⟨b, o, e, hc⟩

set_option maxHeartbeats 1000000 in
theorem copyRows_any (a : Option Addr) (n c : Nat) (L : Nat → Nat) (E : Nat → Nat → Int) (hn : n ≤ 256) (hL : ∀ i, i < n → L i ≤ 1048576) (w : World) (hnil : a = none → n = 0) (hR : Rows2 w a n L E) :
    Calls Try.prog 9 #[.slice a n c] w fun e w' => (∃ a' c', e = .returned (.slice a' n c') ∧ Rows2 w' a' n L E ∧ (a' = none → n = 0)) ∧ Below w.heap.size w w' := by
  have heq : ∀ (w : World) (a : Option Addr) (n c n' c' : Nat), (binOp .eql 22 (.slice a n c) (.slice none n' c')).run Try.prog w = .ok (.bool a.isNone) w := fun w a n c n' c' => Lib.run_eql_slice_nil w _ _ a n c n' c' Try.underlying22
  have hmk := fun w => run_make_row' (P := Try.prog) 22 30 (.slice none 0 0) 24 Try.underlying22 Try.info30 rfl .i64 .i64 n (by omega) (by omega) w
  cases a with
  | none =>
    obtain rfl := hnil rfl
    clear hnil hmk
    go_enter Try.func9, Try.ntmps9
    go_wp2
    go_ret
    exact ⟨⟨none, _, rfl, fun h => absurd h (by omega), by simp⟩, Below.refl _ _⟩
  | some x =>
    clear hnil
    go_enter Try.func9, Try.ntmps9
    go_wp2
    go_loopw [4] (fun i wr => ∃ (k : Nat) (f : Nat → Value), k ≤ n ∧ i = .int .i64 k ∧ wr.rowIs w.heap.size 30 n f ∧ (∀ j, j < k → ∃ aj cj, f j = .slice aj (L j) cj ∧ CellsA w.heap.size wr aj (L j) (fun i => .int .i64 (E j i)) ∧ (aj = none → L j = 0)) ∧ Below w.heap.size w wr) (fun i _ => n - (intOf i).toNat)
    case atStart => exact ⟨0, _, Nat.zero_le _, rfl, World.rowIs_made w _ n 30, fun j hj => absurd hj (by omega), (Below.refl _ _).alloc (Nat.le_refl _) _⟩
    case round =>
      obtain ⟨k, f, hk, rfl, hrow, hdone, hbel⟩ := hrel
      have HD := hide hdone
      clear hdone
      by_cases hlt : k < n
      · obtain ⟨b, o, e, hc⟩ := hR (by omega)
        cases e
        obtain ⟨ai, ci, h1, h2, h3⟩ := hc k hlt
        have hbs := World.block_lt_of_cell? _ _ h1
        have hcr : wr.cell? ⟨b, o + k, none⟩ = some (.slice ai (L k) ci) := (hbel.cell hbs).trans h1
        have hI2 : Cells wr ai (L k) (fun i => .int .i64 (E k i)) := fun hp => by
          obtain ⟨b', o', e', hc'⟩ := h2 hp
          exact ⟨b', o', e', fun i hi => (hbel.cell (World.block_lt_of_cell? _ _ (hc' i hi))).trans (hc' i hi)⟩
        have HI := hide hI2
        have hLk := hL k hlt
        have hgt : w.heap.size < wr.heap.size := hrow.lt
        clear hmk hR hc h1 h2 hbs hI2 hL
        go_wp2_with fail
        refine (copyInts_any ai (L k) ci (E k) hLk _ h3 HI.out).mono ?_
        rintro _ w2 ⟨⟨a2, c2, rfl, hC2, hz2, hw2⟩, hb2⟩
        have hrow2 : w2.rowIs w.heap.size 30 n f := hrow.of_block (hb2.block _ hgt)
        have hbel2 : Below w.heap.size w w2 := hbel.trans (hb2.mono (by omega))
        have hA2 : CellsA w.heap.size w2 a2 (L k) (fun i => .int .i64 (E k i)) := fun hp => by
          obtain ⟨b', o', e', hc'⟩ := hC2 hp
          rcases hw2 with h | ⟨h, _⟩
          · rw [h] at e'; cases e'
          · rw [h] at e'; cases e'
            exact ⟨_, _, h, hgt, hc'⟩
        have d1 := hrow2.cell hlt
        have f1 := hrow2.frozen k
        have hrow3 := hrow2.set k (.slice a2 (L k) c2)
        have hbel3 := hbel2.setCell (p := ⟨w.heap.size, k, none⟩) (Nat.le_refl _) (.slice a2 (L k) c2)
        have hdone3 : ∀ j, j < k + 1 → ∃ aj cj, (fun j => if j = k then (.slice a2 (L k) c2) else f j) j = .slice aj (L j) cj ∧ CellsA w.heap.size (w2.setCell ⟨w.heap.size, k, none⟩ (.slice a2 (L k) c2)) aj (L j) (fun i => .int .i64 (E j i)) ∧ (aj = none → L j = 0) := by
          intro j hj
          by_cases e : j = k
          · subst e; exact ⟨a2, c2, by simp, hA2.setCell _ _, hz2⟩
          · obtain ⟨aj, cj, e1, e2, e3⟩ := HD.out j (by omega)
            exact ⟨aj, cj, by simp [e, e1], (e2.below hb2).setCell _ _, e3⟩
        have H3 := hide hdone3
        clear hdone3 hA2 hC2 hw2 hb2 hrow hrow2 hbel hbel2 hcr
        go_wp2
        go_roundw
        case rel => exact ⟨k + 1, _, by omega, by go_num, hrow3, H3.out, hbel3⟩
        case measure => simp [intOf]; omega
      · clear hmk hR hL
        go_wp2
        go_ret
        refine ⟨⟨_, _, rfl, fun _ => ⟨_, 0, rfl, fun i hi => ?_⟩, by simp⟩, hbel⟩
        obtain ⟨ai, ci, e1, e2, e3⟩ := HD.out i (by omega)
        exact ⟨ai, ci, by rw [Nat.zero_add, hrow.cell hi, e1], e2.plain, e3⟩

end Go.Proofs.Qxb6604114a
