/-
  'zzRuns': two columns made into a slice of runs.
-/
import Derived.Test.Qxb6604083aLeaf
namespace Go.Proofs.Qxb6604083a
open Go.RowKit
set_option linter.unusedVariables false

/-- 'make([]numberRun, n)'. -/
theorem run_make_runs (n : Nat) (hn : n ≤ 1048576) (w : World) :
    (Instr.makeSlice 50 (.int .i64 (n : Int)) (.int .i64 (n : Int))).run Try.prog w = .ok (.slice (some ⟨w.heap.size, 0, none⟩) n n) (w.alloc (.cells (madeCells #[.int .i64 0, .int .i64 0] (n * 2)) 54)) := by
  obtain ⟨i, hi, hz, hs, hb⟩ := info_parts Try.info54
  have hr := run_make (P := Try.prog) w 50 54 i _ Try.underlying50 hi hz .i64 .i64 n n (by omega) (Int.le_refl _) (by rw [hb]; omega) (by omega)
  simp only [Int.toNat_natCast, hs, Value.cells] at hr
  exact hr
theorem run_make_room (n : Nat) (hn : n ≤ 1048576) (w : World) :
    (Instr.makeSlice 50 (.int .i64 0) (.int .i64 (n : Int))).run Try.prog w = .ok (.slice (some ⟨w.heap.size, 0, none⟩) 0 n) (w.alloc (.cells (madeCells #[.int .i64 0, .int .i64 0] (n * 2)) 54)) := by
  obtain ⟨i, hi, hz, hs, hb⟩ := info_parts Try.info54
  have hr := run_make (P := Try.prog) w 50 54 i _ Try.underlying50 hi hz .i64 .i64 0 n (by omega) (by omega) (by rw [hb]; omega) (by omega)
  simp only [Int.toNat_natCast, hs, Value.cells] at hr
  exact hr

theorem row_made2 (w : World) (n : Nat) : (w.alloc (.cells (madeCells #[.int .i64 0, .int .i64 0] (n * 2)) 54)).rowIs w.heap.size 54 (n * 2) (fun _ => .int .i64 0) :=
  ⟨_, Deep.blk_alloc_new _ _, size_madeCells _ _, fun i hi => by
    simp [madeCells, hi]
    rcases Nat.mod_two_eq_zero_or_one i with h | h <;> simp [h]⟩

/-- The cells of a list of runs. -/
def rc (L : List (Int × Int)) (j : Nat) : Value := if j % 2 = 0 then .int .i64 (L.getD (j / 2) (0, 0)).1 else .int .i64 (L.getD (j / 2) (0, 0)).2
theorem rc_even (L : List (Int × Int)) (i : Nat) : rc L (i * 2) = .int .i64 (L.getD i (0, 0)).1 := by
  unfold rc; rw [if_pos (by omega), show i * 2 / 2 = i by omega]
theorem rc_odd (L : List (Int × Int)) (i : Nat) : rc L (i * 2 + 1) = .int .i64 (L.getD i (0, 0)).2 := by
  unfold rc; rw [if_neg (by omega), show (i * 2 + 1) / 2 = i by omega]

theorem rc_mk_even (n : Nat) (F E : Nat → Int) (k : Nat) (h : k < n) : rc (mk n F E) (k * 2) = .int .i64 (F k) := by
  rw [rc_even, List.getD_eq_getElem?_getD, mk_get n F E k h]; rfl
theorem rc_mk_odd (n : Nat) (F E : Nat → Int) (k : Nat) (h : k < n) : rc (mk n F E) (k * 2 + 1) = .int .i64 (E k) := by
  rw [rc_odd, List.getD_eq_getElem?_getD, mk_get n F E k h]; rfl
theorem rc_step (L : List (Int × Int)) (k : Nat) (x y z : Value) (hx : rc L (k * 2) = x) (hy : rc L (k * 2 + 1) = y) (j : Nat) :
    (if j = k * 2 + 1 then y else if j = k * 2 then x else if j < k * 2 then rc L j else z) = if j < (k + 1) * 2 then rc L j else z := by
  by_cases e1 : j = k * 2 + 1
  · subst e1; rw [if_pos rfl, if_pos (by omega), hy]
  · rw [if_neg e1]
    by_cases e2 : j = k * 2
    · subst e2; rw [if_pos rfl, if_pos (by omega), hx]
    · rw [if_neg e2]
      by_cases e3 : j < k * 2
      · rw [if_pos e3, if_pos (by omega)]
      · rw [if_neg e3, if_neg (by omega)]

/-- A slice of runs that reads as L. -/
def Runs (w : World) (a : Option Addr) (L : List (Int × Int)) : Prop :=
  0 < L.length → ∃ b o, a = some ⟨b, o, none⟩ ∧ ∀ j, j < L.length * 2 → w.cell? ⟨b, o + j, none⟩ = some (rc L j)

theorem Runs.below {w w' : World} {a : Option Addr} {L : List (Int × Int)} (h : Runs w a L) (hb : Below w.heap.size w w') : Runs w' a L := fun hn => by
  obtain ⟨b, o, e, hc⟩ := h hn
  exact ⟨b, o, e, fun i hi => (hb.cell (World.block_lt_of_cell? _ _ (hc i hi))).trans (hc i hi)⟩

set_option maxHeartbeats 1000000 in
theorem runs_any (a a' : Option Addr) (n c c' : Nat) (F E : Nat → Int) (hn : n ≤ 1048576) (w : World) (hnil : a = none → n = 0) (hF : Ints w a n F) (hE : Ints w a' n E) :
    Calls Try.prog 21 #[.slice a n c, .slice a' n c'] w fun e w' => (∃ r cr, e = .returned (.slice r n cr) ∧ n ≤ cr ∧ Runs w' r (mk n F E)) ∧ Below w.heap.size w w' := by
  have heq : ∀ (w : World) (a : Option Addr) (n c n' c' : Nat), (binOp .eql 22 (.slice a n c) (.slice none n' c')).run Try.prog w = .ok (.bool a.isNone) w := fun w a n c n' c' => Lib.run_eql_slice_nil w _ _ a n c n' c' Try.underlying22
  have hmk := fun w => run_make_runs n hn w
  cases a with
  | none =>
    obtain rfl := hnil rfl
    clear hnil hmk
    go_enter Try.func21, Try.ntmps21
    go_wp2
    go_ret
    exact ⟨⟨_, _, rfl, Nat.le_refl _, fun h => absurd h (by simp [mk])⟩, Below.refl _ _⟩
  | some x =>
    clear hnil
    go_enter Try.func21, Try.ntmps21
    go_wp2
    go_loopw [7] (fun i wr => ∃ k : Nat, k ≤ n ∧ i = .int .i64 k ∧ wr.rowIs w.heap.size 54 (n * 2) (fun j => if j < k * 2 then rc (mk n F E) j else .int .i64 0) ∧ Below w.heap.size w wr) (fun i _ => n - (intOf i).toNat)
    case atStart => exact ⟨0, Nat.zero_le _, rfl, (row_made2 w n).congr (by intro i hi; simp), (Below.refl _ _).alloc (Nat.le_refl _) _⟩
    case round =>
      obtain ⟨k, hk, rfl, hrow, hbel⟩ := hrel
      by_cases hlt : k < n
      · obtain ⟨b, o, e, hc⟩ := hF (by omega)
        cases e
        obtain ⟨b', o', e, hc'⟩ := hE (by omega)
        cases e
        have hcs := hc k hlt
        have hcs' := hc' k hlt
        have hbs := World.block_lt_of_cell? _ _ hcs
        have hbs' := World.block_lt_of_cell? _ _ hcs'
        have g1 : wr.cell? ⟨b, o + k, none⟩ = some (.int .i64 (F k)) := (hbel.cell hbs).trans hcs
        have g2 : wr.cell? ⟨b', o' + k, none⟩ = some (.int .i64 (E k)) := (hbel.cell hbs').trans hcs'
        have i1 : (0 : Int) ≤ (k : Int) := by omega
        have i2 : (k : Int) < (n : Int) := by omega
        have d1 := hrow.cell (i := k * 2) (by omega)
        have d2 := hrow.cell (i := k * 2 + 1) (by omega)
        have f1 := hrow.frozen (k * 2)
        have f2 := hrow.frozen (k * 2 + 1)
        have hrow' := ((hrow.set (k * 2) (.int .i64 (F k))).set (k * 2 + 1) (.int .i64 (E k))).congr (g := fun j => if j < (k + 1) * 2 then rc (mk n F E) j else .int .i64 0) (fun j _ => rc_step (mk n F E) k _ _ _ (rc_mk_even n F E k hlt) (rc_mk_odd n F E k hlt) j)
        have hbel' : Below w.heap.size w ((wr.setCell ⟨w.heap.size, k * 2, none⟩ (.int .i64 (F k))).setCell ⟨w.heap.size, k * 2 + 1, none⟩ (.int .i64 (E k))) := (hbel.setCell (Nat.le_refl _) _).setCell (Nat.le_refl _) _
        clear hmk hcs hcs' hbs hbs' hc hc' hF hE hrow hbel
        go_wp2
        go_region
        all_goals (go_simp; go_wp2)
        all_goals
          go_roundw
          case rel => exact ⟨k + 1, by omega, by go_num, hrow', hbel'.drew⟩
          case measure => simp [intOf]; omega
      · have hrow' := hrow.congr (g := rc (mk n F E)) (fun j hj => by rw [if_pos (by omega)])
        clear hmk hrow hF hE
        go_wp2
        go_ret
        exact ⟨⟨_, _, rfl, Nat.le_refl _, fun _ => ⟨_, _, rfl, fun j hj => by rw [Nat.zero_add]; exact hrow'.cell (by rw [mk_length] at hj; exact hj)⟩⟩, hbel⟩

end Go.Proofs.Qxb6604083a
