/-
  THE LEAVES: what the walks say of slices of numbers and of runs; the bound on the lengths, the copy, the test of form, the comparison, the making of runs.
-/
import Derived.Test.Qxb6604083aRows
import Derived.Test.Qxb6604083aPlain
import Derived.WalkKit
import Derived.WalkSpells
import Derived.WalkLawsBesides
import Derived.Deep.OwnRows
import Derived.Deep.Draws
import Derived.Deep.QuietTactic
import Derived.BigQuiet
import Derived.RegionTactic
import Derived.BigRegion
import Derived.Deep.DrawnRows
import Derived.Deep.DeepCutAuto
namespace Go.Proofs.Qxb6604083a
open Go.RowKit
set_option linter.unusedVariables false

theorem hide {p : Prop} (h : p) : Hid p := h
theorem Try.info3 : (Try.prog.info? 3).map (fun i => (i.zero, i.size, i.bytes)) = some (some (.int .i64 0), 1, 8) := by kernel_rfl
theorem Try.info54 : (Try.prog.info? 54).map (fun i => (i.zero, i.size, i.bytes)) = some (some (.agg #[.int .i64 0, .int .i64 0]), 2, 16) := by kernel_rfl

/-- v is a slice of n numbers, the i-th of them 'F i'. -/
def Ints (w : World) (a : Option Addr) (n : Nat) (F : Nat → Int) : Prop :=
  0 < n → ∃ b o, a = some ⟨b, o, none⟩ ∧ ∀ i, i < n → w.cell? ⟨b, o + i, none⟩ = some (.int .i64 (F i))

theorem Ints.below {w w' : World} {a : Option Addr} {n : Nat} {F : Nat → Int} (h : Ints w a n F) (hb : Below w.heap.size w w') : Ints w' a n F := fun hn => by
  obtain ⟨b, o, e, hc⟩ := h hn
  exact ⟨b, o, e, fun i hi => (hb.cell (World.block_lt_of_cell? _ _ (hc i hi))).trans (hc i hi)⟩
theorem Below.drewN' {B : Nat} {a w : World} (h : Below B a w) (n : Nat) : Below B a (w.drewN n) := ⟨h.os, h.tape, h.output, h.size, h.block⟩

theorem drewN_drewN (w : World) (a b : Nat) : (w.drewN a).drewN b = w.drewN (a + b) := by simp only [World.drewN, Nat.add_assoc]

theorem drewN_ex3 (w : World) (a b c : Nat) : ((w.drewN a).drewN b).drewN c = w.drewN (a + b + c) := by simp only [World.drewN, Nat.add_assoc]

set_option maxHeartbeats 400000 in
theorem bytes_yes (a0 a1 a2 a3 a4 a5 : Option Addr) (n0 n1 n2 n3 n4 n5 c0 c1 c2 c3 c4 c5 : Nat) (h0 : n0 ≤ 16384) (h1 : n1 ≤ 16384) (h2 : n2 ≤ 16384) (h3 : n3 ≤ 16384) (h4 : n4 ≤ 16384) (h5 : n5 ≤ 16384) (w : World) :
    Calls Try.prog 18 #[.slice a0 n0 c0, .slice a1 n1 c1, .slice a2 n2 c2, .slice a3 n3 c3, .slice a4 n4 c4, .slice a5 n5 c5] w fun e w' => e = .returned (.bool true) ∧ w' = w := by
  go_enter Try.func18, Try.ntmps18
  go_wp2
  go_ret
  exact ⟨rfl, rfl⟩

set_option maxHeartbeats 1000000 in
theorem bytes_some (a0 a1 a2 a3 a4 a5 : Option Addr) (n0 n1 n2 n3 n4 n5 c0 c1 c2 c3 c4 c5 : Nat) (w : World) :
    Calls Try.prog 18 #[.slice a0 n0 c0, .slice a1 n1 c1, .slice a2 n2 c2, .slice a3 n3 c3, .slice a4 n4 c4, .slice a5 n5 c5] w fun e w' => (∃ b, e = .returned (.bool b)) ∧ w' = w := by
  go_enter Try.func18, Try.ntmps18
  go_wp2
  all_goals
    go_ret
    exact ⟨⟨_, rfl⟩, rfl⟩

set_option maxHeartbeats 400000 in
theorem copy_any (a : Option Addr) (n c : Nat) (F : Nat → Int) (hn : n ≤ 1048576) (w : World) (hnil : a = none → n = 0) (hI : Ints w a n F) :
    Calls Try.prog 7 #[.slice a n c] w fun e w' => (∃ a' c', e = .returned (.slice a' n c') ∧ Ints w' a' n F ∧ (a' = none → n = 0)) ∧ Below w.heap.size w w' := by
  have heq : ∀ (w : World) (a : Option Addr) (n c n' c' : Nat), (binOp .eql 22 (.slice a n c) (.slice none n' c')).run Try.prog w = .ok (.bool a.isNone) w := fun w a n c n' c' => Lib.run_eql_slice_nil w _ _ a n c n' c' Try.underlying22
  have hmk := fun w => run_make_row' (P := Try.prog) 22 3 (.int .i64 0) 8 Try.underlying22 Try.info3 rfl .i64 .i64 n (by omega) (by omega) w
  cases a with
  | none =>
    obtain rfl := hnil rfl
    clear hnil hmk
    go_enter Try.func7, Try.ntmps7
    go_wp2
    go_ret
    exact ⟨⟨_, _, rfl, fun h => absurd h (by omega), by simp⟩, Below.refl _ _⟩
  | some x =>
    clear hnil
    go_enter Try.func7, Try.ntmps7
    go_wp2
    go_loopw [4] (fun i wr => ∃ k : Nat, k ≤ n ∧ i = .int .i64 k ∧ wr.rowIs w.heap.size 3 n (fun j => if j < k then .int .i64 (F j) else .int .i64 0) ∧ Below w.heap.size w wr) (fun i _ => n - (intOf i).toNat)
    case atStart => exact ⟨0, Nat.zero_le _, rfl, (World.rowIs_made w _ n 3).congr (by intro i hi; simp), (Below.refl _ _).alloc (Nat.le_refl _) _⟩
    case round =>
      obtain ⟨k, hk, rfl, hrow, hbel⟩ := hrel
      by_cases hlt : k < n
      · obtain ⟨b, o, e, hc⟩ := hI (by omega)
        cases e
        have hcs := hc k hlt
        have hbs := World.block_lt_of_cell? _ _ hcs
        have hcr : wr.cell? ⟨b, o + k, none⟩ = some (.int .i64 (F k)) := (hbel.cell hbs).trans hcs
        have hcd := hrow.cell hlt
        have hcf := hrow.frozen k
        simp only [Nat.lt_irrefl, if_false] at hcd
        have hrow' := (hrow.set k (.int .i64 (F k))).congr (g := fun j => if j < k + 1 then .int .i64 (F j) else .int .i64 0) (by
          intro j _
          by_cases e : j = k
          · subst e; simp
          · by_cases e2 : j < k
            · simp [e, e2, show j < k + 1 by omega]
            · simp [e, e2, show ¬ j < k + 1 by omega])
        have hbel' : Below w.heap.size w (wr.setCell ⟨w.heap.size, k, none⟩ (.int .i64 (F k))) := hbel.setCell (Nat.le_refl _) _
        clear hmk hcs hrow hbs hc hbel hI
        go_wp2
        go_roundw
        case rel => exact ⟨k + 1, by omega, by go_num, hrow', hbel'⟩
        case measure => simp [intOf]; omega
      · have hrow' := hrow.congr (g := fun j => .int .i64 (F j)) (by intro j hj; simp [show j < k by omega])
        clear hmk hrow hI
        go_wp2
        go_ret
        exact ⟨⟨_, _, rfl, fun _ => ⟨_, _, rfl, fun i hi => by rw [Nat.zero_add]; exact hrow'.cell hi⟩, fun h => absurd h (by simp)⟩, hbel⟩

set_option maxHeartbeats 1000000 in
theorem wellFormed_any (a a' : Option Addr) (n c c' : Nat) (F E : Nat → Int) (hn : n ≤ 1048576) (w : World) (hF : Ints w a n F) (hE : Ints w a' n E) :
    Calls Try.prog 15 #[.slice a n c, .slice a' n c'] w fun e w' => (∃ b, e = .returned (.bool b) ∧ (b = true → (∀ i, i < n → F i < E i) ∧ ∀ i, i + 1 < n → E i < F (i + 1))) ∧ ∃ m, w' = w.drewN m := by
  go_enter Try.func15, Try.ntmps15
  go_wp2
  go_loopw [5] (fun i wr => ∃ k m : Nat, k ≤ n ∧ i = .int .i64 k ∧ wr = w.drewN m ∧ (∀ i, i < k → F i < E i) ∧ ∀ i, i + 1 < k → E i < F (i + 1)) (fun i _ => n - (intOf i).toNat)
  case atStart => exact ⟨0, 0, Nat.zero_le _, rfl, rfl, fun i hi => absurd hi (by omega), fun i hi => absurd hi (by omega)⟩
  case round =>
    obtain ⟨k, m, hk, rfl, rfl, q1, q2⟩ := hrel
    have Q1 := hide q1
    have Q2 := hide q2
    clear q1 q2
    by_cases hlt : k < n
    · obtain ⟨b, o, e, hc⟩ := hF (by omega)
      cases e
      obtain ⟨b', o', e, hc'⟩ := hE (by omega)
      cases e
      have g1 := hc k hlt
      have g2 := hc' k hlt
      have i1 : (0 : Int) ≤ (k : Int) := by omega
      have i2 : (k : Int) < (n : Int) := by omega
      by_cases hfe : F k < E k
      · have R1 : Hid (∀ i, i < k + 1 → F i < E i) := fun i hi => by
          by_cases e : i = k
          · subst e; exact hfe
          · exact Q1.out i (by omega)
        by_cases hk0 : k = 0
        · subst hk0
          have R2 : Hid (∀ i, i + 1 < 0 + 1 → E i < F (i + 1)) := fun i hi => absurd hi (by omega)
          have hd : decide ((0 : Int) < ((0 : Nat) : Int)) = false := by decide
          simp only [Nat.add_zero] at g1 g2
          clear hF hE hc hc'
          go_wp2
          go_quiet (fail)
          go_wp2
          go_quiet (fail)
          go_wp2
          go_roundw
          case rel => exact ⟨0 + 1, _, by omega, by go_num, rfl, R1.out, R2.out⟩
          case measure => simp [intOf]; omega
        · obtain ⟨j, rfl⟩ : ∃ j, k = j + 1 := ⟨k - 1, by omega⟩
          have g3 := hc' j (by omega)
          have i3 : (0 : Int) < ((j + 1 : Nat) : Int) := by omega
          have i4 : (0 : Int) ≤ ((j : Nat) : Int) := by omega
          have i5 : ((j : Nat) : Int) < (n : Int) := by omega
          have i6 : IntKind.i64.wrap (((j + 1 : Nat) : Int) - 1) = ((j : Nat) : Int) := by rw [IntKind.wrap_i64]; omega
          clear hF hE hc hc'
          by_cases hef : E j < F (j + 1)
          · have R2 : Hid (∀ i, i + 1 < j + 1 + 1 → E i < F (i + 1)) := fun i hi => by
              by_cases e : i = j
              · subst e; exact hef
              · exact Q2.out i (by omega)
            go_wp2
            go_quiet (fail)
            go_wp2
            go_quiet (fail)
            go_wp2
            go_roundw
            case rel => exact ⟨j + 1 + 1, _, by omega, by go_num, rfl, R1.out, R2.out⟩
            case measure => simp [intOf]; omega
          · go_wp2
            go_quiet (fail)
            go_wp2
            go_quiet (fail)
            go_wp2
            go_ret
            exact ⟨⟨_, rfl, fun h => by cases h⟩, _, drewN_ex3 _ _ _ _⟩
      · clear hF hE hc hc'
        go_wp2
        go_quiet (fail)
        go_wp2
        go_ret
        exact ⟨⟨_, rfl, fun h => by cases h⟩, _, drewN_drewN _ _ _⟩
    · clear hF hE
      go_wp2
      go_ret
      exact ⟨⟨_, rfl, fun _ => ⟨fun i hi => Q1.out i (by omega), fun i hi => Q2.out i (by omega)⟩⟩, _, rfl⟩

set_option maxHeartbeats 1000000 in
theorem same_any (a1 a2 a3 a4 : Option Addr) (n c1 c2 c3 c4 : Nat) (F E : Nat → Int) (hn : n ≤ 1048576) (w : World) (h1 : Ints w a1 n F) (h2 : Ints w a2 n E) (h3 : Ints w a3 n F) (h4 : Ints w a4 n E) :
    Calls Try.prog 19 #[.slice a1 n c1, .slice a2 n c2, .slice a3 n c3, .slice a4 n c4] w fun e w' => e = .returned (.bool true) ∧ ∃ m, w' = w.drewN m := by
  have hd : ((n : Int) != (n : Int)) = false := by simp
  go_enter Try.func19, Try.ntmps19
  go_wp2
  go_loopw [9] (fun i wr => ∃ k m : Nat, k ≤ n ∧ i = .int .i64 k ∧ wr = w.drewN m) (fun i _ => n - (intOf i).toNat)
  case atStart => exact ⟨0, 0, Nat.zero_le _, rfl, rfl⟩
  case round =>
    obtain ⟨k, m, hk, rfl, rfl⟩ := hrel
    by_cases hlt : k < n
    · obtain ⟨b, o, e, hc⟩ := h1 (by omega)
      cases e
      obtain ⟨b', o', e, hc'⟩ := h3 (by omega)
      cases e
      have g1 := hc k hlt
      have g2 := hc' k hlt
      have i1 : (0 : Int) ≤ (k : Int) := by omega
      have i2 : (k : Int) < (n : Int) := by omega
      clear h1 h2 h3 h4 hc hc'
      go_wp2
      go_quiet (fail)
      go_wp2
      go_roundw
      case rel => exact ⟨k + 1, _, by omega, by go_num, rfl⟩
      case measure => simp [intOf]; omega
    · clear h1 h3
      go_wp2
      go_loopw [10] (fun i wr => ∃ k m : Nat, k ≤ n ∧ i = .int .i64 k ∧ wr = w.drewN m) (fun i _ => n - (intOf i).toNat)
      case atStart => exact ⟨0, m, Nat.zero_le _, rfl, rfl⟩
      case round =>
        obtain ⟨j, m', hj, rfl, rfl⟩ := hrel
        by_cases hlt' : j < n
        · obtain ⟨b, o, e, hc⟩ := h2 (by omega)
          cases e
          obtain ⟨b', o', e, hc'⟩ := h4 (by omega)
          cases e
          have g1 := hc j hlt'
          have g2 := hc' j hlt'
          have i1 : (0 : Int) ≤ (j : Int) := by omega
          have i2 : (j : Int) < (n : Int) := by omega
          clear h2 h4 hc hc'
          go_wp2
          go_quiet (fail)
          go_wp2
          go_roundw
          case rel => exact ⟨j + 1, _, by omega, by go_num, rfl⟩
          case measure => simp [intOf]; omega
        · clear h2 h4
          go_wp2
          go_ret
          exact ⟨rfl, _, rfl⟩

end Go.Proofs.Qxb6604083a
