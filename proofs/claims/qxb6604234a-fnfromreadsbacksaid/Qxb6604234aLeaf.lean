/-
  THE LEAVES: slices of strings, their copy, the bounds on lengths, 'hasAt'.
-/
import Derived.Test.Qxb6604234aRows
import Derived.Test.Qxb6604234aShelf
import Derived.WalkKit
import Derived.WalkSpells
import Derived.WalkLawsBesides
import Derived.Deep.OwnRows
import Derived.Deep.Draws
import Derived.Deep.QuietTactic
import Derived.BigQuiet
import Derived.RegionTactic
import Derived.BigRegion
import Derived.Deep.DrawnRows
import Derived.Deep.DeepCutAuto
import Derived.Deep.CutBlock
namespace Go.Proofs.Qxb6604234a
open Go.RowKit
set_option linter.unusedVariables false

theorem hide {p : Prop} (h : p) : Hid p := h
theorem Try.info9 : (Try.prog.info? 9).map (fun i => (i.zero, i.size, i.bytes)) = some (some (.string ⟨#[]⟩), 1, 16) := by kernel_rfl

theorem Below.drewN' {B : Nat} {a w : World} (h : Below B a w) (n : Nat) : Below B a (w.drewN n) := ⟨h.os, h.tape, h.output, h.size, h.block⟩
theorem drewN_drewN (w : World) (a b : Nat) : (w.drewN a).drewN b = w.drewN (a + b) := by simp only [World.drewN, Nat.add_assoc]

/-- n cells of a slice, the i-th of them 'F i'. -/
def Cells (w : World) (a : Option Addr) (n : Nat) (F : Nat → Value) : Prop :=
  0 < n → ∃ b o, a = some ⟨b, o, none⟩ ∧ ∀ i, i < n → w.cell? ⟨b, o + i, none⟩ = some (F i)
def Strs (w : World) (a : Option Addr) (n : Nat) (S : Nat → ByteArray) : Prop := Cells w a n (fun i => .string (S i))
theorem Cells.below {w w' : World} {a : Option Addr} {n : Nat} {F : Nat → Value} (h : Cells w a n F) (hb : Below w.heap.size w w') : Cells w' a n F := fun hn => by
  obtain ⟨b, o, e, hc⟩ := h hn
  exact ⟨b, o, e, fun i hi => (hb.cell (World.block_lt_of_cell? _ _ (hc i hi))).trans (hc i hi)⟩
theorem Cells.of_row {w : World} {b n : Nat} {t : TypeId} {F : Nat → Value} (h : w.rowIs b t n F) : Cells w (some ⟨b, 0, none⟩) n F := fun _ => ⟨b, 0, rfl, fun i hi => by rw [Nat.zero_add]; exact h.cell hi⟩
theorem Cells.drewN {w : World} {a : Option Addr} {n : Nat} {F : Nat → Value} (h : Cells w a n F) (k : Nat) : Cells (w.drewN k) a n F := h

theorem step_fun {α : Type} (f : Nat → α) (z : α) (k j : Nat) : (if j = k then f k else if j < k then f j else z) = if j < k + 1 then f j else z := by
  by_cases e : j = k
  · subst e; simp
  · rw [if_neg e]
    by_cases e2 : j < k
    · rw [if_pos e2, if_pos (by omega)]
    · rw [if_neg e2, if_neg (by omega)]

set_option maxHeartbeats 400000 in
theorem clone_any (a : Option Addr) (n c : Nat) (F : Nat → ByteArray) (hn : n ≤ 1048576) (w : World) (hnil : a = none → n = 0) (hI : Strs w a n F) :
    Calls Try.prog 12 #[.slice a n c] w fun e w' => (∃ a' c', e = .returned (.slice a' n c') ∧ Strs w' a' n F ∧ n ≤ c') ∧ Below w.heap.size w w' := by
  have heq : ∀ (w : World) (a : Option Addr) (n c n' c' : Nat), (binOp .eql 28 (.slice a n c) (.slice none n' c')).run Try.prog w = .ok (.bool a.isNone) w := fun w a n c n' c' => Lib.run_eql_slice_nil w _ _ a n c n' c' Try.underlying28
  have hmk := fun w => run_make_row' (P := Try.prog) 28 9 (.string ⟨#[]⟩) 16 Try.underlying28 Try.info9 rfl .i64 .i64 n (by omega) (by omega) w
  cases a with
  | none =>
    obtain rfl := hnil rfl
    clear hnil hmk
    go_enter Try.func12, Try.ntmps12
    go_wp2
    go_ret
    exact ⟨⟨none, _, rfl, fun h => absurd h (by omega), Nat.zero_le _⟩, Below.refl _ _⟩
  | some x =>
    clear hnil
    go_enter Try.func12, Try.ntmps12
    go_wp2
    go_loopw [4] (fun i wr => ∃ k : Nat, k ≤ n ∧ i = .int .i64 k ∧ wr.rowIs w.heap.size 9 n (fun j => if j < k then .string (F j) else .string ⟨#[]⟩) ∧ Below w.heap.size w wr) (fun i _ => n - (intOf i).toNat)
    case atStart => exact ⟨0, Nat.zero_le _, rfl, (World.rowIs_made w _ n 9).congr (by intro i hi; simp), (Below.refl _ _).alloc (Nat.le_refl _) _⟩
    case round =>
      obtain ⟨k, hk, rfl, hrow, hbel⟩ := hrel
      by_cases hlt : k < n
      · obtain ⟨b, o, e, hc⟩ := hI (by omega)
        cases e
        have hcs := hc k hlt
        have hbs := World.block_lt_of_cell? _ _ hcs
        have hcr : wr.cell? ⟨b, o + k, none⟩ = some (.string (F k)) := (hbel.cell hbs).trans hcs
        have hcd := hrow.cell hlt
        have hcf := hrow.frozen k
        simp only [Nat.lt_irrefl, if_false] at hcd
        have hrow' := (hrow.set k (.string (F k))).congr (g := fun j => if j < k + 1 then .string (F j) else .string ⟨#[]⟩) (fun j _ => step_fun (α := Value) (fun i => .string (F i)) (.string ⟨#[]⟩) k j)
        have hbel' : Below w.heap.size w (wr.setCell ⟨w.heap.size, k, none⟩ (.string (F k))) := hbel.setCell (Nat.le_refl _) _
        clear hmk hcs hrow hbs hc hbel hI
        go_wp2
        go_roundw
        case rel => exact ⟨k + 1, by omega, by go_num, hrow', hbel'⟩
        case measure => simp [intOf]; omega
      · have hrow' := hrow.congr (g := fun j => .string (F j)) (by intro j hj; simp [show j < k by omega])
        clear hmk hrow hI
        go_wp2
        go_ret
        exact ⟨⟨_, _, rfl, Cells.of_row hrow', Nat.le_refl _⟩, hbel⟩

/-- Some bool comes back; if it is true then P. -/
def SomeB (P : Prop) (e : Ending) : Prop := ∃ b, e = .returned (.bool b) ∧ (b = true → P)
theorem SomeB.no {P : Prop} {e : Ending} (h : e = .returned (.bool false)) : SomeB P e := ⟨false, h, fun h => by cases h⟩
theorem SomeB.yes {P : Prop} {e : Ending} (h : e = .returned (.bool true)) (hP : P) : SomeB P e := ⟨true, h, fun _ => hP⟩

set_option maxHeartbeats 1000000 in
theorem bytes11_any (s : ByteArray) (a : Option Addr) (n c : Nat) (S : Nat → ByteArray) (w : World) (hR : Strs w a n S) :
    Calls Try.prog 11 #[.string s, .slice a n c] w fun e w' => SomeB (∀ i, i < n → (S i).size ≤ 1048576) e ∧ w' = w := by
  by_cases h1 : (1048576 : Int) < (s.size : Int)
  · clear hR
    go_enter Try.func11, Try.ntmps11
    go_wp2
    go_ret
    exact ⟨SomeB.no rfl, rfl⟩
  by_cases h2 : (1048576 : Int) < (n : Int)
  · clear hR
    go_enter Try.func11, Try.ntmps11
    go_wp2
    go_ret
    exact ⟨SomeB.no rfl, rfl⟩
  by_cases h3 : (1048576 : Int) < (s.size : Int) + (n : Int)
  · clear hR
    go_enter Try.func11, Try.ntmps11
    go_wp2
    go_ret
    exact ⟨SomeB.no rfl, rfl⟩
  go_enter Try.func11, Try.ntmps11
  go_wp2
  go_loop [5, 6] (fun t i => ∃ (k s : Nat), k ≤ n ∧ s ≤ 1048576 ∧ t = .int .i64 s ∧ i = .int .i64 k ∧ ∀ i, i < k → (S i).size ≤ 1048576) (fun _ i => n - (intOf i).toNat)
  case atStart => exact ⟨0, s.size + n, Nat.zero_le _, by omega, by go_num, rfl, fun i hi => absurd hi (by omega)⟩
  case round =>
    obtain ⟨k, t, hk, hs, rfl, rfl, hq⟩ := hrel
    have HQ := hide hq
    clear hq
    by_cases hlt : k < n
    · obtain ⟨b, o, e, hc⟩ := hR (by omega)
      cases e
      have g := hc k hlt
      clear hc hR
      by_cases t2 : (1048576 : Int) < ((S k).size : Int)
      · go_wp2
        go_ret
        exact ⟨SomeB.no rfl, rfl⟩
      by_cases t3 : (1048576 : Int) < (t : Int) + ((S k).size : Int)
      · go_wp2
        go_ret
        exact ⟨SomeB.no rfl, rfl⟩
      go_wp2
      go_round
      case rel => exact ⟨k + 1, t + (S k).size, by omega, by omega, by go_num, by go_num, fun i hi => by
        by_cases e : i = k
        · subst e; omega
        · exact HQ.out i (by omega)⟩
      case measure => simp [intOf]; omega
    · obtain rfl : k = n := by omega
      clear hR
      go_wp2
      go_ret
      exact ⟨SomeB.yes rfl HQ.out, rfl⟩

set_option maxHeartbeats 1000000 in
theorem bytes15_any (s : ByteArray) (a : Option Addr) (n c : Nat) (S : Nat → ByteArray) (w : World) (hR : Strs w a n S) :
    Calls Try.prog 15 #[.string s, .slice a n c] w fun e w' => SomeB (∀ i, i < n → (S i).size ≤ 1048576) e ∧ w' = w := by
  by_cases h1 : (1048576 : Int) < (s.size : Int)
  · clear hR
    go_enter Try.func15, Try.ntmps15
    go_wp2
    go_ret
    exact ⟨SomeB.no rfl, rfl⟩
  by_cases h2 : (1048576 : Int) < (n : Int)
  · clear hR
    go_enter Try.func15, Try.ntmps15
    go_wp2
    go_ret
    exact ⟨SomeB.no rfl, rfl⟩
  by_cases h3 : (1048576 : Int) < (s.size : Int) + (n : Int)
  · clear hR
    go_enter Try.func15, Try.ntmps15
    go_wp2
    go_ret
    exact ⟨SomeB.no rfl, rfl⟩
  go_enter Try.func15, Try.ntmps15
  go_wp2
  go_loop [5, 6] (fun t i => ∃ (k s : Nat), k ≤ n ∧ s ≤ 1048576 ∧ t = .int .i64 s ∧ i = .int .i64 k ∧ ∀ i, i < k → (S i).size ≤ 1048576) (fun _ i => n - (intOf i).toNat)
  case atStart => exact ⟨0, s.size + n, Nat.zero_le _, by omega, by go_num, rfl, fun i hi => absurd hi (by omega)⟩
  case round =>
    obtain ⟨k, t, hk, hs, rfl, rfl, hq⟩ := hrel
    have HQ := hide hq
    clear hq
    by_cases hlt : k < n
    · obtain ⟨b, o, e, hc⟩ := hR (by omega)
      cases e
      have g := hc k hlt
      clear hc hR
      by_cases t2 : (1048576 : Int) < ((S k).size : Int)
      · go_wp2
        go_ret
        exact ⟨SomeB.no rfl, rfl⟩
      by_cases t3 : (1048576 : Int) < (t : Int) + ((S k).size : Int)
      · go_wp2
        go_ret
        exact ⟨SomeB.no rfl, rfl⟩
      go_wp2
      go_round
      case rel => exact ⟨k + 1, t + (S k).size, by omega, by omega, by go_num, by go_num, fun i hi => by
        by_cases e : i = k
        · subst e; omega
        · exact HQ.out i (by omega)⟩
      case measure => simp [intOf]; omega
    · obtain rfl : k = n := by omega
      clear hR
      go_wp2
      go_ret
      exact ⟨SomeB.yes rfl HQ.out, rfl⟩

theorem get_eq {s t : ByteArray} {i j : Nat} (hi : i < s.size) (hj : j < t.size) (h : s.data.toList[i]? = t.data.toList[j]?) : s[i] = t[j] := by
  have h1 : s.data.toList[i]? = some s[i] := by
    rw [Array.getElem?_toList, Array.getElem?_eq_getElem hi]; rfl
  have h2 : t.data.toList[j]? = some t[j] := by
    rw [Array.getElem?_toList, Array.getElem?_eq_getElem hj]; rfl
  rw [h1, h2] at h
  exact Option.some.inj h

set_option maxHeartbeats 1000000 in
theorem hasAt_yes (s t : ByteArray) (p : Nat) (w : World) (hs : s.size ≤ 1073741824) (hp : p + t.size ≤ s.size) (h : ∀ i, i < t.size → s.data.toList[p + i]? = t.data.toList[i]?) :
    Calls Try.prog 14 #[.string s, .int .i64 p, .string t] w fun e w' => e = .returned (.bool true) ∧ ∃ m, w' = w.drewN m := by
  have H := hide h
  clear h
  have t1 : ¬ (p : Int) < 0 := by omega
  have t2 : ¬ (s.size : Int) < (p : Int) := by omega
  have t3 : ¬ (s.size : Int) - (p : Int) < (t.size : Int) := by omega
  go_enter Try.func14, Try.ntmps14
  go_wp2
  go_loopw [7] (fun i wr => ∃ k m : Nat, k ≤ t.size ∧ i = .int .i64 k ∧ wr = w.drewN m) (fun i _ => t.size - (intOf i).toNat)
  case atStart => exact ⟨0, 0, Nat.zero_le _, rfl, rfl⟩
  case round =>
    obtain ⟨k, m, hk, rfl, rfl⟩ := hrel
    by_cases hlt : k < t.size
    · have i1 : (0 : Int) ≤ (p : Int) + (k : Int) := by omega
      have i2 : (p : Int) + (k : Int) < (s.size : Int) := by omega
      have i3 : (k : Int) < (t.size : Int) := by omega
      have i4 : IntKind.i64.wrap ((p : Int) + (k : Int)) = (p : Int) + (k : Int) := by rw [IntKind.wrap_i64]; omega
      have q : (((s[p + k]'(by omega)).toNat : Int) != ((t[k]'hlt).toNat : Int)) = false := by
        rw [get_eq (by omega) hlt (H.out k hlt)]; simp
      go_wp2
      go_quiet (fail)
      go_wp2
      go_roundw
      case rel => exact ⟨k + 1, _, by omega, by go_num, rfl⟩
      case measure => simp [intOf]; omega
    · go_wp2
      go_ret
      exact ⟨rfl, _, rfl⟩

end Go.Proofs.Qxb6604234a
