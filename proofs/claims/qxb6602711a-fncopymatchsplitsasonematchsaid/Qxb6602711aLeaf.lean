/-
  THE LEAVES: the bound on the length, the clone, the comparison, the reader's maker and its fields, 'wrote'.
-/
import Derived.Test.Qxb6602711aRows
import Derived.Test.Qxb6602711aParts
import Derived.WalkSpells
import Derived.WalkLawsBesides
import Derived.Deep.QuietTactic
import Derived.BigQuiet
namespace Go.Proofs.Qxb6602711a
open Go.RowKit

theorem Try.info5 : (Try.prog.info? 5).map (fun i => (i.zero, i.size, i.bytes)) = some (some (.int .u8 0), 1, 1) := by kernel_rfl

theorem ret_bool {a b : Bool} (h : a = b) : Ending.returned (.bool a) = .returned (.bool b) := by rw [h]

set_option maxHeartbeats 400000 in
theorem bytes_yes (a : Option Addr) (n c : Nat) (x1 x2 x3 x4 x5 x6 : Value) (h : n ≤ 1048576) (w : World) :
    Calls Try.prog 11 #[.slice a n c, x1, x2, x3, x4, x5, x6] w fun e w' => e = .returned (.bool true) ∧ w' = w := by
  have h1 : ¬ (1048576 : Int) < (n : Int) := by omega
  go_enter Try.func11, Try.ntmps11
  go_wp2
  go_ret
  exact ⟨rfl, rfl⟩

set_option maxHeartbeats 400000 in
theorem bytes_no (a : Option Addr) (n c : Nat) (x1 x2 x3 x4 x5 x6 : Value) (hn : ¬ n ≤ 1048576) (w : World) :
    Calls Try.prog 11 #[.slice a n c, x1, x2, x3, x4, x5, x6] w fun e w' => e = .returned (.bool false) ∧ w' = w := by
  have h1 : (1048576 : Int) < (n : Int) := by omega
  go_enter Try.func11, Try.ntmps11
  go_wp2
  go_ret
  exact ⟨rfl, rfl⟩

set_option maxHeartbeats 400000 in
theorem clone_any (b off n c : Nat) (z : Nat → Int) (hn : n ≤ 1048576) (w : World) (hc : ∀ i, i < n → w.cell? ⟨b, off + i, none⟩ = some (.int .u8 (z i))) :
    Calls Try.prog 6 #[.slice (some ⟨b, off, none⟩) n c] w fun e w' => e = .returned (.slice (some ⟨w.heap.size, 0, none⟩) n n) ∧ w'.rowIs w.heap.size 5 n (fun i => .int .u8 (z i)) ∧ w'.heap.size = w.heap.size + 1 ∧ Below w.heap.size w w' := by
  have hnil : ∀ (w : World) (a : Option Addr) (n c n' c' : Nat), (binOp .eql 22 (.slice a n c) (.slice none n' c')).run Try.prog w = .ok (.bool a.isNone) w := fun w a n c n' c' => Lib.run_eql_slice_nil w _ _ a n c n' c' Try.underlying22
  have hmk := fun w => run_make_row' (P := Try.prog) 22 5 (.int .u8 0) 1 Try.underlying22 Try.info5 rfl .i64 .i64 n (by omega) (by omega) w
  go_enter Try.func6, Try.ntmps6
  go_wp2
  go_loopw [4] (fun i wr => ∃ k : Nat, k ≤ n ∧ i = .int .i64 k ∧ wr.rowIs w.heap.size 5 n (fun j => if j < k then .int .u8 (z j) else .int .u8 0) ∧ wr.heap.size = w.heap.size + 1 ∧ Below w.heap.size w wr) (fun i _ => n - (intOf i).toNat)
  case atStart => exact ⟨0, Nat.zero_le _, rfl, (World.rowIs_made w _ n 5).congr (by intro i hi; simp), by simp, (Below.refl _ _).alloc (Nat.le_refl _) _⟩
  case round =>
    obtain ⟨k, hk, rfl, hrow, hsz, hbel⟩ := hrel
    by_cases hlt : k < n
    · have hcs := hc k hlt
      have hbs := World.block_lt_of_cell? _ _ hcs
      have hcr : wr.cell? ⟨b, off + k, none⟩ = some (.int .u8 (z k)) := (hbel.cell hbs).trans hcs
      have hcd := hrow.cell hlt
      have hcf := hrow.frozen k
      simp only [Nat.lt_irrefl, if_false] at hcd
      have hrow' := (hrow.set k (.int .u8 (z k))).congr (g := fun j => if j < k + 1 then .int .u8 (z j) else .int .u8 0) (by
        intro j _
        by_cases e : j = k
        · subst e; simp
        · by_cases e2 : j < k
          · simp [e, e2, show j < k + 1 by omega]
          · simp [e, e2, show ¬ j < k + 1 by omega])
      have hbel' : Below w.heap.size w (wr.setCell ⟨w.heap.size, k, none⟩ (.int .u8 (z k))) := hbel.setCell (Nat.le_refl _) _
      clear hmk hcs hrow hbs hc hbel
      go_wp2
      go_roundw
      case rel => exact ⟨k + 1, by omega, by go_num, hrow', by simpa using hsz, hbel'⟩
      case measure => simp [intOf]; omega
    · have hrow' := hrow.congr (g := fun j => .int .u8 (z j)) (by intro j hj; simp [show j < k by omega])
      clear hmk hrow hc
      go_wp2
      go_ret
      exact ⟨rfl, hrow', hsz, hbel⟩

/-- The nine fields of a reader as the law makes it. -/
def zc (L D : Int) (out : Value) (M : Int) (off : Nat) : Array Value := #[.slice none 0 0, .int .u64 L, .int .u64 D, out, .int .i64 0, .int .u64 M, .int .i64 off, .int .u8 0, .bool false]

set_option maxHeartbeats 400000 in
theorem new_any (L D M : Int) (g n c : Nat) (off : Nat) (w : World) :
    Calls Try.prog 7 #[.slice none 0 0, .int .u64 L, .int .u64 D, .slice (some ⟨g, 0, none⟩) n c, .int .i64 0, .int .u64 M, .int .i64 off, .int .u8 0, .bool false] w fun e w' => e = .returned (.pointer (some ⟨w.heap.size, 0, none⟩)) ∧ w' = w.alloc (.cells (zc L D (.slice (some ⟨g, 0, none⟩) n c) M off) 34) := by
  go_enter Try.func7, Try.ntmps7
  go_wp2
  go_ret
  exact ⟨rfl, rfl⟩

set_option maxHeartbeats 400000 in
theorem fields_any (z : Nat) (L D M : Int) (out : Value) (off : Nat) (w : World) (h : w.heap[z]? = some (.cells (zc L D out M off) 34 (0, 0))) :
    Calls Try.prog 9 #[.pointer (some ⟨z, 0, none⟩)] w fun e w' => e = .returned (.tuple (zc L D out M off)) ∧ ∃ n, w' = w.drewN n := by
  have c : ∀ j, w.cell? ⟨z, j, none⟩ = (zc L D out M off)[j]? := fun j => cell_of_row w z j _ _ _ h
  have c0 : w.cell? ⟨z, 0, none⟩ = some (.slice none 0 0) := c 0
  have c1 : w.cell? ⟨z, 1, none⟩ = some (.int .u64 L) := c 1
  have c2 : w.cell? ⟨z, 2, none⟩ = some (.int .u64 D) := c 2
  have c3 : w.cell? ⟨z, 3, none⟩ = some out := c 3
  have c4 : w.cell? ⟨z, 4, none⟩ = some (.int .i64 0) := c 4
  have c5 : w.cell? ⟨z, 5, none⟩ = some (.int .u64 M) := c 5
  have c6 : w.cell? ⟨z, 6, none⟩ = some (.int .i64 off) := c 6
  have c7 : w.cell? ⟨z, 7, none⟩ = some (.int .u8 0) := c 7
  have c8 : w.cell? ⟨z, 8, none⟩ = some (.bool false) := c 8
  clear c h
  go_enter Try.func9, Try.ntmps9
  go_wp2
  go_quiet (fail)
  go_wp2
  exact bodyPost_ret (v := .tuple (zc L D out M off)) (by simp [results, Try.results9, go_sem, zc]) rfl ⟨rfl, _, rfl⟩

set_option maxHeartbeats 400000 in
theorem same_any (g h n c d : Nat) (z : Nat → Int) (hn : n ≤ 1048576) (w : World) (hg : ∀ i, i < n → w.cell? ⟨g, i, none⟩ = some (.int .u8 (z i))) (hh : ∀ i, i < n → w.cell? ⟨h, i, none⟩ = some (.int .u8 (z i))) :
    Calls Try.prog 10 #[.slice (some ⟨g, 0, none⟩) n c, .slice (some ⟨h, 0, none⟩) n d] w fun e w' => e = .returned (.bool true) ∧ ∃ n, w' = w.drewN n := by
  go_enter Try.func10, Try.ntmps10
  go_wp2
  go_loopw [5] (fun i wr => ∃ k m : Nat, k ≤ n ∧ i = .int .i64 k ∧ wr = w.drewN m) (fun i _ => n - (intOf i).toNat)
  case atStart => exact ⟨0, 0, Nat.zero_le _, rfl, rfl⟩
  case round =>
    obtain ⟨k, m, hk, rfl, rfl⟩ := hrel
    by_cases hlt : k < n
    · have h1 := hg k hlt
      have h2 := hh k hlt
      have h3 : (0 : Int) ≤ (k : Int) := by omega
      have h4 : (k : Int) < (n : Int) := by omega
      clear hg hh
      go_wp2
      go_quiet (fail)
      go_wp2
      go_roundw
      case rel => exact ⟨k + 1, _, by omega, by go_num, rfl⟩
      case measure => simp [intOf]; omega
    · clear hg hh
      go_wp2
      go_ret
      exact ⟨rfl, _, rfl⟩

end Go.Proofs.Qxb6602711a
