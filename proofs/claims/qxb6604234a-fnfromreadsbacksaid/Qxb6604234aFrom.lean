/-
  'from' and 'ZZFrom'.
-/
import Derived.Test.Qxb6604234aLeaf
import Derived.Deep.RegionWith
namespace Go.Proofs.Qxb6604234a
open Go.RowKit
set_option linter.unusedVariables false

/-- The line, as 'from' writes it. -/
def fromL (W : List UInt8) (n : Nat) (X : Nat → List UInt8) : List UInt8 :=
  if n = 0 then [] else if n = 1 then W ++ [32] ++ X 0 else W ++ [32] ++ Lib.join ((List.range (n - 1)).map X) [44, 32] ++ [32, 97, 110, 100, 32] ++ X (n - 1)
def FromPost (W : List UInt8) (n : Nat) (X : Nat → List UInt8) (e : Ending) : Prop := ∃ r : ByteArray, e = .returned (.string r) ∧ r.data.toList = fromL W n X

theorem size_mk (l : List UInt8) : (ByteArray.mk l.toArray).size = l.length := by show l.toArray.size = _; simp
theorem size_app (a b : ByteArray) : (a ++ b).size = a.size + b.size := ByteArray.size_append
theorem data_app (a b : ByteArray) : (a ++ b).data.toList = a.data.toList ++ b.data.toList := by rw [ByteArray.data_append, Array.toList_append]

set_option maxRecDepth 100000 in
set_option maxHeartbeats 1000000 in
theorem from_any (s : ByteArray) (a : Option Addr) (n c : Nat) (S : Nat → ByteArray) (w : World) (hn : n ≤ 65536) (hc : n ≤ c) (hs : s.size ≤ 1048576) (hS : ∀ i, i < n → (S i).size ≤ 1048576)
    (hJ : (Lib.join ((List.range (n - 1)).map fun i => (S i).data.toList) [44, 32]).length ≤ 4194304) (hI : Strs w a n S) :
    Calls Try.prog 19 #[.string s, .slice a n c] w fun e w' => FromPost s.data.toList n (fun i => (S i).data.toList) e ∧ Below w.heap.size w w' := by
  by_cases h0 : n = 0
  · subst h0
    clear hJ hI hS
    go_enter Try.func19, Try.ntmps19
    go_wp2
    go_ret
    exact ⟨⟨_, rfl, rfl⟩, Below.refl _ _⟩
  obtain ⟨b, o, rfl, hcell⟩ := hI (by omega)
  have ha1 : ∀ w, (Op.stringOp .add s ⟨#[32]⟩).run Try.prog w = .ok (.string (s ++ ⟨#[32]⟩)) w := fun w => run_string_add_sum w _ _ (by rw [show (ByteArray.mk #[32]).size = 1 from rfl]; omega)
  by_cases h1 : n = 1
  · subst h1
    have g : w.cell? ⟨b, o, none⟩ = some (.string (S 0)) := hcell 0 (by omega)
    have hs0 := hS 0 (by omega)
    have ha2 : ∀ w, (Op.stringOp .add (s ++ ⟨#[32]⟩) (S 0)).run Try.prog w = .ok (.string (s ++ ⟨#[32]⟩ ++ S 0)) w := fun w => run_string_add_sum w _ _ (by rw [size_app, show (ByteArray.mk #[32]).size = 1 from rfl]; omega)
    clear hJ hI hS hcell
    go_enter Try.func19, Try.ntmps19
    go_wp2
    go_ret
    exact ⟨⟨_, rfl, by rw [data_app, data_app]; rfl⟩, Below.refl _ _⟩
  obtain ⟨k, hk⟩ : ∃ k, n - 1 = k := ⟨_, rfl⟩
  obtain ⟨J, HJ⟩ : ∃ J : ByteArray, Hid (J = ⟨(Lib.join ((List.range (n - 1)).map fun i => (S i).data.toList) [44, 32]).toArray⟩) := ⟨_, rfl⟩
  have hJs : J.size ≤ 4194304 := by rw [HJ.out, size_mk]; exact hJ
  have e1 : ¬ (n : Int) = 0 := by omega
  have e2 : ¬ (n : Int) = 1 := by omega
  have i0 : IntKind.i64.wrap (k : Int) = (k : Int) := by rw [IntKind.wrap_i64]; omega
  have i1 : (n : Int) - 1 = (k : Int) := by omega
  have i2 : (0 : Int) ≤ (k : Int) := by omega
  have i3 : (k : Int) < (n : Int) := by omega
  have i4 : (k : Int) ≤ (c : Int) := by omega
  have hsk := hS k (by omega)
  have ha2 : ∀ w, (Op.stringOp .add (s ++ ⟨#[32]⟩) J).run Try.prog w = .ok (.string (s ++ ⟨#[32]⟩ ++ J)) w := fun w => run_string_add_sum w _ _ (by rw [size_app, show (ByteArray.mk #[32]).size = 1 from rfl]; omega)
  have ha3 : ∀ w, (Op.stringOp .add (s ++ ⟨#[32]⟩ ++ J) ⟨#[32, 97, 110, 100, 32]⟩).run Try.prog w = .ok (.string (s ++ ⟨#[32]⟩ ++ J ++ ⟨#[32, 97, 110, 100, 32]⟩)) w := fun w => run_string_add_sum w _ _ (by rw [size_app, size_app, show (ByteArray.mk #[32]).size = 1 from rfl, show (ByteArray.mk #[32, 97, 110, 100, 32]).size = 5 from rfl]; omega)
  have ha4 : ∀ w, (Op.stringOp .add (s ++ ⟨#[32]⟩ ++ J ++ ⟨#[32, 97, 110, 100, 32]⟩) (S k)).run Try.prog w = .ok (.string (s ++ ⟨#[32]⟩ ++ J ++ ⟨#[32, 97, 110, 100, 32]⟩ ++ S k)) w := fun w => run_string_add_sum w _ _ (by rw [size_app, size_app, size_app, show (ByteArray.mk #[32]).size = 1 from rfl, show (ByteArray.mk #[32, 97, 110, 100, 32]).size = 5 from rfl]; omega)
  have hbw : b < w.heap.size := World.block_lt_of_cell? _ _ (hcell 0 (by omega))
  have cJ : ∀ w2, Below w.heap.size w w2 → Calls Try.prog 21 #[.slice (some ⟨b, o, none⟩) k c, .string ⟨#[44, 32]⟩] w2 fun e w' => e = .returned (.string J) ∧ Below w.heap.size w w' := by
    intro w2 hb2
    have hxl : ((List.range k).map S).length = k := by simp
    have := Try.strings_Join b o c ((List.range k).map S) ⟨#[44, 32]⟩ w2 (fun j x hx => by
      rw [List.getElem?_map] at hx
      by_cases hj : j < k
      · rw [List.getElem?_range hj] at hx
        cases hx
        rw [hb2.cell hbw]
        exact hcell j (by omega)
      · rw [List.getElem?_eq_none (by simp; omega)] at hx
        cases hx) (Nat.lt_of_lt_of_le hbw hb2.size) (by rw [hxl]; omega) (by rw [hxl]; omega) (by
        rw [List.map_map]
        rw [hk] at hJ
        exact Nat.le_trans hJ (by omega))
    rw [hxl, List.map_map] at this
    refine this.mono ?_
    rintro _ w3 ⟨rfl, hb3⟩
    refine ⟨?_, hb2.trans (hb3.mono hb2.size)⟩
    rw [HJ.out, hk]
    rfl
  have gk : w.cell? ⟨b, o + k, none⟩ = some (.string (S k)) := hcell k (by omega)
  have fin : Hid ((s ++ ⟨#[32]⟩ ++ J ++ ⟨#[32, 97, 110, 100, 32]⟩ ++ S k).data.toList = fromL s.data.toList n (fun i => (S i).data.toList)) := by
    unfold fromL
    rw [if_neg h0, if_neg h1, data_app, data_app, data_app, data_app, HJ.out, hk]
    rfl
  have HC := hide cJ
  have gB : Hid (∀ w2, Below w.heap.size w w2 → w2.cell? ⟨b, o + k, none⟩ = some (.string (S k))) := fun w2 h => (h.cell hbw).trans gk
  clear cJ hJ hI hS hcell hk h0 h1
  go_enter Try.func19, Try.ntmps19
  go_wp2
  go_region_with (go_at_call 21; refine (HC.out _ (by exact ⟨rfl, rfl, rfl, Nat.le_refl _, fun _ _ => rfl⟩)).mono ?_; rintro _ w3 ⟨rfl, hb3⟩; have g3 := gB.out w3 hb3)
  all_goals
    go_simp
    go_wp2
    go_ret
    exact ⟨⟨_, rfl, fin.out⟩, ⟨hb3.os, hb3.tape, hb3.output, hb3.size, hb3.block⟩⟩

theorem zz_any (s : ByteArray) (a : Option Addr) (n c : Nat) (S : Nat → ByteArray) (w : World) (hn : n ≤ 65536) (hc : n ≤ c) (hs : s.size ≤ 1048576) (hS : ∀ i, i < n → (S i).size ≤ 1048576)
    (hJ : (Lib.join ((List.range (n - 1)).map fun i => (S i).data.toList) [44, 32]).length ≤ 4194304) (hI : Strs w a n S) :
    Calls Try.prog 13 #[.string s, .slice a n c] w fun e w' => FromPost s.data.toList n (fun i => (S i).data.toList) e ∧ Below w.heap.size w w' := by
  go_enter Try.func13, Try.ntmps13
  go_wp2_with fail
  refine (from_any s a n c S _ hn hc hs hS hJ hI).mono ?_
  rintro _ w2 ⟨⟨r, rfl, hr⟩, hb⟩
  clear hS hJ hI
  go_wp2
  go_ret
  exact ⟨⟨r, rfl, hr⟩, hb⟩

end Go.Proofs.Qxb6604234a
