/-
  'ZZUnion': columns in, columns out.
-/
import Derived.Test.Qxb6604083aUnion
namespace Go.Proofs.Qxb6604083a
open Go.RowKit
set_option linter.unusedVariables false

theorem rc_even' (U : List (Int × Int)) (i : Nat) : rc U (i * 2) = .int .i64 (fF U i) := rc_even U i
theorem rc_odd' (U : List (Int × Int)) (i : Nat) : rc U (i * 2 + 1) = .int .i64 (fE U i) := rc_odd U i
theorem step_fun (G : Nat → Int) (k j : Nat) : (if j = k then (Value.int .i64 (G k)) else if j < k then .int .i64 (G j) else .int .i64 0) = if j < k + 1 then .int .i64 (G j) else .int .i64 0 := by
  by_cases e : j = k
  · subst e; rw [if_pos rfl, if_pos (by omega)]
  · rw [if_neg e]
    by_cases e2 : j < k
    · rw [if_pos e2, if_pos (by omega)]
    · rw [if_neg e2, if_neg (by omega)]

set_option maxRecDepth 100000 in
set_option maxHeartbeats 1000000 in
theorem zz_any (a1 a2 a3 a4 : Option Addr) (n m c1 c2 c3 c4 : Nat) (F E G H : Nat → Int) (hn : n ≤ 131072) (hm : m ≤ 131072) (w : World) (z1 : a1 = none → n = 0) (z3 : a3 = none → m = 0)
    (h1 : Ints w a1 n F) (h2 : Ints w a2 n E) (h3 : Ints w a3 m G) (h4 : Ints w a4 m H) (wS : WF (mk n F E)) (wT : WF (mk m G H)) :
    Calls Try.prog 16 #[.slice a1 n c1, .slice a2 n c2, .slice a3 m c3, .slice a4 m c4] w fun e w' => (∃ aF cF aE cE U, e = .returned (.tuple #[.slice aF (List.length U) cF, .slice aE (List.length U) cE]) ∧ Ints w' aF U.length (fF U) ∧ Ints w' aE U.length (fE U) ∧ (aF = none → U.length = 0) ∧
      WF U ∧ (∀ x, Has U x ↔ (Has (mk n F E) x ∨ Has (mk m G H) x)) ∧ U.length ≤ n + m) ∧ Below w.heap.size w w' := by
  go_enter Try.func16, Try.ntmps16
  go_wp2_with fail
  refine (runs_any a1 a2 n c1 c2 F E (by omega) _ z1 h1 h2).mono ?_
  rintro _ w1 ⟨⟨r1, cr1, rfl, hcr1, R1⟩, hb1⟩
  go_wp2_with fail
  refine (runs_any a3 a4 m c3 c4 G H (by omega) _ z3 (h3.below hb1) (h4.below hb1)).mono ?_
  rintro _ w2 ⟨⟨r2, cr2, rfl, hcr2, R2⟩, hb2⟩
  have hb12 : Below w.heap.size w w2 := hb1.trans (hb2.mono hb1.size)
  have R1' := R1.below hb2
  clear h1 h2 h3 h4 R1 hb1 hb2 z1 z3
  go_wp2_with fail
  have hu := union_any (mk n F E) (mk m G H) r1 r2 cr1 cr2 w2 (by rw [mk_length]; omega) (by rw [mk_length]; omega) (by rw [mk_length]; omega) (by rw [mk_length]; omega) wS wT R1' R2
  rw [mk_length, mk_length] at hu
  refine hu.mono ?_
  rintro _ w3 ⟨⟨r3, cr3, U, rfl, R3, hW, hH, hL⟩, hb3⟩
  have hb13 : Below w.heap.size w w3 := hb12.trans (hb3.mono hb12.size)
  obtain ⟨nu, Hnu⟩ : ∃ nu, Hid (U.length = nu) := ⟨_, rfl⟩
  have HH := hide (And.intro hW hH)
  rw [Hnu.out] at hL
  rw [Hnu.out]
  clear hu hb12 hb3 R1' R2 wS wT hW hH
  have hmk := fun w => run_make_row' (P := Try.prog) 22 3 (.int .i64 0) 8 Try.underlying22 Try.info3 rfl .i64 .i64 nu (by omega) (by omega) w
  go_wp2
  go_loopw [29] (fun i wr => ∃ k : Nat, k ≤ nu ∧ i = .int .i64 k ∧ wr.rowIs w3.heap.size 3 nu (fun j => if j < k then .int .i64 (fF U j) else .int .i64 0) ∧ wr.rowIs (w3.heap.size + 1) 3 nu (fun j => if j < k then .int .i64 (fE U j) else .int .i64 0) ∧ Below w3.heap.size w3 wr) (fun i _ => nu - (intOf i).toNat)
  case atStart =>
    refine ⟨0, Nat.zero_le _, rfl, ((World.rowIs_made w3 _ nu 3).congr (by intro i hi; simp)).alloc _, ?_, ((Below.refl _ _).alloc (Nat.le_refl _) _).alloc (by simp) _⟩
    have := (World.rowIs_made (w3.alloc (.cells (madeCells #[.int .i64 0] nu) 3)) (.int .i64 0) nu 3).congr (g := fun j => if j < 0 then .int .i64 (fE U j) else .int .i64 0) (by intro i hi; simp)
    simpa using this
  case round =>
    obtain ⟨k, hk, rfl, hrF, hrE, hbel⟩ := hrel
    by_cases hlt : k < nu
    · obtain ⟨b, o, e, hc⟩ := R3 (by rw [Hnu.out]; omega)
      cases e
      have s1 := hc (k * 2) (by rw [Hnu.out]; omega)
      have s2 := hc (k * 2 + 1) (by rw [Hnu.out]; omega)
      rw [rc_even'] at s1
      rw [rc_odd', ← Nat.add_assoc] at s2
      have b1 := World.block_lt_of_cell? _ _ s1
      have g1 : wr.cell? ⟨b, o + k * 2, none⟩ = some (.int .i64 (fF U k)) := (hbel.cell b1).trans s1
      have g2 : wr.cell? ⟨b, o + k * 2 + 1, none⟩ = some (.int .i64 (fE U k)) := (hbel.cell (World.block_lt_of_cell? _ _ s2)).trans s2
      have bne : b < w3.heap.size := b1
      have d1 := hrF.cell hlt
      have d2 := hrE.cell hlt
      have f1 := hrF.frozen k
      have f2 := hrE.frozen k
      simp only [Nat.lt_irrefl, if_false] at d1 d2
      have hrF' := ((hrF.set k (.int .i64 (fF U k))).congr (fun j _ => step_fun (fF U) k j)).setOther (a := ⟨w3.heap.size + 1, k, none⟩) (by simp) (.int .i64 (fE U k))
      have hrE' := ((hrE.setOther (a := ⟨w3.heap.size, k, none⟩) (by simp) (.int .i64 (fF U k))).set k (.int .i64 (fE U k))).congr (fun j _ => step_fun (fE U) k j)
      have hbel' := (hbel.setCell (p := ⟨w3.heap.size, k, none⟩) (Nat.le_refl _) (.int .i64 (fF U k))).setCell (p := ⟨w3.heap.size + 1, k, none⟩) (by simp) (.int .i64 (fE U k))
      clear hmk s1 s2 hc hrF hrE hbel R3
      go_wp2
      go_roundw
      case rel => exact ⟨k + 1, by omega, by go_num, hrF', hrE', hbel'⟩
      case measure => simp [intOf]; omega
    · have hrF' := hrF.congr (g := fun j => .int .i64 (fF U j)) (by intro j hj; simp [show j < k by omega])
      have hrE' := hrE.congr (g := fun j => .int .i64 (fE U j)) (by intro j hj; simp [show j < k by omega])
      have hbel' := hb13.trans (hbel.mono hb13.size)
      clear hmk hrF hrE R3 hbel hb13
      go_wp2
      go_ret2
      refine ⟨⟨_, _, _, _, U, by rw [Hnu.out]; rfl, ?_, ?_, by simp, HH.out.1, HH.out.2, by rw [Hnu.out]; exact hL⟩, hbel'⟩
      · rw [Hnu.out]; exact fun _ => ⟨_, _, rfl, fun i hi => by rw [Nat.zero_add]; exact hrF'.cell hi⟩
      · rw [Hnu.out]; exact fun _ => ⟨_, _, rfl, fun i hi => by rw [Nat.zero_add]; exact hrE'.cell hi⟩

end Go.Proofs.Qxb6604083a
