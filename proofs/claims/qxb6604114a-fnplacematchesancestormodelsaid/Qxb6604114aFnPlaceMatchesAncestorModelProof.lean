/-
  THE PROOF OF 'Rows.FnPlaceMatchesAncestorModelSaid': the arguments opened, the early answers, the walk of Qxb6604114aLaw.
-/
import Derived.Test.Qxb6604114aRows
import Derived.WalkKit
import Derived.ProofKit
import Derived.OpenShut
import Derived.ChangeOld
import Derived.Below
import Derived.Deep.Matrix
import Derived.Deep.Grids
import Derived.Test.Qxb6604114aLaw
namespace Go.Proofs.Qxb6604114a.fnPlaceMatchesAncestorModel
open Go.ChangeShapes Go.WideShapes Go.ChangeAt Go.RowKit
set_option linter.unusedVariables false

theorem own : ownKnob Try.prog.godebug = none := by kernel_rfl
theorem laidOut : laidOutB Try.prog = true := by kernel_rfl

theorem cells_of {w : World} {a : Addr} {n cap : Nat} {F : Nat → Value} (hl : n ≤ cap) (hc : ∀ i, i < cap → w.cell? (a.add i) = some (F i)) : Cells w (some a) n F := by
  intro hn
  obtain ⟨b, o, spot⟩ := a
  have hspot : spot = none := by simpa [Addr.add] using World.cell?_spot (hc 0 (by omega))
  subst hspot
  exact ⟨b, o, rfl, fun i hi => by rw [← add_plain]; exact hc i (by omega)⟩

set_option maxRecDepth 1000000 in
set_option maxHeartbeats 4000000 in
theorem walk_early (a0 a1 a2 a3 : Option Addr) (n n1 n2 n3 c0 c1 c2 c3 : Nat) (x : Int) (L : Nat → Nat) (E : Nat → Nat → Int) (w : World) (hno : ¬ (n ≤ 256 ∧ n1 ≤ 65536 ∧ n2 ≤ 65536 ∧ n3 ≤ 65536)) (hR : Rows2 w a0 n L E) :
    Calls Try.prog 5 #[.slice a0 n c0, .slice a1 n1 c1, .slice a2 n2 c2, .slice a3 n3 c3, .int .i64 x] w fun ed w' => ed = .returned (.bool true) ∧ Below w.heap.size w w' := by
  have HN := hide hno
  clear hno
  go_enter Try.func5, Try.ntmps5
  go_wp2_with fail
  refine (bytes_any a0 a1 a2 a3 n n1 n2 n3 c0 c1 c2 c3 _ L E _ hR).mono ?_
  rintro _ w' ⟨⟨b, rfl, hb⟩, hw⟩
  obtain rfl : w = w' := hw.symm
  clear hw hb hR
  cases b
  · go_wp2
    go_ret
    exact ⟨rfl, Below.refl _ _⟩
  by_cases t1 : (256 : Int) < (n : Int)
  · clear HN
    go_wp2
    go_ret
    exact ⟨rfl, Below.refl _ _⟩
  by_cases t2 : (65536 : Int) < (n1 : Int)
  · clear HN
    go_wp2
    go_ret
    exact ⟨rfl, Below.refl _ _⟩
  by_cases t3 : (65536 : Int) < (n2 : Int)
  · clear HN
    go_wp2
    go_ret
    exact ⟨rfl, Below.refl _ _⟩
  have t4 : (65536 : Int) < (n3 : Int) := by have := HN.out; omega
  clear HN
  go_wp2
  go_ret
  exact ⟨rfl, Below.refl _ _⟩

theorem walk (a0 a1 a2 a3 : Option Addr) (n n1 n2 n3 c0 c1 c2 c3 : Nat) (x : Int) (L : Nat → Nat) (E : Nat → Nat → Int) (pl : Nat → Bool) (pa de : Nat → Int) (w : World)
    (z0 : a0 = none → n = 0) (z1 : a1 = none → n1 = 0) (z2 : a2 = none → n2 = 0) (z3 : a3 = none → n3 = 0) (hR : Rows2 w a0 n L E) (hB1 : Bools w a1 n1 pl) (hI2 : Ints w a2 n2 pa) (hI3 : Ints w a3 n3 de) :
    Calls Try.prog 5 #[.slice a0 n c0, .slice a1 n1 c1, .slice a2 n2 c2, .slice a3 n3 c3, .int .i64 x] w fun ed w' => ed = .returned (.bool true) ∧ Below w.heap.size w w' := by
  by_cases h : n ≤ 256 ∧ n1 ≤ 65536 ∧ n2 ≤ 65536 ∧ n3 ≤ 65536
  · exact walk_main a0 a1 a2 a3 n n1 n2 n3 c0 c1 c2 c3 x L E pl pa de w h.1 h.2.1 h.2.2.1 h.2.2.2 z0 z1 z2 z3 hR hB1 hI2 hI3
  · exact walk_early a0 a1 a2 a3 n n1 n2 n3 c0 c1 c2 c3 x L E w h hR

set_option maxRecDepth 100000 in
theorem lifted (os : Os) (started : os.Started) (H : Type) (enc : TypeId × Value → H) :
    ReturnsInHanded {} Try.checked os 5 .any (Rows.fnPlaceMatchesAncestorModelSpec.pre6 enc Try.prog Try.f5 Rows.fnPlaceMatchesAncestorModelRow.domain false) (Rows.fnPlaceMatchesAncestorModelSpec.post enc Try.prog Try.f5 false true false false) := by
  refine returnsInHanded_of_change (C := Try.checked) own started (by kernel_rfl) Try.func5
    (ChangeSpec.witness6 (enc := enc) (C := Try.checked) false ⟨#[], #[.slice none 0 0, .slice none 0 0, .slice none 0 0, .slice none 0 0, .int .i64 0], []⟩ 8 (by kernel_rfl) (by kernel_rfl) (by kernel_rfl) (by kernel_rfl)) ?_
  intro W base args ds gs before hval0 hW hcnd _
  have hval : ∀ (j : Nat) t v, Try.f5.params[j]? = some t → args[j]? = some v → Value.okWide Try.prog W .any base t v := hval0
  have hW' := hW
  obtain ⟨p, q, hA0, hV, rfl, hfz, hnd⟩ := hW
  have hA : DataW.TrodAll enc Try.prog W 0 (fun _ => true) true Try.f5.params.toList args.toList ds p := hA0
  rw [Try.params5] at hA hval
  obtain ⟨v0, vs0, d0, ds0, p0, q0, hargs, rfl, rfl, h0, r0⟩ := trodAll_cons hA
  obtain ⟨v1, vs1, d1, ds1, p1, q1, rfl, rfl, rfl, h1, r1⟩ := trodAll_cons r0
  obtain ⟨v2, vs2, d2, ds2, p2, q2, rfl, rfl, rfl, h2, r2⟩ := trodAll_cons r1
  obtain ⟨v3, vs3, d3, ds3, p3, q3, rfl, rfl, rfl, h3, r3⟩ := trodAll_cons r2
  obtain ⟨v4, vs4, d4, ds4, p4, q4, rfl, rfl, rfl, h4, r4⟩ := trodAll_cons r3
  obtain ⟨rfl, rfl, rfl⟩ := trodAll_nil r4
  obtain rfl : args = #[v0, v1, v2, v3, v4] := by cases args; simp_all
  obtain ⟨rfl, rfl⟩ := trodVars_none hV
  obtain ⟨a0, len0, cap0, rfl⟩ := okWide_slice Try.underlying22 (hval 0 22 v0 rfl rfl)
  obtain ⟨a1, len1, cap1, rfl⟩ := okWide_slice Try.underlying29 (hval 1 29 v1 rfl rfl)
  obtain ⟨a2, len2, cap2, rfl⟩ := okWide_slice Try.underlying30 (hval 2 30 v2 rfl rfl)
  obtain ⟨a3, len3, cap3, rfl⟩ := okWide_slice Try.underlying30 (hval 3 30 v3 rfl rfl)
  have k0 := h0
  have lt0 : ∀ x ∈ p0, x.block < W.heap.size := by obtain ⟨m, hm⟩ := k0; exact DataW.trod_lt m _ _ _ hm
  have k1 := h1
  have lt1 : ∀ x ∈ p1, x.block < W.heap.size := by obtain ⟨m, hm⟩ := k1; exact DataW.trod_lt m _ _ _ hm
  have k2 := h2
  have lt2 : ∀ x ∈ p2, x.block < W.heap.size := by obtain ⟨m, hm⟩ := k2; exact DataW.trod_lt m _ _ _ hm
  have k3 := h3
  have lt3 : ∀ x ∈ p3, x.block < W.heap.size := by obtain ⟨m, hm⟩ := k3; exact DataW.trod_lt m _ _ _ hm
  obtain ⟨L, E, z0, w0⟩ : ∃ (L : Nat → Nat) (E : Nat → Nat → Int), (a0 = none → len0 = 0) ∧ Rows2 W a0 len0 L E := by
    obtain ⟨fuel, hf⟩ := h0
    rcases Go.Deep.open_int_rows Try.underlying22 Try.underlying30 Try.underlying3 (by kernel_rfl) (by kernel_rfl) hf with ⟨hcs, _⟩ | ⟨a, l, c, A, L, C, Z, hcs, _, hl, hm, _, hr⟩
    · simp [Value.cells] at hcs
      obtain ⟨rfl, rfl, rfl⟩ := hcs
      exact ⟨fun _ => 0, fun _ _ => 0, fun _ => rfl, fun h => absurd h (by omega)⟩
    · simp [Value.cells] at hcs
      obtain ⟨rfl, rfl, rfl⟩ := hcs
      refine ⟨L, fun i j => (Z i).getD j 0, fun h => (by cases h), fun hn => ?_⟩
      obtain ⟨b, o, q, hc⟩ := cells_of (F := fun r => .slice (A r) (L r) (C r)) hl (fun r hrc => (hr r hrc).1) hn
      refine ⟨b, o, q, fun i hi => ⟨A i, C i, hc i hi, ?_, ?_⟩⟩
      · obtain ⟨_, g1, _, _, _, g2, g3⟩ := hr i (by omega)
        cases hA : A i with
        | none => intro hL; have := g2 hA; omega
        | some a' => exact cells_of g1 (g3 a' hA).2
      · intro hA
        obtain ⟨_, g1, _, _, _, g2, g3⟩ := hr i (by omega)
        have := g2 hA; omega
  obtain ⟨B, z1, w1⟩ : ∃ (B : Nat → Bool), (a1 = none → len1 = 0) ∧ Bools W a1 len1 B := by
    obtain ⟨fuel, hf⟩ := h1
    rcases Go.Deep.open_bools Try.underlying29 Try.underlying4 (by kernel_rfl) hf with ⟨hcs, _⟩ | ⟨a, l, c, B, hcs, _, hl, hm, _, hr⟩
    · simp [Value.cells] at hcs
      obtain ⟨rfl, rfl, rfl⟩ := hcs
      exact ⟨fun _ => false, fun _ => rfl, fun h => absurd h (by omega)⟩
    · simp [Value.cells] at hcs
      obtain ⟨rfl, rfl, rfl⟩ := hcs
      exact ⟨B, fun h => (by cases h), cells_of hl hr⟩
  have ints : ∀ {a : Option Addr} {len cap : Nat} {fuel : Nat} {x}, DataW.trod enc Try.prog W 0 (fun _ => true) true fuel 30 (Value.slice a len cap).cells.toList = some x → ∃ F : Nat → Int, (a = none → len = 0) ∧ Ints W a len F := by
    intro a len cap fuel x hf
    rcases open_ints Try.underlying30 Try.underlying3 (by kernel_rfl) hf with ⟨hcs, _⟩ | ⟨x, l, c, zs, hcs, _, hl, hm, hz, _, hcell, hwz⟩
    · simp [Value.cells] at hcs
      obtain ⟨rfl, rfl, rfl⟩ := hcs
      exact ⟨fun _ => 0, fun _ => rfl, fun h => absurd h (by omega)⟩
    · simp [Value.cells] at hcs
      obtain ⟨rfl, rfl, rfl⟩ := hcs
      simp only [if_true] at hz
      exact ⟨fun i => zs.getD i 0, fun h => (by cases h), cells_of hl (fun i hi => hcell i (by omega))⟩
  obtain ⟨F2, z2, w2⟩ : ∃ F : Nat → Int, (a2 = none → len2 = 0) ∧ Ints W a2 len2 F := by obtain ⟨fuel, hf⟩ := h2; exact ints hf
  obtain ⟨F3, z3, w3⟩ : ∃ F : Nat → Int, (a3 = none → len3 = 0) ∧ Ints W a3 len3 F := by obtain ⟨fuel, hf⟩ := h3; exact ints hf
  obtain ⟨a4, rfl, rfl, rfl, w4⟩ := open_int Try.underlying3 (hval 4 3 v4 rfl rfl) h4
  clear hA0 hval0
  refine (walk a0 a1 a2 a3 len0 len1 len2 len3 cap0 cap1 cap2 cap3 a4 L E B F2 F3 W z0 z1 z2 z3 w0 w1 w2 w3).mono fun e W' ⟨he, bel⟩ => ?_
  subst he
  exact ⟨_, rfl, _, _, _, [], _, [], hW', trodAll_mk1 (shut_bool Try.underlying4 _), (trodAll_cons_mk (Below.trod laidOut (by kernel_rfl) (of_decide_eq_true (by kernel_rfl)) k0 bel lt0) (trodAll_cons_mk (Below.trod laidOut (by kernel_rfl) (of_decide_eq_true (by kernel_rfl)) k1 bel lt1) (trodAll_cons_mk (Below.trod laidOut (by kernel_rfl) (of_decide_eq_true (by kernel_rfl)) k2 bel lt2) (trodAll_cons_mk (Below.trod laidOut (by kernel_rfl) (of_decide_eq_true (by kernel_rfl)) k3 bel lt3) (trodAll_cons_mk (shut_int Try.underlying3 w4) trodAll_mk0))))), rfl, bel.frame _, fun h => by cases h⟩

theorem over : Rows.fnPlaceMatchesAncestorModelRow.holds Try.pinned (OpenSpec.ofChange Rows.fnPlaceMatchesAncestorModelSpec) :=
  OpenClaim.holds_of_wide 5 Try.f5 rfl rfl rfl rfl rfl rfl rfl ⟨rfl, rfl, rfl, rfl, rfl⟩ rfl rfl rfl rfl rfl (by kernel_rfl) Try.func5 (by kernel_rfl)
    (of_decide_eq_true (by kernel_rfl)) (by unfold Func.isWrapper; first | (rw [if_pos (by decide +kernel)]; kernel_rfl) | (rw [if_neg (by decide +kernel)]; exact ⟨rfl, rfl⟩))
    (fun os started H enc _ => lifted os started H enc)

/-- ████ THE STATEMENT ████ -/
theorem proved : Rows.FnPlaceMatchesAncestorModelSaid := over
#print axioms proved
end Go.Proofs.Qxb6604114a.fnPlaceMatchesAncestorModel
