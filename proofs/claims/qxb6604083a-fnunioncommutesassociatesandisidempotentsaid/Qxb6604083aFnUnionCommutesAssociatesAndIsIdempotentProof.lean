/-
  THE PROOF OF 'Rows.FnUnionCommutesAssociatesAndIsIdempotentSaid': the given shell (proof-skeleton.mjs), its one gap filled: the early returns here, the true case in Qxb6604083aLaw.
-/
import Derived.Test.Qxb6604083aRows
import Derived.WalkKit
import Derived.ProofKit
import Derived.OpenShut
import Derived.ShutString
import Derived.ChangeOld
import Derived.Below
import Derived.Test.Qxb6604083aLaw
namespace Go.Proofs.Qxb6604083a.fnUnionCommutesAssociatesAndIsIdempotent
open Go.ChangeShapes Go.WideShapes Go.ChangeAt Go.RowKit
open Go.ChangeMaps (open_string shut_string)
set_option linter.unusedVariables false

theorem own : ownKnob Try.prog.godebug = none := by kernel_rfl
theorem laidOut : laidOutB Try.prog = true := by kernel_rfl

/-- WHAT THE WALK IS TOLD OF A SLICE OF INTEGERS THAT CAME IN: it is nil; or it leads to a row of 'cap' cells, the numbers 'zs' (the first 'len' are its elements, the rest its spare room), each fitting its kind. -/
def IsRow (k : IntKind) (w : World) (a : Option Addr) (len cap : Nat) (zs : List Int) : Prop :=
  (a = none ∧ len = 0 ∧ cap = 0 ∧ zs = []) ∨
  ∃ x, a = some x ∧ len ≤ cap ∧ cap ≤ maxLen ∧ zs.length = cap ∧ (∀ i, i < zs.length → w.cell? (x.add i) = some (.int k (zs.getD i 0))) ∧ ∀ n ∈ zs, (Lit.int k n).wf = true

set_option maxRecDepth 100000 in
set_option maxHeartbeats 2000000 in
theorem early_big (a0 : Option Addr) (len0 cap0 : Nat) (a1 : Option Addr) (len1 cap1 : Nat) (a2 : Option Addr) (len2 cap2 : Nat) (a3 : Option Addr) (len3 cap3 : Nat) (a4 : Option Addr) (len4 cap4 : Nat) (a5 : Option Addr) (len5 cap5 : Nat) (w : World)
    (h : ¬ (len0 ≤ 16384 ∧ len1 ≤ 16384 ∧ len2 ≤ 16384 ∧ len3 ≤ 16384 ∧ len4 ≤ 16384 ∧ len5 ≤ 16384)) :
    Calls Try.prog 5 #[.slice a0 len0 cap0, .slice a1 len1 cap1, .slice a2 len2 cap2, .slice a3 len3 cap3, .slice a4 len4 cap4, .slice a5 len5 cap5] w fun e w' => e = .returned (.bool true) ∧ Below w.heap.size w w' := by
  by_cases t0 : (16384 : Int) < (len0 : Int)
  · clear h
    go_enter Try.func5, Try.ntmps5
    go_wp2_with fail
    refine (bytes_some _ _ _ _ _ _ len0 len1 len2 len3 len4 len5 cap0 cap1 cap2 cap3 cap4 cap5 _).mono ?_
    rintro _ w' ⟨⟨b, rfl⟩, hw⟩
    obtain rfl : w = w' := hw.symm
    clear hw
    cases b
    · go_wp2
      go_ret
      exact ⟨rfl, Below.refl _ _⟩
    · go_wp2
      go_ret
      exact ⟨rfl, Below.refl _ _⟩
  by_cases t1 : (16384 : Int) < (len1 : Int)
  · clear h
    go_enter Try.func5, Try.ntmps5
    go_wp2_with fail
    refine (bytes_some _ _ _ _ _ _ len0 len1 len2 len3 len4 len5 cap0 cap1 cap2 cap3 cap4 cap5 _).mono ?_
    rintro _ w' ⟨⟨b, rfl⟩, hw⟩
    obtain rfl : w = w' := hw.symm
    clear hw
    cases b
    · go_wp2
      go_ret
      exact ⟨rfl, Below.refl _ _⟩
    · go_wp2
      go_ret
      exact ⟨rfl, Below.refl _ _⟩
  by_cases t2 : (16384 : Int) < (len2 : Int)
  · clear h
    go_enter Try.func5, Try.ntmps5
    go_wp2_with fail
    refine (bytes_some _ _ _ _ _ _ len0 len1 len2 len3 len4 len5 cap0 cap1 cap2 cap3 cap4 cap5 _).mono ?_
    rintro _ w' ⟨⟨b, rfl⟩, hw⟩
    obtain rfl : w = w' := hw.symm
    clear hw
    cases b
    · go_wp2
      go_ret
      exact ⟨rfl, Below.refl _ _⟩
    · go_wp2
      go_ret
      exact ⟨rfl, Below.refl _ _⟩
  by_cases t3 : (16384 : Int) < (len3 : Int)
  · clear h
    go_enter Try.func5, Try.ntmps5
    go_wp2_with fail
    refine (bytes_some _ _ _ _ _ _ len0 len1 len2 len3 len4 len5 cap0 cap1 cap2 cap3 cap4 cap5 _).mono ?_
    rintro _ w' ⟨⟨b, rfl⟩, hw⟩
    obtain rfl : w = w' := hw.symm
    clear hw
    cases b
    · go_wp2
      go_ret
      exact ⟨rfl, Below.refl _ _⟩
    · go_wp2
      go_ret
      exact ⟨rfl, Below.refl _ _⟩
  by_cases t4 : (16384 : Int) < (len4 : Int)
  · clear h
    go_enter Try.func5, Try.ntmps5
    go_wp2_with fail
    refine (bytes_some _ _ _ _ _ _ len0 len1 len2 len3 len4 len5 cap0 cap1 cap2 cap3 cap4 cap5 _).mono ?_
    rintro _ w' ⟨⟨b, rfl⟩, hw⟩
    obtain rfl : w = w' := hw.symm
    clear hw
    cases b
    · go_wp2
      go_ret
      exact ⟨rfl, Below.refl _ _⟩
    · go_wp2
      go_ret
      exact ⟨rfl, Below.refl _ _⟩
  by_cases t5 : (16384 : Int) < (len5 : Int)
  · clear h
    go_enter Try.func5, Try.ntmps5
    go_wp2_with fail
    refine (bytes_some _ _ _ _ _ _ len0 len1 len2 len3 len4 len5 cap0 cap1 cap2 cap3 cap4 cap5 _).mono ?_
    rintro _ w' ⟨⟨b, rfl⟩, hw⟩
    obtain rfl : w = w' := hw.symm
    clear hw
    cases b
    · go_wp2
      go_ret
      exact ⟨rfl, Below.refl _ _⟩
    · go_wp2
      go_ret
      exact ⟨rfl, Below.refl _ _⟩
  exact absurd ⟨by omega, by omega, by omega, by omega, by omega, by omega⟩ h

set_option maxRecDepth 100000 in
set_option maxHeartbeats 2000000 in
theorem early_ne (a0 : Option Addr) (len0 cap0 : Nat) (a1 : Option Addr) (len1 cap1 : Nat) (a2 : Option Addr) (len2 cap2 : Nat) (a3 : Option Addr) (len3 cap3 : Nat) (a4 : Option Addr) (len4 cap4 : Nat) (a5 : Option Addr) (len5 cap5 : Nat) (w : World)
    (h0 : len0 ≤ 16384) (h1 : len1 ≤ 16384) (h2 : len2 ≤ 16384) (h3 : len3 ≤ 16384) (h4 : len4 ≤ 16384) (h5 : len5 ≤ 16384) (h : ¬ (len0 = len1 ∧ len2 = len3 ∧ len4 = len5)) :
    Calls Try.prog 5 #[.slice a0 len0 cap0, .slice a1 len1 cap1, .slice a2 len2 cap2, .slice a3 len3 cap3, .slice a4 len4 cap4, .slice a5 len5 cap5] w fun e w' => e = .returned (.bool true) ∧ Below w.heap.size w w' := by
  have t0 : ¬ (16384 : Int) < (len0 : Int) := by omega
  have t1 : ¬ (16384 : Int) < (len1 : Int) := by omega
  have t2 : ¬ (16384 : Int) < (len2 : Int) := by omega
  have t3 : ¬ (16384 : Int) < (len3 : Int) := by omega
  have t4 : ¬ (16384 : Int) < (len4 : Int) := by omega
  have t5 : ¬ (16384 : Int) < (len5 : Int) := by omega
  by_cases e0 : len0 = len1
  · subst e0
    have g0 : ((len0 : Int) != (len0 : Int)) = false := by simp
    by_cases e1 : len2 = len3
    · subst e1
      have g1 : ((len2 : Int) != (len2 : Int)) = false := by simp
      have g2 : ((len4 : Int) != (len5 : Int)) = true := by rw [bne_iff_ne]; intro e; exact h ⟨rfl, rfl, by omega⟩
      clear h
      go_enter Try.func5, Try.ntmps5
      go_wp2_with fail
      refine (bytes_yes _ _ _ _ _ _ len0 len0 len2 len2 len4 len5 cap0 cap1 cap2 cap3 cap4 cap5 h0 h1 h2 h3 h4 h5 _).mono ?_
      rintro _ w' ⟨rfl, hw⟩
      obtain rfl : w = w' := hw.symm
      clear hw
      go_wp2
      go_ret
      exact ⟨rfl, Below.refl _ _⟩
    · have g1 : ((len2 : Int) != (len3 : Int)) = true := by rw [bne_iff_ne]; omega
      clear h
      go_enter Try.func5, Try.ntmps5
      go_wp2_with fail
      refine (bytes_yes _ _ _ _ _ _ len0 len0 len2 len3 len4 len5 cap0 cap1 cap2 cap3 cap4 cap5 h0 h1 h2 h3 h4 h5 _).mono ?_
      rintro _ w' ⟨rfl, hw⟩
      obtain rfl : w = w' := hw.symm
      clear hw
      go_wp2
      go_ret
      exact ⟨rfl, Below.refl _ _⟩
  · have g0 : ((len0 : Int) != (len1 : Int)) = true := by rw [bne_iff_ne]; omega
    clear h
    go_enter Try.func5, Try.ntmps5
    go_wp2_with fail
    refine (bytes_yes _ _ _ _ _ _ len0 len1 len2 len3 len4 len5 cap0 cap1 cap2 cap3 cap4 cap5 h0 h1 h2 h3 h4 h5 _).mono ?_
    rintro _ w' ⟨rfl, hw⟩
    obtain rfl : w = w' := hw.symm
    clear hw
    go_wp2
    go_ret
    exact ⟨rfl, Below.refl _ _⟩

theorem row_ints {w : World} {a : Option Addr} {len cap : Nat} {zs : List Int} (h : IsRow .i64 w a len cap zs) : Ints w a len (fun i => zs.getD i 0) ∧ (a = none → len = 0) := by
  rcases h with ⟨rfl, rfl, _⟩ | ⟨x, rfl, hlc, _, hz, hc, _⟩
  · exact ⟨fun h => absurd h (by omega), fun _ => rfl⟩
  · refine ⟨fun hn => ?_, fun h => by cases h⟩
    obtain ⟨b, o, spot⟩ := x
    have hspot : spot = none := by simpa [Addr.add] using World.cell?_spot (hc 0 (by omega))
    subst hspot
    exact ⟨b, o, rfl, fun i hi => by rw [← add_plain]; exact hc i (by omega)⟩

/-! ### STEP 1: THE WALK: the Go text returns true, AND WRITES NOTHING THAT WAS THERE: 'Below w.heap.size w w'' (Derived/Below.lean: '.refl', '.alloc', '.drew', '.setCell' at a new block, '.trans'). Open each 'IsRow' by 'rcases' AHEAD of 'go_enter'; part every test ahead of the walk. -/
theorem walk (a0 : Option Addr) (len0 cap0 : Nat) (z0 : List Int) (a1 : Option Addr) (len1 cap1 : Nat) (z1 : List Int) (a2 : Option Addr) (len2 cap2 : Nat) (z2 : List Int) (a3 : Option Addr) (len3 cap3 : Nat) (z3 : List Int) (a4 : Option Addr) (len4 cap4 : Nat) (z4 : List Int) (a5 : Option Addr) (len5 cap5 : Nat) (z5 : List Int) (w : World) (w0 : IsRow .i64 w a0 len0 cap0 z0) (w1 : IsRow .i64 w a1 len1 cap1 z1) (w2 : IsRow .i64 w a2 len2 cap2 z2) (w3 : IsRow .i64 w a3 len3 cap3 z3) (w4 : IsRow .i64 w a4 len4 cap4 z4) (w5 : IsRow .i64 w a5 len5 cap5 z5) :
    Calls Try.prog 5 #[.slice a0 len0 cap0, .slice a1 len1 cap1, .slice a2 len2 cap2, .slice a3 len3 cap3, .slice a4 len4 cap4, .slice a5 len5 cap5] w fun e w' => e = .returned (.bool true) ∧ Below w.heap.size w w' := by
  by_cases hall : len0 ≤ 16384 ∧ len1 ≤ 16384 ∧ len2 ≤ 16384 ∧ len3 ≤ 16384 ∧ len4 ≤ 16384 ∧ len5 ≤ 16384
  · obtain ⟨h0, h1, h2, h3, h4, h5⟩ := hall
    by_cases heq : len0 = len1 ∧ len2 = len3 ∧ len4 = len5
    · obtain ⟨rfl, rfl, rfl⟩ := heq
      obtain ⟨i0, z0⟩ := row_ints w0
      obtain ⟨i1, z1⟩ := row_ints w1
      obtain ⟨i2, z2⟩ := row_ints w2
      obtain ⟨i3, z3⟩ := row_ints w3
      obtain ⟨i4, z4⟩ := row_ints w4
      obtain ⟨i5, z5⟩ := row_ints w5
      exact walk_true a0 a1 a2 a3 a4 a5 len0 len2 len4 cap0 cap1 cap2 cap3 cap4 cap5 _ _ _ _ _ _ w h0 h2 h4 z0 z1 z2 z3 z4 z5 i0 i1 i2 i3 i4 i5
    · exact early_ne a0 len0 cap0 a1 len1 cap1 a2 len2 cap2 a3 len3 cap3 a4 len4 cap4 a5 len5 cap5 w h0 h1 h2 h3 h4 h5 heq
  · exact early_big a0 len0 cap0 a1 len1 cap1 a2 len2 cap2 a3 len3 cap3 a4 len4 cap4 a5 len5 cap5 w hall

/-! ### THE ROW's STEP: WRITTEN OUT: LEAVE IT -/
set_option maxRecDepth 100000 in
theorem lifted (os : Os) (started : os.Started) (H : Type) (enc : TypeId × Value → H) :
    ReturnsInHanded {} Try.checked os 5 .any (Rows.fnUnionCommutesAssociatesAndIsIdempotentSpec.pre6 enc Try.prog Try.f5 Rows.fnUnionCommutesAssociatesAndIsIdempotentRow.domain false) (Rows.fnUnionCommutesAssociatesAndIsIdempotentSpec.post enc Try.prog Try.f5 false true false false) := by
  refine returnsInHanded_of_change (C := Try.checked) own started (by kernel_rfl) Try.func5
    (ChangeSpec.witness6 (enc := enc) (C := Try.checked) false ⟨#[], #[.slice none 0 0, .slice none 0 0, .slice none 0 0, .slice none 0 0, .slice none 0 0, .slice none 0 0], []⟩ 8 (by kernel_rfl) (by kernel_rfl) (by kernel_rfl) (by kernel_rfl)) ?_
  intro W base args ds gs before hval0 hW hcnd _
  have hval : ∀ (j : Nat) t v, Try.f5.params[j]? = some t → args[j]? = some v → Value.okWide Try.prog W .any base t v := hval0
  have hW' := hW
  obtain ⟨p, q, hA0, hV, rfl, hfz, hnd⟩ := hW
  have hA : DataW.TrodAll enc Try.prog W 0 (fun _ => true) true Try.f5.params.toList args.toList ds p := hA0
  rw [Try.params5] at hA hval
  obtain ⟨v0, vs0, d0, ds0, p0, q0, hargs, rfl, rfl, h0, r0⟩ := trodAll_cons hA
  obtain ⟨v1, vs1, d1, ds1, p1, q1, rfl, rfl, rfl, h1, r1⟩ := trodAll_cons r0
  obtain ⟨v2, vs2, d2, ds2, p2, q2, rfl, rfl, rfl, h2, r2⟩ := trodAll_cons r1
  obtain ⟨v3, vs3, d3, ds3, p3, q3, rfl, rfl, rfl, h3, r3⟩ := trodAll_cons r2
  obtain ⟨v4, vs4, d4, ds4, p4, q4, rfl, rfl, rfl, h4, r4⟩ := trodAll_cons r3
  obtain ⟨v5, vs5, d5, ds5, p5, q5, rfl, rfl, rfl, h5, r5⟩ := trodAll_cons r4
  obtain ⟨rfl, rfl, rfl⟩ := trodAll_nil r5
  obtain rfl : args = #[v0, v1, v2, v3, v4, v5] := by cases args; simp_all
  obtain ⟨rfl, rfl⟩ := trodVars_none hV
  obtain ⟨a0, len0, cap0, rfl⟩ := okWide_slice Try.underlying22 (hval 0 22 v0 rfl rfl)
  have k0 := h0
  have lt0 : ∀ x ∈ p0, x.block < W.heap.size := by obtain ⟨m, hm⟩ := k0; exact DataW.trod_lt m _ _ _ hm
  obtain ⟨z0, w0⟩ : ∃ zs, IsRow .i64 W a0 len0 cap0 zs := by
    obtain ⟨fuel, hf⟩ := h0
    rcases open_ints Try.underlying22 Try.underlying3 (by kernel_rfl) hf with ⟨hcs, _⟩ | ⟨x, l, c, zs, hcs, _, hl, hm, hz, _, hcell, hwz⟩
    · simp [Value.cells] at hcs
      obtain ⟨rfl, rfl, rfl⟩ := hcs
      exact ⟨[], .inl ⟨rfl, rfl, rfl, rfl⟩⟩
    · simp [Value.cells] at hcs
      obtain ⟨rfl, rfl, rfl⟩ := hcs
      exact ⟨zs, .inr ⟨_, rfl, hl, hm, by simpa using hz, hcell, hwz⟩⟩
  obtain ⟨a1, len1, cap1, rfl⟩ := okWide_slice Try.underlying22 (hval 1 22 v1 rfl rfl)
  have k1 := h1
  have lt1 : ∀ x ∈ p1, x.block < W.heap.size := by obtain ⟨m, hm⟩ := k1; exact DataW.trod_lt m _ _ _ hm
  obtain ⟨z1, w1⟩ : ∃ zs, IsRow .i64 W a1 len1 cap1 zs := by
    obtain ⟨fuel, hf⟩ := h1
    rcases open_ints Try.underlying22 Try.underlying3 (by kernel_rfl) hf with ⟨hcs, _⟩ | ⟨x, l, c, zs, hcs, _, hl, hm, hz, _, hcell, hwz⟩
    · simp [Value.cells] at hcs
      obtain ⟨rfl, rfl, rfl⟩ := hcs
      exact ⟨[], .inl ⟨rfl, rfl, rfl, rfl⟩⟩
    · simp [Value.cells] at hcs
      obtain ⟨rfl, rfl, rfl⟩ := hcs
      exact ⟨zs, .inr ⟨_, rfl, hl, hm, by simpa using hz, hcell, hwz⟩⟩
  obtain ⟨a2, len2, cap2, rfl⟩ := okWide_slice Try.underlying22 (hval 2 22 v2 rfl rfl)
  have k2 := h2
  have lt2 : ∀ x ∈ p2, x.block < W.heap.size := by obtain ⟨m, hm⟩ := k2; exact DataW.trod_lt m _ _ _ hm
  obtain ⟨z2, w2⟩ : ∃ zs, IsRow .i64 W a2 len2 cap2 zs := by
    obtain ⟨fuel, hf⟩ := h2
    rcases open_ints Try.underlying22 Try.underlying3 (by kernel_rfl) hf with ⟨hcs, _⟩ | ⟨x, l, c, zs, hcs, _, hl, hm, hz, _, hcell, hwz⟩
    · simp [Value.cells] at hcs
      obtain ⟨rfl, rfl, rfl⟩ := hcs
      exact ⟨[], .inl ⟨rfl, rfl, rfl, rfl⟩⟩
    · simp [Value.cells] at hcs
      obtain ⟨rfl, rfl, rfl⟩ := hcs
      exact ⟨zs, .inr ⟨_, rfl, hl, hm, by simpa using hz, hcell, hwz⟩⟩
  obtain ⟨a3, len3, cap3, rfl⟩ := okWide_slice Try.underlying22 (hval 3 22 v3 rfl rfl)
  have k3 := h3
  have lt3 : ∀ x ∈ p3, x.block < W.heap.size := by obtain ⟨m, hm⟩ := k3; exact DataW.trod_lt m _ _ _ hm
  obtain ⟨z3, w3⟩ : ∃ zs, IsRow .i64 W a3 len3 cap3 zs := by
    obtain ⟨fuel, hf⟩ := h3
    rcases open_ints Try.underlying22 Try.underlying3 (by kernel_rfl) hf with ⟨hcs, _⟩ | ⟨x, l, c, zs, hcs, _, hl, hm, hz, _, hcell, hwz⟩
    · simp [Value.cells] at hcs
      obtain ⟨rfl, rfl, rfl⟩ := hcs
      exact ⟨[], .inl ⟨rfl, rfl, rfl, rfl⟩⟩
    · simp [Value.cells] at hcs
      obtain ⟨rfl, rfl, rfl⟩ := hcs
      exact ⟨zs, .inr ⟨_, rfl, hl, hm, by simpa using hz, hcell, hwz⟩⟩
  obtain ⟨a4, len4, cap4, rfl⟩ := okWide_slice Try.underlying22 (hval 4 22 v4 rfl rfl)
  have k4 := h4
  have lt4 : ∀ x ∈ p4, x.block < W.heap.size := by obtain ⟨m, hm⟩ := k4; exact DataW.trod_lt m _ _ _ hm
  obtain ⟨z4, w4⟩ : ∃ zs, IsRow .i64 W a4 len4 cap4 zs := by
    obtain ⟨fuel, hf⟩ := h4
    rcases open_ints Try.underlying22 Try.underlying3 (by kernel_rfl) hf with ⟨hcs, _⟩ | ⟨x, l, c, zs, hcs, _, hl, hm, hz, _, hcell, hwz⟩
    · simp [Value.cells] at hcs
      obtain ⟨rfl, rfl, rfl⟩ := hcs
      exact ⟨[], .inl ⟨rfl, rfl, rfl, rfl⟩⟩
    · simp [Value.cells] at hcs
      obtain ⟨rfl, rfl, rfl⟩ := hcs
      exact ⟨zs, .inr ⟨_, rfl, hl, hm, by simpa using hz, hcell, hwz⟩⟩
  obtain ⟨a5, len5, cap5, rfl⟩ := okWide_slice Try.underlying22 (hval 5 22 v5 rfl rfl)
  have k5 := h5
  have lt5 : ∀ x ∈ p5, x.block < W.heap.size := by obtain ⟨m, hm⟩ := k5; exact DataW.trod_lt m _ _ _ hm
  obtain ⟨z5, w5⟩ : ∃ zs, IsRow .i64 W a5 len5 cap5 zs := by
    obtain ⟨fuel, hf⟩ := h5
    rcases open_ints Try.underlying22 Try.underlying3 (by kernel_rfl) hf with ⟨hcs, _⟩ | ⟨x, l, c, zs, hcs, _, hl, hm, hz, _, hcell, hwz⟩
    · simp [Value.cells] at hcs
      obtain ⟨rfl, rfl, rfl⟩ := hcs
      exact ⟨[], .inl ⟨rfl, rfl, rfl, rfl⟩⟩
    · simp [Value.cells] at hcs
      obtain ⟨rfl, rfl, rfl⟩ := hcs
      exact ⟨zs, .inr ⟨_, rfl, hl, hm, by simpa using hz, hcell, hwz⟩⟩
  clear hA0 hval0
  refine (walk a0 len0 cap0 z0 a1 len1 cap1 z1 a2 len2 cap2 z2 a3 len3 cap3 z3 a4 len4 cap4 z4 a5 len5 cap5 z5 W w0 w1 w2 w3 w4 w5).mono fun e W' ⟨he, bel⟩ => ?_
  subst he
  exact ⟨_, rfl, _, _, _, [], _, [], hW', trodAll_mk1 (shut_bool Try.underlying4 _), (trodAll_cons_mk (Below.trod laidOut (by kernel_rfl) (of_decide_eq_true (by kernel_rfl)) k0 bel lt0) (trodAll_cons_mk (Below.trod laidOut (by kernel_rfl) (of_decide_eq_true (by kernel_rfl)) k1 bel lt1) (trodAll_cons_mk (Below.trod laidOut (by kernel_rfl) (of_decide_eq_true (by kernel_rfl)) k2 bel lt2) (trodAll_cons_mk (Below.trod laidOut (by kernel_rfl) (of_decide_eq_true (by kernel_rfl)) k3 bel lt3) (trodAll_cons_mk (Below.trod laidOut (by kernel_rfl) (of_decide_eq_true (by kernel_rfl)) k4 bel lt4) (trodAll_cons_mk (Below.trod laidOut (by kernel_rfl) (of_decide_eq_true (by kernel_rfl)) k5 bel lt5) trodAll_mk0)))))), rfl, bel.frame _, fun h => by cases h⟩

theorem over : Rows.fnUnionCommutesAssociatesAndIsIdempotentRow.holds Try.pinned (OpenSpec.ofChange Rows.fnUnionCommutesAssociatesAndIsIdempotentSpec) :=
  OpenClaim.holds_of_wide 5 Try.f5 rfl rfl rfl rfl rfl rfl rfl ⟨rfl, rfl, rfl, rfl, rfl⟩ rfl rfl rfl rfl rfl (by kernel_rfl) Try.func5 (by kernel_rfl)
    (of_decide_eq_true (by kernel_rfl)) (by unfold Func.isWrapper; first | (rw [if_pos (by decide +kernel)]; kernel_rfl) | (rw [if_neg (by decide +kernel)]; exact ⟨rfl, rfl⟩))
    (fun os started H enc _ => lifted os started H enc)

/-- ████ THE STATEMENT ████ -/
theorem proved : Rows.FnUnionCommutesAssociatesAndIsIdempotentSaid := over
#print axioms proved
end Go.Proofs.Qxb6604083a.fnUnionCommutesAssociatesAndIsIdempotent
