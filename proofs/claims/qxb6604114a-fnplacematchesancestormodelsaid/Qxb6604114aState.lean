/-
  'b1StateHolds'.
-/
import Derived.Test.Qxb6604114aGood
namespace Go.Proofs.Qxb6604114a
open Go.RowKit
set_option linter.unusedVariables false

theorem Cells.drewN {w : World} {a : Option Addr} {n : Nat} {F : Nat → Value} (h : Cells w a n F) (k : Nat) : Cells (w.drewN k) a n F := h
theorem Mat.drewN {w : World} {a : Option Addr} {n : Nat} {A : Nat → Nat → Bool} (h : Mat w a n A) (k : Nat) : Mat (w.drewN k) a n A := h

/-- 'Calls.quiet_of' where the world had draws already. -/
theorem quiet_of2 {P : Program} {f : FuncId} {args : Array Value} {w : World} {m x : Nat} {v : Value}
    (h : Calls P f args (w.drewN (m + x)) fun e w' => e = .returned v ∧ ∃ k, w' = (w.drewN (m + x)).drewN k) : Calls P f args (w.drewN (m + x)) fun e w'' => e = .returned v ∧ ∃ n, w'' = w.drewN (m + n) :=
  h.mono fun _ _ ⟨he, k, hk⟩ => ⟨he, x + k, by rw [hk, drewN_drewN, Nat.add_assoc]⟩

/-- What the state must say of v. -/
structure StV (n : Nat) (L : Nat → Nat) (e : Nat → Nat → Nat) (A : Nat → Nat → Bool) (G : Nat → Bool) (C : Nat → Nat) (pl : Nat → Bool) (pa de : Nat → Int) (v : Nat) : Prop where
  closed : pl v = true → ∀ j, j < L v → pl (e v j) = true
  good : pl v = true → G v = true
  depth : pl v = true → de v = (C v : Int)
  parent : pl v = true → pa v = low n A v
  bare : pl v = false → L v = 0 → de v = 0

theorem StV.un {n : Nat} {L : Nat → Nat} {e : Nat → Nat → Nat} {A : Nat → Nat → Bool} {G : Nat → Bool} {C : Nat → Nat} {pl : Nat → Bool} {pa de : Nat → Int} {v : Nat} (hpv : pl v = false) (hb : L v = 0 → de v = 0) : StV n L e A G C pl pa de v := by
  refine ⟨?_, ?_, ?_, ?_, fun _ => hb⟩
  all_goals
    intro h
    rw [hpv] at h
    cases h
theorem StV.pl {n : Nat} {L : Nat → Nat} {e : Nat → Nat → Nat} {A : Nat → Nat → Bool} {G : Nat → Bool} {C : Nat → Nat} {pl : Nat → Bool} {pa de : Nat → Int} {v : Nat} (hpv : pl v = true) (h1 : ∀ j, j < L v → pl (e v j) = true) (h2 : G v = true) (h3 : de v = (C v : Int)) (h4 : pa v = low n A v) : StV n L e A G C pl pa de v :=
  ⟨fun _ => h1, fun _ => h2, fun _ => h3, fun _ => h4, fun h => by rw [hpv] at h; cases h⟩

theorem inv_of {n : Nat} {L : Nat → Nat} {e : Nat → Nat → Nat} {A : Nat → Nat → Bool} {G : Nat → Bool} {C : Nat → Nat} {pl : Nat → Bool} {pa de : Nat → Int} (hG : ∀ v, v < n → (G v = true ↔ Good n A v)) (hC : ∀ v, v < n → C v = cnt n A v) (h : ∀ v, v < n → StV n L e A G C pl pa de v) : Inv n L e A pl pa de := by
  refine ⟨?_, ?_, ?_, ?_, ?_⟩
  · rintro v d hv hp ⟨j, hj, rfl⟩; exact (h v hv).closed hp j hj
  · intro v hv hp; exact (hG v hv).1 ((h v hv).good hp)
  · intro v hv hp; rw [(h v hv).depth hp, hC v hv]
  · intro v hv hp; exact (h v hv).parent hp
  · intro v hv hp hL; exact (h v hv).bare hp hL

set_option maxRecDepth 100000 in
set_option maxHeartbeats 2000000 in
theorem state_any (n N : Nat) (a0 a1 a2 a3 a4 a5 a6 : Option Addr) (c0 c1 c2 c3 c4 c5 c6 : Nat) (L : Nat → Nat) (e : Nat → Nat → Nat) (A : Nat → Nat → Bool) (C : Nat → Nat) (G pl : Nat → Bool) (pa de : Nat → Int) (hn : n ≤ 256) (h1n : 0 < n) (hN : n * n = N) (hN2 : N ≤ 65536)
    (hL : ∀ i, i < n → L i ≤ 1048576) (he : ∀ i j, i < n → j < L i → e i j < n) (hC : ∀ i, i < n → C i = cnt n A i) (hG : ∀ v, v < n → (G v = true ↔ Good n A v)) (w : World) (hR : Rows2 w a0 n L (fun i j => (e i j : Int))) (hM : Mat w a1 n A) (hIC : Ints w a2 n (fun i => (C i : Int))) (hBG : Bools w a3 n G)
    (hBp : Bools w a4 n pl) (hIp : Ints w a5 n pa) (hId : Ints w a6 n de) :
    Calls Try.prog 20 #[.slice a0 n c0, .slice a1 N c1, .slice a2 n c2, .slice a3 n c3, .slice a4 n c4, .slice a5 n c5, .slice a6 n c6] w fun ed w' => SomeB (Inv n L e A pl pa de) ed ∧ ∃ m, w' = w.drewN m := by
  obtain ⟨b0, o0, rfl, r0⟩ := hR h1n
  obtain ⟨b3, o3, rfl, r3⟩ := hBG h1n
  obtain ⟨b4, o4, rfl, r4⟩ := hBp h1n
  obtain ⟨b5, o5, rfl, r5⟩ := hIp h1n
  obtain ⟨b6, o6, rfl, r6⟩ := hId h1n
  have hIC' := hIC
  obtain ⟨b2, o2, rfl, r2⟩ := hIC h1n
  have HM := hide hM
  have HI := hide hIC'
  have H0 := hide r0
  have H2 := hide r2
  have H3 := hide r3
  have H4 := hide r4
  have H5 := hide r5
  have H6 := hide r6
  have HL := hide hL
  have HE := hide he
  have HC := hide hC
  have HG := hide hG
  clear hR hBG hBp hIp hId hIC hIC' hM r0 r2 r3 r4 r5 r6 hL he hC hG
  go_enter Try.func20, Try.ntmps20
  go_wp2
  go_loopw [16] (fun i wr => ∃ k m : Nat, k ≤ n ∧ i = .int .i64 k ∧ wr = w.drewN m ∧ ∀ u, u < k → StV n L e A G C pl pa de u) (fun i _ => n - (intOf i).toNat)
  case atStart => exact ⟨0, 0, Nat.zero_le _, rfl, rfl, fun u hu => absurd hu (by omega)⟩
  case round =>
    obtain ⟨v, m, hk, rfl, rfl, hq⟩ := hrel
    have HQ := hide hq
    clear hq
    by_cases hlt : v < n
    · obtain ⟨ai, ci, g0, gI, _⟩ := H0.out v hlt
      have g4 := H4.out v hlt
      have g6 := H6.out v hlt
      have hLv := HL.out v hlt
      have GI := hide gI
      have i1 : (0 : Int) ≤ (v : Int) := by omega
      have i2 : (v : Int) < (n : Int) := by omega
      clear gI
      cases hpv : pl v
      · -- not placed
        have fin : ∀ (hb : L v = 0 → de v = 0), ∀ u, u < v + 1 → StV n L e A G C pl pa de u := fun hb u hu => by
          by_cases q : u = v
          · subst q
            exact StV.un hpv hb
          · exact HQ.out u (by omega)
        have HF := hide fin
        clear fin
        by_cases hl0 : L v = 0
        · have t1 : ((L v : Int) == 0) = true := by rw [beq_iff_eq]; omega
          by_cases hd0 : de v = 0
          · have t2 : (de v != 0) = false := by simp [hd0]
            have R := hide (HF.out (fun _ => hd0))
            clear hl0 hd0
            go_wp2
            go_roundw
            case rel => exact ⟨v + 1, _, by omega, by go_num, rfl, R.out⟩
            case measure => simp [intOf]; omega
          · have t2 : (de v != 0) = true := by simp [hd0]
            clear hl0 hd0
            go_wp2
            go_ret
            exact ⟨SomeB.no rfl, _, rfl⟩
        · have t1 : ((L v : Int) == 0) = false := by rw [beq_eq_false_iff_ne]; omega
          have R := hide (HF.out (fun h => absurd h hl0))
          clear hl0
          go_wp2
          go_roundw
          case rel => exact ⟨v + 1, _, by omega, by go_num, rfl, R.out⟩
          case measure => simp [intOf]; omega
      · -- placed
        go_wp2
        go_loopw [18] (fun i wr => ∃ (k m' : Nat), k ≤ L v ∧ i = .int .i64 k ∧ wr = w.drewN m' ∧ ∀ j, j < k → pl (e v j) = true) (fun i _ => L v - (intOf i).toNat)
        case atStart => exact ⟨0, m, Nat.zero_le _, rfl, rfl, fun u hu => absurd hu (by omega)⟩
        case round =>
          obtain ⟨k, m', hk2, rfl, rfl, hq2⟩ := hrel
          have HQ2 := hide hq2
          clear hq2
          by_cases hlt2 : k < L v
          · obtain ⟨b', o', q, hc'⟩ := GI.out (by omega)
            cases q
            have g1 := hc' k hlt2
            have hen := HE.out v k hlt hlt2
            have g2 := H4.out (e v k) hen
            have i3 : (0 : Int) ≤ (e v k : Int) := by omega
            have i4 : (e v k : Int) < (n : Int) := by omega
            clear hc'
            cases hpe : pl (e v k)
            · go_wp2
              go_ret
              exact ⟨SomeB.no rfl, _, rfl⟩
            · have R : Hid (∀ j, j < k + 1 → pl (e v j) = true) := fun j hj => by
                by_cases q : j = k
                · subst q; exact hpe
                · exact HQ2.out j (by omega)
              go_wp2
              go_roundw
              case rel => exact ⟨k + 1, _, by omega, by go_num, rfl, R.out⟩
              case measure => simp [intOf]; omega
          · have hcl : Hid (∀ j, j < L v → pl (e v j) = true) := fun j hj => HQ2.out j (by omega)
            have g3 := H3.out v hlt
            have g2 := H2.out v hlt
            have g5 := H5.out v hlt
            clear HQ2
            cases hgv : G v
            · go_wp2
              go_quiet (fail)
              go_wp2
              go_ret
              exact ⟨SomeB.no rfl, _, drewN_drewN _ _ _⟩
            · by_cases hdv : de v = (C v : Int)
              · have t1 : (de v != (C v : Int)) = false := by simp [hdv]
                by_cases hpav : pa v = low n A v
                · have t2 : (pa v != low n A v) = false := by simp [hpav]
                  have R : Hid (∀ u, u < v + 1 → StV n L e A G C pl pa de u) := fun u hu => by
                    by_cases q : u = v
                    · subst q; exact StV.pl hpv hcl.out hgv hdv hpav
                    · exact HQ.out u (by omega)
                  clear hdv hpav
                  go_wp2
                  go_quiet ((go_at_call 23; exact quiet_of2 (lowest_any n N v c1 c2 a1 (some ⟨b2, o2, none⟩) A C HC.out hn hlt hN hN2 _ (by exact HM.out) (by exact HI.out))))
                  go_wp2
                  go_roundw
                  case rel => exact ⟨v + 1, _, by omega, by go_num, rfl, R.out⟩
                  case measure => simp [intOf]; omega
                · have t2 : (pa v != low n A v) = true := by simp [hpav]
                  clear hdv hpav
                  go_wp2
                  go_quiet ((go_at_call 23; exact quiet_of2 (lowest_any n N v c1 c2 a1 (some ⟨b2, o2, none⟩) A C HC.out hn hlt hN hN2 _ (by exact HM.out) (by exact HI.out))))
                  go_wp2
                  go_ret
                  exact ⟨SomeB.no rfl, _, drewN_drewN _ _ _⟩
              · have t1 : (de v != (C v : Int)) = true := by simp [hdv]
                clear hdv
                go_wp2
                go_quiet (fail)
                go_wp2
                go_ret
                exact ⟨SomeB.no rfl, _, drewN_drewN _ _ _⟩
    · have R : Hid (Inv n L e A pl pa de) := inv_of HG.out HC.out (fun u hu => HQ.out u (by omega))
      go_wp2
      go_ret
      exact ⟨SomeB.yes rfl R.out, _, rfl⟩

end Go.Proofs.Qxb6604114a
