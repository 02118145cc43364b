/-
  THE LAW's WALK.
-/
import Derived.Test.Qxb6604114aZZ
namespace Go.Proofs.Qxb6604114a
open Go.RowKit
set_option linter.unusedVariables false

theorem copyInts_new (a : Option Addr) (n c : Nat) (F : Nat → Int) (hn : n ≤ 1048576) (h0 : 0 < n) (w : World) (g : Nat) (hg : w.heap.size = g) (hnil : a = none → n = 0) (hI : Cells w a n (fun i => .int .i64 (F i))) :
    Calls Try.prog 17 #[.slice a n c] w fun e w' => e = .returned (.slice (some ⟨g, 0, none⟩) n n) ∧ w'.rowIs g 3 n (fun i => .int .i64 (F i)) ∧ Hid (w'.heap.size = g + 1) ∧ Below g w w' := by
  subst hg
  refine (copyInts_any a n c F hn w hnil hI).mono ?_
  rintro _ w' ⟨⟨a', c', rfl, _, u, v⟩, hb⟩
  rcases v with h | ⟨rfl, rfl, r, s⟩
  · exact absurd (u h) (by omega)
  · exact ⟨rfl, r, s, hb⟩

theorem copyBools_new (a : Option Addr) (n c : Nat) (F : Nat → Bool) (hn : n ≤ 1048576) (h0 : 0 < n) (w : World) (g : Nat) (hg : w.heap.size = g) (hnil : a = none → n = 0) (hI : Cells w a n (fun i => .bool (F i))) :
    Calls Try.prog 16 #[.slice a n c] w fun e w' => e = .returned (.slice (some ⟨g, 0, none⟩) n n) ∧ w'.rowIs g 4 n (fun i => .bool (F i)) ∧ Hid (w'.heap.size = g + 1) ∧ Below g w w' := by
  subst hg
  refine (copyBools_any a n c F hn w hnil hI).mono ?_
  rintro _ w' ⟨⟨a', c', rfl, _, u, v⟩, hb⟩
  rcases v with h | ⟨rfl, rfl, r, s⟩
  · exact absurd (u h) (by omega)
  · exact ⟨rfl, r, s, hb⟩

theorem quiet_same2 {P : Program} {f : FuncId} {args : Array Value} {w : World} {m x : Nat} {v : Value}
    (h : Calls P f args (w.drewN (m + x)) fun e w' => e = .returned v ∧ w' = w.drewN (m + x)) : Calls P f args (w.drewN (m + x)) fun e w'' => e = .returned v ∧ ∃ n, w'' = w.drewN (m + n) :=
  h.mono fun _ _ ⟨he, hw⟩ => ⟨he, x, hw⟩
theorem Rows2.drewN {w : World} {a : Option Addr} {n : Nat} {L : Nat → Nat} {E : Nat → Nat → Int} (h : Rows2 w a n L E) (k : Nat) : Rows2 (w.drewN k) a n L E := h

theorem Cells.at0 {w : World} {b n : Nat} {F : Nat → Value} (h : Cells w (some ⟨b, 0, none⟩) n F) {i : Nat} (hi : i < n) : w.cell? ⟨b, i, none⟩ = some (F i) := by
  obtain ⟨b', o', q, c⟩ := h (by omega)
  cases q
  have := c i hi
  rwa [Nat.zero_add] at this

/-- What the first loop of the law holds. -/
def Cg (n : Nat) (A : Nat → Nat → Bool) (G : Nat → Bool) (y k : Nat) (cg : Bool) : Prop :=
  (cg = false → ∃ v, v < n ∧ cloB A y v = true ∧ G v = false) ∧ (cg = true → ∀ v, v < k → cloB A y v = true → G v = true)
theorem Cg.start {n : Nat} {A : Nat → Nat → Bool} {G : Nat → Bool} {y : Nat} : Cg n A G y 0 true := ⟨fun h => (by cases h), fun _ v hv => absurd hv (by omega)⟩
theorem Cg.ok {n : Nat} {A : Nat → Nat → Bool} {G : Nat → Bool} {y k : Nat} {cg : Bool} (h : Cg n A G y k cg) (hk : cloB A y k = true → G k = true) : Cg n A G y (k + 1) cg := ⟨h.1, fun hc v hv => by
  by_cases e : v = k
  · subst e; exact hk
  · exact h.2 hc v (by omega)⟩
theorem Cg.no {n : Nat} {A : Nat → Nat → Bool} {G : Nat → Bool} {y k : Nat} (hk : k < n) (h1 : cloB A y k = true) (h2 : G k = false) : Cg n A G y (k + 1) false := ⟨fun _ => ⟨k, hk, h1, h2⟩, fun h => (by cases h)⟩

/-- What the placing answered, in one. -/
def Cas (n : Nat) (L : Nat → Nat) (e : Nat → Nat → Nat) (A : Nat → Nat → Bool) (y : Nat) (pl' : Nat → Bool) (fd : Bool) (f o t : Nat) : Prop := (fd = false ∧ pl' y = true) ∨ (fd = true ∧ Conf n L e A y pl' f o t)
theorem cloB_iff {A : Nat → Nat → Bool} {x v : Nat} : cloB A x v = true ↔ Clo A x v := by unfold cloB Clo; simp
theorem Cas.all {n : Nat} {L : Nat → Nat} {e : Nat → Nat → Nat} {A : Nat → Nat → Bool} {rk : Nat → Nat} {y : Nat} {pl' : Nat → Bool} {pa' de' : Nat → Int} {f o t : Nat} (h : Cas n L e A y pl' false f o t) (hc : Ctl n L e A rk) (hI : Inv n L e A pl' pa' de') (hy : y < n) (v : Nat) (hv : v < n) (hcl : cloB A y v = true) : pl' v = true := by
  rcases h with ⟨_, h⟩ | ⟨h, _⟩
  · rcases cloB_iff.1 hcl with rfl | h2
    · exact h
    · exact hI.clo hc _ y (Nat.le_refl _) hy h v hv h2
  · cases h
theorem Cas.conf {n : Nat} {L : Nat → Nat} {e : Nat → Nat → Nat} {A : Nat → Nat → Bool} {y : Nat} {pl' : Nat → Bool} {f o t : Nat} (h : Cas n L e A y pl' true f o t) : Conf n L e A y pl' f o t := by
  rcases h with ⟨h, _⟩ | ⟨_, h⟩
  · cases h
  · exact h
theorem Cas.cg {n : Nat} {L : Nat → Nat} {e : Nat → Nat → Nat} {A : Nat → Nat → Bool} {rk : Nat → Nat} {G : Nat → Bool} {y : Nat} {pl' : Nat → Bool} {pa' de' : Nat → Int} {fd : Bool} {f o t : Nat} {cg : Bool} (h : Cas n L e A y pl' fd f o t) (hc : Ctl n L e A rk) (hI : Inv n L e A pl' pa' de') (hG : ∀ v, v < n → (G v = true ↔ Good n A v)) (hy : y < n) (hg : Cg n A G y n cg) : cg = !fd := by
  cases fd
  · cases cg
    · obtain ⟨v, hv, h1, h2⟩ := hg.1 rfl
      have := (hG v hv).2 (hI.good v hv (h.all hc hI hy v hv h1))
      rw [h2] at this; cases this
    · rfl
  · cases cg
    · rfl
    · have hf := h.conf
      exact absurd ((hG f hf.fn).1 (hg.2 rfl f hf.fn (cloB_iff.2 hf.clo))) (hf.bad hc)

set_option maxRecDepth 1000000 in
set_option maxHeartbeats 16000000 in
theorem walk_main (a0 a1 a2 a3 : Option Addr) (n n1 n2 n3 c0 c1 c2 c3 : Nat) (x : Int) (L : Nat → Nat) (E : Nat → Nat → Int) (pl : Nat → Bool) (pa de : Nat → Int) (w : World) (hn : n ≤ 256) (hn1 : n1 ≤ 65536) (hn2 : n2 ≤ 65536) (hn3 : n3 ≤ 65536)
    (z0 : a0 = none → n = 0) (z1 : a1 = none → n1 = 0) (z2 : a2 = none → n2 = 0) (z3 : a3 = none → n3 = 0) (hR : Rows2 w a0 n L E) (hB1 : Bools w a1 n1 pl) (hI2 : Ints w a2 n2 pa) (hI3 : Ints w a3 n3 de) :
    Calls Try.prog 5 #[.slice a0 n c0, .slice a1 n1 c1, .slice a2 n2 c2, .slice a3 n3 c3, .int .i64 x] w fun ed w' => ed = .returned (.bool true) ∧ Below w.heap.size w w' := by
  have t1 : ¬ (256 : Int) < (n : Int) := by omega
  have t2 : ¬ (65536 : Int) < (n1 : Int) := by omega
  have t3 : ¬ (65536 : Int) < (n2 : Int) := by omega
  have t4 : ¬ (65536 : Int) < (n3 : Int) := by omega
  go_enter Try.func5, Try.ntmps5
  go_wp2_with fail
  refine (bytes_any a0 a1 a2 a3 n n1 n2 n3 c0 c1 c2 c3 _ L E _ hR).mono ?_
  rintro _ w' ⟨⟨b, rfl, hb⟩, hw⟩
  obtain rfl : w = w' := hw.symm
  clear hw
  cases b
  · go_wp2
    go_ret
    exact ⟨rfl, Below.refl _ _⟩
  have hL := hb rfl
  have HL := hide hL
  clear hb hL
  go_wp2_with fail
  refine (b1Bytes_any a0 n c0 L E _ hn HL.out hR).mono ?_
  rintro _ w' ⟨⟨t, rfl, ht⟩, hw⟩
  obtain rfl : w = w' := hw.symm
  clear hw
  by_cases h3 : (1048576 : Int) < (t : Int) + (n1 : Int) + 8 * (n2 : Int) + 8 * (n3 : Int)
  · go_wp2
    go_ret
    exact ⟨rfl, Below.refl _ _⟩
  by_cases e1 : n1 = n
  rotate_left
  · have q1 : ((n1 : Int) != (n : Int)) = true := by rw [bne_iff_ne]; omega
    go_wp2
    go_ret
    exact ⟨rfl, Below.refl _ _⟩
  obtain rfl : n = n1 := e1.symm
  have q1 : ((n : Int) != (n : Int)) = false := by simp
  by_cases e2 : n2 = n
  rotate_left
  · have q2 : ((n2 : Int) != (n : Int)) = true := by rw [bne_iff_ne]; omega
    go_wp2
    go_ret
    exact ⟨rfl, Below.refl _ _⟩
  obtain rfl : n = n2 := e2.symm
  by_cases e3 : n3 = n
  rotate_left
  · have q2 : ((n3 : Int) != (n : Int)) = true := by rw [bne_iff_ne]; omega
    go_wp2
    go_ret
    exact ⟨rfl, Below.refl _ _⟩
  obtain rfl : n = n3 := e3.symm
  by_cases e4 : x < 0
  · go_wp2
    go_ret
    exact ⟨rfl, Below.refl _ _⟩
  by_cases e5 : (n : Int) ≤ x
  · go_wp2
    go_ret
    exact ⟨rfl, Below.refl _ _⟩
  obtain ⟨y, rfl⟩ := Int.eq_ofNat_of_zero_le (show 0 ≤ x by omega)
  have hy : y < n := by omega
  obtain ⟨N, hN⟩ : ∃ N, n * n = N := ⟨_, rfl⟩
  have hN2 : N ≤ 65536 := by rw [← hN]; exact Nat.mul_le_mul hn hn
  have HN := hide hN
  clear hN t2 t3 t4 e1 e2 e3
  go_wp2_with fail
  refine (copyRows_any a0 n c0 L E hn HL.out _ z0 hR).mono ?_
  rintro _ w1 ⟨⟨p0, d0, rfl, hR1, y0⟩, hb1⟩
  replace hB1 := hB1.below hb1
  replace hI2 := hI2.below hb1
  replace hI3 := hI3.below hb1
  clear hR z0 h3 ht
  go_wp2_with fail
  refine (copyBools_any a1 n c1 pl (by omega) _ z1 hB1).mono ?_
  rintro _ w2 ⟨⟨p1, d1, rfl, k1, y1, _⟩, hb2⟩
  replace hR1 := hR1.below hb2
  replace hI2 := hI2.below hb2
  replace hI3 := hI3.below hb2
  have hbA : Below w.heap.size w w2 := hb1.trans (hb2.mono hb1.size)
  clear hB1 z1 hb1 hb2
  go_wp2_with fail
  refine (copyInts_any a2 n c2 pa (by omega) _ z2 hI2).mono ?_
  rintro _ w3 ⟨⟨p2, d2, rfl, k2, y2, _⟩, hb3⟩
  replace hR1 := hR1.below hb3
  replace k1 := k1.below hb3
  replace hI3 := hI3.below hb3
  have hbB : Below w.heap.size w w3 := hbA.trans (hb3.mono hbA.size)
  clear hI2 z2 hb3 hbA
  go_wp2_with fail
  refine (copyInts_any a3 n c3 de (by omega) _ z3 hI3).mono ?_
  rintro _ w4 ⟨⟨p3, d3, rfl, k3, y3, _⟩, hb4⟩
  replace hR1 := hR1.below hb4
  replace k1 := k1.below hb4
  replace k2 := k2.below hb4
  have hbC : Below w.heap.size w w4 := hbB.trans (hb4.mono hbB.size)
  clear hI3 z3 hb4 hbB
  go_wp2_with fail
  refine (anc_any n N d0 p0 L E hn (by omega) HN.out hN2 HL.out _ hR1).mono ?_
  rintro _ w5 ⟨rfl | ⟨A, C, rk, e, ga, gc, rfl, hM, hIC, hCC, hctl, hEE⟩, hb5⟩
  · have hbD : Below w.heap.size w w5 := hbC.trans (hb5.mono hbC.size)
    go_wp2
    go_ret
    exact ⟨rfl, hbD⟩
  have hR2 : Rows2 w5 p0 n L (fun i j => (e i j : Int)) := by
    have := hR1.below hb5
    intro hn0
    obtain ⟨b, o, q, hc⟩ := this hn0
    refine ⟨b, o, q, fun i hi => ?_⟩
    obtain ⟨ai, ci, g1, g2, g3⟩ := hc i hi
    exact ⟨ai, ci, g1, g2.congr (fun j hj => by rw [(hEE i j hi hj).1]), g3⟩
  have hen := hide (fun i j hi hj => (hEE i j hi hj).2 : ∀ i j, i < n → j < L i → e i j < n)
  have HCC := hide hCC
  have HCT := hide hctl
  replace k1 := k1.below hb5
  replace k2 := k2.below hb5
  replace k3 := k3.below hb5
  have hbD : Below w.heap.size w w5 := hbC.trans (hb5.mono hbC.size)
  clear hR1 hb5 hbC hEE hCC hctl
  go_wp2_with fail
  refine (good_any n N N (some ⟨ga, 0, none⟩) A hn (by omega) HN.out hN2 _ hM).mono ?_
  rintro _ w6 ⟨⟨G, rfl, hGr, hGG⟩, hb6⟩
  have hBG : Bools w6 (some ⟨w5.heap.size, 0, none⟩) n G := Cells.of_row hGr
  have HGG := hide hGG
  replace hR2 := hR2.below hb6
  replace hM := hM.below hb6
  replace hIC := hIC.below hb6
  replace k1 := k1.below hb6
  replace k2 := k2.below hb6
  replace k3 := k3.below hb6
  have hbE : Below w.heap.size w w6 := hbD.trans (hb6.mono hbD.size)
  clear hGr hGG hb6 hbD
  generalize w5.heap.size = gg at *
  go_wp2_with fail
  refine (state_any n N p0 (some ⟨ga, 0, none⟩) (some ⟨gc, 0, none⟩) (some ⟨gg, 0, none⟩) p1 p2 p3 d0 N n n d1 d2 d3 L e A C G pl pa de hn (by omega) HN.out hN2 HL.out hen.out HCC.out HGG.out _ hR2 hM hIC hBG k1 k2 k3).mono ?_
  rintro _ w7 ⟨⟨b7, rfl, hb7⟩, m7, hw7⟩
  have hb67 : Below w6.heap.size w6 w7 := by rw [hw7]; exact Below.drewN' (Below.refl _ _) _
  have hbF : Below w.heap.size w w7 := hbE.trans (hb67.mono hbE.size)
  replace hR2 := hR2.below hb67
  replace hM := hM.below hb67
  replace hIC := hIC.below hb67
  replace hBG := hBG.below hb67
  replace k1 := k1.below hb67
  replace k2 := k2.below hb67
  replace k3 := k3.below hb67
  clear hw7 hb67 hbE
  cases b7
  · go_wp2
    go_ret
    exact ⟨rfl, hbF⟩
  have HInv := hide (hb7 rfl)
  clear hb7
  go_wp2_with fail
  refine (copyBools_new p1 n d1 pl (by omega) (by omega) _ _ rfl y1 k1).mono ?_
  rintro _ w8 ⟨rfl, r1, sz8, hb8⟩
  go_wp2_with fail
  refine (copyInts_new p2 n d2 pa (by omega) (by omega) _ _ sz8.out y2 (k2.below hb8)).mono ?_
  rintro _ w9 ⟨rfl, r2, sz9, hb9⟩
  have hb79 : Below w7.heap.size w7 w9 := hb8.trans (hb9.mono (by omega))
  replace r1 := r1.of_block (hb9.block w7.heap.size (by omega))
  clear hb9 hb8 sz8
  go_wp2_with fail
  refine (copyInts_new p3 n d3 de (by omega) (by omega) _ _ (show w9.heap.size = w7.heap.size + 2 from sz9.out) y3 (k3.below hb79)).mono ?_
  rintro _ w10 ⟨rfl, r3, sz10, hb10⟩
  have hb710 : Below w7.heap.size w7 w10 := hb79.trans (hb10.mono (by omega))
  replace r1 := r1.of_block (hb10.block w7.heap.size (by omega))
  replace r2 := r2.of_block (hb10.block (w7.heap.size + 1) (by omega))
  clear hb10 hb79 sz10 sz9
  go_wp2_with fail
  refine (zz_any hn HL.out HCT.out hR2 y pl pa de _ hy HInv.out r1 r2 r3 hb710).mono ?_
  rintro ed w11 ⟨pl', pa', de', s1, s2, s3, hb11, hres, hans⟩
  clear r1 r2 r3 hb710
  obtain ⟨fd, f, o, t, rfl, hcase⟩ : ∃ (fd : Bool) (f o t : Nat), ed = .returned (.tuple #[.bool fd, .int .i64 ((f : Nat) : Int), .int .i64 ((o : Nat) : Int), .int .i64 ((t : Nat) : Int)]) ∧ Hid (Cas n L e A y pl' fd f o t) := by
    rcases hans with ⟨rfl, h⟩ | ⟨f, o, t, rfl, h⟩
    · exact ⟨false, 0, 0, 0, rfl, .inl ⟨rfl, h⟩⟩
    · exact ⟨true, f, o, t, rfl, .inr ⟨rfl, h⟩⟩
  clear hans
  have HRes := hide hres
  clear hres
  have HR2 := hide (hR2.below hb11)
  have HM := hide (hM.below hb11)
  have HIC := hide (hIC.below hb11)
  have HBG := hide (hBG.below hb11)
  have K1 := hide (k1.below hb11)
  have K2 := hide (k2.below hb11)
  have K3 := hide (k3.below hb11)
  have hbG : Below w.heap.size w w11 := hbF.trans (hb11.mono hbF.size)
  have P1 : Hid (Bools w11 (some ⟨w7.heap.size, 0, none⟩) n pl') := Cells.of_row s1
  have P2 : Hid (Ints w11 (some ⟨w7.heap.size + 1, 0, none⟩) n pa') := Cells.of_row s2
  have P3 : Hid (Ints w11 (some ⟨w7.heap.size + 2, 0, none⟩) n de') := Cells.of_row s3
  clear hR2 hM hIC hBG k1 k2 k3 hb11 hbF s1 s2 s3 y0 y1 y2 y3
  go_wp2
  go_loop [23, 24] (fun s i => ∃ (k : Nat) (cg : Bool), k ≤ n ∧ s = .bool cg ∧ i = .int .i64 k ∧ Cg n A G y k cg) (fun _ i => n - (intOf i).toNat)
  case atStart => exact ⟨0, true, Nat.zero_le _, rfl, rfl, Cg.start⟩
  case round =>
    obtain ⟨v, cg, hk, rfl, rfl, hcg⟩ := hrel
    have HCG := hide hcg
    clear hcg
    by_cases hlt : v < n
    · have g15 : w11.cell? ⟨gg, v, none⟩ = some (.bool (G v)) := HBG.out.at0 hlt
      cases hcl : cloB A y v
      · have R := hide (HCG.out.ok (fun h => by rw [hcl] at h; cases h))
        go_wp2_with fail
        refine (inClosure_any n N y v N (some ⟨ga, 0, none⟩) A hn hy hlt HN.out hN2 _ HM.out).mono ?_
        rintro _ w12 ⟨rfl, hw⟩
        obtain rfl : w11 = w12 := hw.symm
        clear hw
        go_wp2
        go_round
        case rel => exact ⟨v + 1, cg, by omega, rfl, by go_num, R.out⟩
        case measure => simp [intOf]; omega
      · cases hgv : G v
        · have R : Hid (Cg n A G y (v + 1) false) := Cg.no hlt hcl hgv
          go_wp2_with fail
          refine (inClosure_any n N y v N (some ⟨ga, 0, none⟩) A hn hy hlt HN.out hN2 _ HM.out).mono ?_
          rintro _ w12 ⟨rfl, hw⟩
          obtain rfl : w11 = w12 := hw.symm
          clear hw
          go_wp2
          go_round
          case rel => exact ⟨v + 1, false, by omega, rfl, by go_num, R.out⟩
          case measure => simp [intOf]; omega
        · have R := hide (HCG.out.ok (fun _ => hgv))
          go_wp2_with fail
          refine (inClosure_any n N y v N (some ⟨ga, 0, none⟩) A hn hy hlt HN.out hN2 _ HM.out).mono ?_
          rintro _ w12 ⟨rfl, hw⟩
          obtain rfl : w11 = w12 := hw.symm
          clear hw
          go_wp2
          go_round
          case rel => exact ⟨v + 1, cg, by omega, rfl, by go_num, R.out⟩
          case measure => simp [intOf]; omega
    · obtain rfl : v = n := by omega
      have HQ : Hid (cg = !fd) := hcase.out.cg HCT.out HRes.out.inv HGG.out hy HCG.out
      clear HCG
      go_wp2
      go_loopw [25] (fun i wr => ∃ k m : Nat, k ≤ v ∧ i = .int .i64 k ∧ wr = w11.drewN m) (fun i _ => v - (intOf i).toNat)
      case atStart => exact ⟨0, 0, Nat.zero_le _, rfl, rfl⟩
      case round =>
        obtain ⟨u, m, hk2, rfl, rfl⟩ := hrel
        by_cases hlt : u < v
        · obtain ⟨b1, o1, q1, c1⟩ := K1.out (by omega)
          obtain ⟨b2, o2, q2, c2⟩ := K2.out (by omega)
          obtain ⟨b3, o3, q3, c3⟩ := K3.out (by omega)
          subst q1 q2 q3
          have g1 : w11.cell? ⟨b1, o1 + u, none⟩ = some (.bool (pl u)) := c1 u hlt
          have g2 : w11.cell? ⟨b2, o2 + u, none⟩ = some (.int .i64 (pa u)) := c2 u hlt
          have g3 : w11.cell? ⟨b3, o3 + u, none⟩ = some (.int .i64 (de u)) := c3 u hlt
          have g14 : w11.cell? ⟨gc, u, none⟩ = some (.int .i64 (C u)) := HIC.out.at0 hlt
          have g15 : w11.cell? ⟨gg, u, none⟩ = some (.bool (G u)) := HBG.out.at0 hlt
          have g16 : w11.cell? ⟨w7.heap.size, u, none⟩ = some (.bool (pl' u)) := P1.out.at0 hlt
          have g17 : w11.cell? ⟨w7.heap.size + 1, u, none⟩ = some (.int .i64 (pa' u)) := P2.out.at0 hlt
          have g18 : w11.cell? ⟨w7.heap.size + 2, u, none⟩ = some (.int .i64 (de' u)) := P3.out.at0 hlt
          have i1 : (0 : Int) ≤ (u : Int) := by omega
          have i2 : (u : Int) < (v : Int) := by omega
          clear c1 c2 c3
          have mono := HRes.out.mono u hlt
          have new := HRes.out.new u hlt
          have keep := HRes.out.keep u hlt
          have all : fd = false → cloB A y u = true → pl' u = true := fun h hc => by
            subst h
            exact hcase.out.all HCT.out HRes.out.inv hy u hlt hc
          cases hp : pl u
          · cases hp' : pl' u
            · -- untouched, not placed
              obtain ⟨e1, e2⟩ := keep (by rw [hp, hp'])
              have t1 : (de' u != de u) = false := by simp [e2]
              have t2 : (pa' u != pa u) = false := by simp [e1]
              rw [hp] at g1
              rw [hp'] at g16
              cases fd
              · have hcl : cloB A y u = false := by
                  cases hc : cloB A y u
                  · rfl
                  · have := all rfl hc; rw [hp'] at this; cases this
                clear e1 e2 mono new keep all hp hp'
                go_wp2
                go_quiet (fail)
                go_wp2_with fail
                refine (inClosure_any v N y u N (some ⟨ga, 0, none⟩) A hn hy hlt HN.out hN2 _ (by exact HM.out)).mono ?_
                rintro _ w12 ⟨rfl, rfl⟩
                go_wp2
                go_roundw
                case rel => exact ⟨u + 1, _, by omega, by go_num, rfl⟩
                case measure => simp [intOf]; omega
              · clear e1 e2 mono new keep all hp hp'
                go_wp2
                go_quiet (fail)
                go_wp2
                go_roundw
                case rel => exact ⟨u + 1, _, by omega, by go_num, rfl⟩
                case measure => simp [intOf]; omega
            · -- newly placed
              have hcl : cloB A y u = true := cloB_iff.2 (new hp' hp)
              have hgu : G u = true := (HGG.out u hlt).2 (HRes.out.inv.good u hlt hp')
              have e1 : de' u = (C u : Int) := by rw [HRes.out.inv.depth u hlt hp', HCC.out u hlt]
              have e2 : pa' u = low v A u := HRes.out.inv.parent u hlt hp'
              have t1 : (de' u != (C u : Int)) = false := by simp [e1]
              have t2 : (pa' u != low v A u) = false := by simp [e2]
              rw [hp] at g1
              rw [hp'] at g16
              rw [hgu] at g15
              clear e1 e2 mono new keep all hp hp' hgu
              go_wp2
              go_quiet ((first | (go_at_call 22; exact quiet_same2 (inClosure_any v N y u N (some ⟨ga, 0, none⟩) A hn hy hlt HN.out hN2 _ (by exact HM.out))) | (go_at_call 23; exact quiet_of2 (lowest_any v N u N v (some ⟨ga, 0, none⟩) (some ⟨gc, 0, none⟩) A C HCC.out hn hlt HN.out hN2 _ (by exact HM.out) (by exact HIC.out)))))
              cases fd
              · skip
                go_wp2_with fail
                refine (inClosure_any v N y u N (some ⟨ga, 0, none⟩) A hn hy hlt HN.out hN2 _ (by exact HM.out)).mono ?_
                rintro _ w12 ⟨rfl, rfl⟩
                go_wp2
                go_roundw
                case rel => exact ⟨u + 1, _, by omega, by go_num, rfl⟩
                case measure => simp [intOf]; omega
              · skip
                go_wp2
                go_roundw
                case rel => exact ⟨u + 1, _, by omega, by go_num, rfl⟩
                case measure => simp [intOf]; omega
          · have hp' := mono hp
            obtain ⟨e1, e2⟩ := keep (by rw [hp, hp'])
            have t1 : (de' u != de u) = false := by simp [e2]
            have t2 : (pa' u != pa u) = false := by simp [e1]
            rw [hp] at g1
            rw [hp'] at g16
            clear e1 e2 mono new keep all hp hp'
            cases fd
            · skip
              go_wp2
              go_quiet (fail)
              go_wp2_with fail
              refine (inClosure_any v N y u N (some ⟨ga, 0, none⟩) A hn hy hlt HN.out hN2 _ (by exact HM.out)).mono ?_
              rintro _ w12 ⟨rfl, rfl⟩
              cases hcl : cloB A y u
              · skip
                go_wp2
                go_roundw
                case rel => exact ⟨u + 1, _, by omega, by go_num, rfl⟩
                case measure => simp [intOf]; omega
              · skip
                go_wp2
                go_roundw
                case rel => exact ⟨u + 1, _, by omega, by go_num, rfl⟩
                case measure => simp [intOf]; omega
            · skip
              go_wp2
              go_quiet (fail)
              go_wp2
              go_roundw
              case rel => exact ⟨u + 1, _, by omega, by go_num, rfl⟩
              case measure => simp [intOf]; omega
        · cases fd
          · obtain rfl : cg = true := HQ.out
            go_wp2
            go_ret
            exact ⟨rfl, Below.drewN' hbG _⟩
          · obtain rfl : cg = false := HQ.out
            have hf := hcase.out.conf
            have hfn := hf.fn
            have hon := HCT.out.rng _ _ hfn hf.d1
            have htn := HCT.out.rng _ _ hfn hf.d2
            have hcl : cloB A y f = true := cloB_iff.2 hf.clo
            have hun := hf.un
            have q1 : ((o : Int) == (t : Int)) = false := by rw [beq_eq_false_iff_ne]; have := hf.ne; omega
            have ha1 := hf.a1
            have ha2 := hf.a2
            have D1 := hide hf.d1
            have D2 := hide hf.d2
            have g1 : w11.cell? ⟨w7.heap.size, f, none⟩ = some (.bool (pl' f)) := P1.out.at0 hfn
            rw [hun] at g1
            have i1 : ¬ (f : Int) < 0 := by omega
            have i2 : ¬ (v : Int) ≤ (f : Int) := by omega
            have i3 : ¬ (o : Int) < 0 := by omega
            have i4 : ¬ (v : Int) ≤ (o : Int) := by omega
            have i5 : ¬ (t : Int) < 0 := by omega
            have i6 : ¬ (v : Int) ≤ (t : Int) := by omega
            obtain ⟨p, Hp, hpi, hpN⟩ := prod_rule HN.out hon
            obtain ⟨q, Hq, hqi, hqN⟩ := prod_rule HN.out htn
            obtain ⟨b13, o13, q13, c13⟩ := HM.out (by omega)
            cases q13
            have g2 := c13 o t hon htn
            have g3 := c13 t o htn hon
            rw [Hp.out, Nat.zero_add, ha1] at g2
            rw [Hq.out, Nat.zero_add, ha2] at g3
            clear c13 hf ha1 ha2 hun
            go_wp2_with fail
            refine (inClosure_any v N y f N (some ⟨ga, 0, none⟩) A hn hy hfn HN.out hN2 _ (HM.out.drewN _)).mono ?_
            rintro _ w12 ⟨rfl, rfl⟩
            go_wp2_with fail
            refine (controls_yes p0 v d0 L e o f _ hn hfn (HL.out f hfn) (HR2.out.drewN _) D1.out).mono ?_
            rintro _ w12 ⟨rfl, rfl⟩
            go_wp2_with fail
            refine (controls_yes p0 v d0 L e t f _ hn hfn (HL.out f hfn) (HR2.out.drewN _) D2.out).mono ?_
            rintro _ w12 ⟨rfl, rfl⟩
            go_wp2
            go_ret
            exact ⟨rfl, Below.drewN' hbG _⟩

end Go.Proofs.Qxb6604114a
