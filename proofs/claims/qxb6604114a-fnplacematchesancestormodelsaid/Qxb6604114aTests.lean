/-
  THE TESTS THAT ONLY READ: the bounds on lengths, 'b1Controls', 'b1Lowest'.
-/
import Derived.Test.Qxb6604114aLeaf
namespace Go.Proofs.Qxb6604114a
open Go.RowKit
set_option linter.unusedVariables false

/-- Some bool comes back; if it is true then P. -/
def SomeB (P : Prop) (e : Ending) : Prop := ∃ b, e = .returned (.bool b) ∧ (b = true → P)
theorem SomeB.no {P : Prop} {e : Ending} (h : e = .returned (.bool false)) : SomeB P e := ⟨false, h, fun h => by cases h⟩
theorem SomeB.yes {P : Prop} {e : Ending} (h : e = .returned (.bool true)) (hP : P) : SomeB P e := ⟨true, h, fun _ => hP⟩

set_option maxHeartbeats 1000000 in
theorem bytes_any (a a1 a2 a3 : Option Addr) (n n1 n2 n3 c c1 c2 c3 : Nat) (x : Value) (L : Nat → Nat) (E : Nat → Nat → Int) (w : World) (hR : Rows2 w a n L E) :
    Calls Try.prog 15 #[.slice a n c, .slice a1 n1 c1, .slice a2 n2 c2, .slice a3 n3 c3, x] w fun e w' => SomeB (∀ i, i < n → L i ≤ 1048576) e ∧ w' = w := by
  by_cases hn : n ≤ 1048576
  · have t1 : ¬ (1048576 : Int) < (n : Int) := by omega
    go_enter Try.func15, Try.ntmps15
    go_wp2
    go_loop [11, 12] (fun t i => ∃ (k s : Nat), k ≤ n ∧ s ≤ 1048576 ∧ t = .int .i64 s ∧ i = .int .i64 k ∧ ∀ i, i < k → L i ≤ 1048576) (fun _ i => n - (intOf i).toNat)
    case atStart => exact ⟨0, n, Nat.zero_le _, hn, rfl, rfl, fun i hi => absurd hi (by omega)⟩
    case round =>
      obtain ⟨k, s, hk, hs, rfl, rfl, hq⟩ := hrel
      have HQ := hide hq
      clear hq
      by_cases hlt : k < n
      · obtain ⟨b, o, e, hc⟩ := hR (by omega)
        cases e
        obtain ⟨ai, ci, h1, _, _⟩ := hc k hlt
        clear hc hR
        by_cases h2 : L k ≤ 1048576
        · have t2 : ¬ (1048576 : Int) < (L k : Int) := by omega
          by_cases h3 : s + L k ≤ 1048576
          · have t3 : ¬ (1048576 : Int) < (s : Int) + (L k : Int) := by omega
            go_wp2
            go_round
            case rel => exact ⟨k + 1, s + L k, by omega, h3, by go_num, by go_num, fun i hi => by
              by_cases e : i = k
              · subst e; exact h2
              · exact HQ.out i (by omega)⟩
            case measure => simp [intOf]; omega
          · have t3 : (1048576 : Int) < (s : Int) + (L k : Int) := by omega
            go_wp2
            go_ret
            exact ⟨SomeB.no rfl, rfl⟩
        · have t2 : (1048576 : Int) < (L k : Int) := by omega
          go_wp2
          go_ret
          exact ⟨SomeB.no rfl, rfl⟩
      · obtain rfl : k = n := by omega
        clear hR
        go_wp2
        all_goals
          go_ret
          exact ⟨by first | exact SomeB.no rfl | exact SomeB.yes rfl HQ.out, rfl⟩
  · have t1 : (1048576 : Int) < (n : Int) := by omega
    clear hR
    go_enter Try.func15, Try.ntmps15
    go_wp2
    go_ret
    exact ⟨SomeB.no rfl, rfl⟩

set_option maxHeartbeats 1000000 in
theorem b1Bytes_any (a : Option Addr) (n c : Nat) (L : Nat → Nat) (E : Nat → Nat → Int) (w : World) (hn : n ≤ 256) (hL : ∀ i, i < n → L i ≤ 1048576) (hR : Rows2 w a n L E) :
    Calls Try.prog 8 #[.slice a n c] w fun e w' => (∃ t : Nat, e = .returned (.int .i64 (t : Int)) ∧ t ≤ 16777216) ∧ w' = w := by
  go_enter Try.func8, Try.ntmps8
  go_wp2
  go_loop [3, 4] (fun t i => ∃ (k s : Nat), k ≤ n ∧ s ≤ 1048576 ∧ t = .int .i64 s ∧ i = .int .i64 k) (fun _ i => n - (intOf i).toNat)
  case atStart => exact ⟨0, 8 * n, Nat.zero_le _, by omega, by go_num, rfl⟩
  case round =>
    obtain ⟨k, s, hk, hs, rfl, rfl⟩ := hrel
    by_cases hlt : k < n
    · obtain ⟨b, o, e, hc⟩ := hR (by omega)
      cases e
      obtain ⟨ai, ci, h1, _, _⟩ := hc k hlt
      have h2 := hL k hlt
      have t2 : ¬ (1048576 : Int) < (L k : Int) := by omega
      clear hc hR hL
      by_cases h3 : s + 8 * L k ≤ 1048576
      · have t3 : ¬ (1048576 : Int) < (s : Int) + 8 * (L k : Int) := by omega
        go_wp2
        go_round
        case rel => exact ⟨k + 1, s + 8 * L k, by omega, h3, by go_num, by go_num⟩
        case measure => simp [intOf]; omega
      · have t3 : (1048576 : Int) < (s : Int) + 8 * (L k : Int) := by omega
        go_wp2
        go_ret
        exact ⟨⟨s + 8 * L k, by go_num, by omega⟩, rfl⟩
    · clear hR hL
      go_wp2
      go_ret
      exact ⟨⟨s, rfl, by omega⟩, rfl⟩

set_option maxHeartbeats 1000000 in
theorem controls_yes (a : Option Addr) (n c : Nat) (L : Nat → Nat) (e : Nat → Nat → Nat) (d v : Nat) (w : World) (hn : n ≤ 256) (hv : v < n) (hL : L v ≤ 1048576) (hR : Rows2 w a n L (fun i j => (e i j : Int))) (hd : Dir L e v d) :
    Calls Try.prog 24 #[.slice a n c, .int .i64 d, .int .i64 v] w fun e w' => e = .returned (.bool true) ∧ w' = w := by
  obtain ⟨j0, hj0, hj1⟩ := hd
  have HJ := hide hj1
  clear hj1
  obtain ⟨b, o, q, hc⟩ := hR (by omega)
  cases q
  obtain ⟨ai, ci, h1, h2, _⟩ := hc v hv
  obtain ⟨b', o', q, hc'⟩ := h2 (by omega)
  cases q
  have i1 : (0 : Int) ≤ (v : Int) := by omega
  have i2 : (v : Int) < (n : Int) := by omega
  clear hR hc h2
  go_enter Try.func24, Try.ntmps24
  go_wp2
  go_loop [8] (fun i => ∃ (k : Nat), k ≤ j0 ∧ i = .int .i64 k) (fun i => L v - (intOf i).toNat)
  case atStart => exact ⟨0, Nat.zero_le _, rfl⟩
  case round =>
    obtain ⟨k, hk, rfl⟩ := hrel
    have h3 := hc' k (by omega)
    have hlt : k < L v := by omega
    clear hc'
    by_cases hkd : e v k = d
    · have t1 : ((e v k : Int) == (d : Int)) = true := by rw [beq_iff_eq, hkd]
      clear hkd
      go_wp2
      go_ret
      exact ⟨rfl, rfl⟩
    · have t1 : ((e v k : Int) == (d : Int)) = false := by rw [beq_eq_false_iff_ne]; omega
      have hne : k ≠ j0 := fun q => hkd (q ▸ HJ.out)
      clear hkd
      go_wp2
      go_round
      case rel => exact ⟨k + 1, by omega, by go_num⟩
      case measure => simp [intOf]; omega

theorem ret_int {a b : Int} (h : a = b) : Ending.returned (.int .i64 a) = .returned (.int .i64 b) := by rw [h]

set_option maxHeartbeats 1000000 in
theorem lowest_any (n N v c c' : Nat) (a a' : Option Addr) (A : Nat → Nat → Bool) (C : Nat → Nat) (hC : ∀ i, i < n → C i = cnt n A i) (hn : n ≤ 256) (hv : v < n) (hN : n * n = N) (hN2 : N ≤ 65536) (w : World) (hM : Mat w a n A) (hI : Ints w a' n (fun i => (C i : Int))) :
    Calls Try.prog 23 #[.int .i64 n, .slice a N c, .slice a' n c', .int .i64 v] w fun e w' => e = .returned (.int .i64 (low n A v)) ∧ ∃ m, w' = w.drewN m := by
  obtain ⟨b, o, rfl, hc⟩ := hM (by omega)
  obtain ⟨b', o', rfl, hc'⟩ := hI (by omega)
  have hb := mat_bound hN hv
  have HC := hide hC
  have hCn : ∀ i, i < n → C i ≤ 256 := fun i hi => by rw [hC i hi]; have := countP_le_n (A i) n; unfold cnt; omega
  obtain ⟨p, hp⟩ : ∃ p, v * n = p := ⟨_, rfl⟩
  have hc2 : ∀ i, i < n → w.cell? ⟨b, o + (p + i), none⟩ = some (.bool (A v i)) := fun i hi => by rw [← hp]; exact hc v i hv hi
  rw [hp] at hb
  have hpi : (v : Int) * (n : Int) = (p : Int) := by rw [← hp]; rfl
  have hcv := hc' v hv
  have hCv := hCn v hv
  have i1 : (0 : Int) ≤ (v : Int) := by omega
  have i2 : (v : Int) < (n : Int) := by omega
  have HCn := hide hCn
  clear hp hc hM hI hC hCn
  by_cases h0 : C v = 0
  · have t0 : ((C v : Int) == 0) = true := by rw [beq_iff_eq]; omega
    have hfin : Hid (low n A v = -1) := low_zero (by rw [← HC.out v hv]; exact h0)
    clear h0
    go_enter Try.func23, Try.ntmps23
    go_wp2
    go_ret
    exact ⟨ret_int hfin.out.symm, 0, rfl⟩
  · have t0 : ((C v : Int) == 0) = false := by rw [beq_eq_false_iff_ne]; omega
    have H0 := hide h0
    clear h0
    go_enter Try.func23, Try.ntmps23
    go_wp2
    go_loopw [9] (fun i wr => ∃ k m : Nat, k ≤ n ∧ i = .int .i64 k ∧ wr = w.drewN m ∧ ∀ b, b < k → lowP n A v b = false) (fun i _ => n - (intOf i).toNat)
    case atStart => exact ⟨0, 0, Nat.zero_le _, rfl, rfl, fun b hb => absurd hb (by omega)⟩
    case round =>
      obtain ⟨k, m, hk, rfl, rfl, hq⟩ := hrel
      have HQ := hide hq
      clear hq
      by_cases hlt : k < n
      · have g1 := hc2 k hlt
        have g2 := hc' k hlt
        have hCk := HCn.out k hlt
        have i3 : (0 : Int) ≤ (k : Int) := by omega
        have i4 : (k : Int) < (n : Int) := by omega
        have i5 : (0 : Int) ≤ (p : Int) + (k : Int) := by omega
        have i6 : (p : Int) + (k : Int) < (N : Int) := by omega
        have w1 : IntKind.i64.wrap ((p : Int) + (k : Int)) = ((p + k : Nat) : Int) := by rw [IntKind.wrap_i64]; omega
        have w2 : IntKind.i64.wrap (p : Int) = (p : Int) := by rw [IntKind.wrap_i64]; omega
        have w3 : IntKind.i64.wrap ((C v : Int) - 1) = (C v : Int) - 1 := by rw [IntKind.wrap_i64]; omega
        have i7 : ((p + k : Nat) : Int) < (N : Int) := by omega
        clear hc2 hc'
        cases hA : A v k
        · have R : Hid (∀ b, b < k + 1 → lowP n A v b = false) := fun b hb => by
            by_cases e : b = k
            · subst e; unfold lowP; rw [hA]; rfl
            · exact HQ.out b (by omega)
          go_wp2
          go_quiet (fail)
          go_wp2
          go_roundw
          case rel => exact ⟨k + 1, _, by omega, by go_num, rfl, R.out⟩
          case measure => simp [intOf]; omega
        · by_cases hck : C k + 1 = C v
          · have t1 : ((C k : Int) == (C v : Int) - 1) = true := by rw [beq_iff_eq]; omega
            have hfin : Hid (low n A v = (k : Int)) := low_some hlt (by unfold lowP; rw [hA, ← HC.out k hlt, ← HC.out v hv]; simp [hck]) HQ.out
            clear hck
            go_wp2
            go_quiet (fail)
            go_wp2
            go_ret
            exact ⟨ret_int hfin.out.symm, _, drewN_drewN _ _ _⟩
          · have t1 : ((C k : Int) == (C v : Int) - 1) = false := by rw [beq_eq_false_iff_ne]; omega
            have R : Hid (∀ b, b < k + 1 → lowP n A v b = false) := fun b hb => by
              by_cases e : b = k
              · subst e; unfold lowP; rw [← HC.out b hlt, ← HC.out v hv]; simp [hck]
              · exact HQ.out b (by omega)
            clear hck
            go_wp2
            go_quiet (fail)
            go_wp2
            go_roundw
            case rel => exact ⟨k + 1, _, by omega, by go_num, rfl, R.out⟩
            case measure => simp [intOf]; omega
      · have hfin : Hid (low n A v = -2) := low_none (by rw [← HC.out v hv]; exact H0.out) (fun b hb => HQ.out b (by omega))
        clear hc2 hc'
        go_wp2
        go_ret
        exact ⟨ret_int hfin.out.symm, _, rfl⟩

end Go.Proofs.Qxb6604114a
