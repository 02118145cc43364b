/-
  'b1Good'.
-/
import Derived.Test.Qxb6604114aTests
namespace Go.Proofs.Qxb6604114a
open Go.RowKit
set_option linter.unusedVariables false

/-- The pairs with a smaller first. -/
def Pairs (n : Nat) (A : Nat → Nat → Bool) (v a : Nat) : Prop := A v a = true → ∀ b, a < b → b < n → A v b = true → A a b = true ∨ A b a = true
theorem good_of_pairs {n : Nat} {A : Nat → Nat → Bool} {v : Nat} (h : ∀ a, a < n → Pairs n A v a) : Good n A v := by
  intro a b ha hb h1 h2
  rcases Nat.lt_trichotomy a b with hlt | heq | hgt
  · exact .inr (h a ha h1 b hlt hb h2)
  · exact .inl heq
  · rcases h b hb h2 a hgt ha h1 with h3 | h3
    · exact .inr (.inr h3)
    · exact .inr (.inl h3)
theorem not_good {n : Nat} {A : Nat → Nat → Bool} {v a b : Nat} (ha : a < n) (hb : b < n) (hab : a < b) (h1 : A v a = true) (h2 : A v b = true) (h3 : A a b = false) (h4 : A b a = false) : ¬ Good n A v := by
  intro hg
  rcases hg a b ha hb h1 h2 with h | h | h
  · omega
  · rw [h3] at h; cases h
  · rw [h4] at h; cases h

/-- A product by n, as a rule for the walk. -/
theorem prod_rule {n N v : Nat} (hN : n * n = N) (hv : v < n) : ∃ p : Nat, Hid (v * n = p) ∧ (v : Int) * (n : Int) = (p : Int) ∧ p + n ≤ N := by
  refine ⟨v * n, rfl, rfl, mat_bound hN hv⟩

theorem fin_good {n v : Nat} {A : Nat → Nat → Bool} {G : Nat → Bool} {w wr : World} (hlt : v < n) (hrow : wr.rowIs w.heap.size 4 n (fun j => if j < v then .bool (G j) else .bool false)) (hG : ∀ u, u < v → (G u = true ↔ Good n A u)) (hbel : Below w.heap.size w wr) (okb : Bool) (hok : okb = true ↔ Good n A v) :
    ∃ (k : Nat) (G : Nat → Bool), k ≤ n ∧ Value.int .i64 ((v : Int) + 1) = .int .i64 k ∧ (wr.setCell ⟨w.heap.size, v, none⟩ (.bool okb)).rowIs w.heap.size 4 n (fun j => if j < k then .bool (G j) else .bool false) ∧ (∀ u, u < k → (G u = true ↔ Good n A u)) ∧ Below w.heap.size w (wr.setCell ⟨w.heap.size, v, none⟩ (.bool okb)) := by
  refine ⟨v + 1, upd G v okb, by omega, by go_num, (hrow.set v (.bool okb)).congr (fun j _ => ?_), fun u hu => ?_, hbel.setCell (Nat.le_refl _) _⟩
  · by_cases e : j = v
    · subst e; simp [upd]
    · by_cases e2 : j < v
      · simp [e, e2, upd, show j < v + 1 by omega]
      · simp [e, e2, show ¬ j < v + 1 by omega]
  · by_cases e : u = v
    · subst e; rw [upd_same]; exact hok
    · rw [upd_other _ _ _ e]; exact hG u (by omega)

set_option maxRecDepth 100000 in
set_option maxHeartbeats 2000000 in
theorem good_any (n N c : Nat) (a : Option Addr) (A : Nat → Nat → Bool) (hn : n ≤ 256) (h1n : 0 < n) (hN : n * n = N) (hN2 : N ≤ 65536) (w : World) (hM : Mat w a n A) :
    Calls Try.prog 19 #[.int .i64 n, .slice a N c] w fun e w' => (∃ G : Nat → Bool, e = .returned (.slice (some ⟨w.heap.size, 0, none⟩) n n) ∧ w'.rowIs w.heap.size 4 n (fun i => .bool (G i)) ∧ ∀ v, v < n → (G v = true ↔ Good n A v)) ∧ Below w.heap.size w w' := by
  obtain ⟨b, o, rfl, hc⟩ := hM h1n
  have hmk := fun w => run_make_row' (P := Try.prog) 29 4 (.bool false) 1 Try.underlying29 Try.info4 rfl .i64 .i64 n (by omega) (by omega) w
  have hbw : b < w.heap.size := World.block_lt_of_cell? _ _ (hc 0 0 h1n h1n)
  have HC := hide hc
  clear hM hc
  go_enter Try.func19, Try.ntmps19
  go_wp2
  go_loopw [6] (fun i wr => ∃ (k : Nat) (G : Nat → Bool), k ≤ n ∧ i = .int .i64 k ∧ wr.rowIs w.heap.size 4 n (fun j => if j < k then .bool (G j) else .bool false) ∧ (∀ v, v < k → (G v = true ↔ Good n A v)) ∧ Below w.heap.size w wr) (fun i _ => n - (intOf i).toNat)
  case atStart => exact ⟨0, fun _ => false, Nat.zero_le _, rfl, (World.rowIs_made w _ n 4).congr (by intro i hi; simp), fun v hv => absurd hv (by omega), (Below.refl _ _).alloc (Nat.le_refl _) _⟩
  case round =>
    obtain ⟨v, G, hk, rfl, hrow, hG, hbel⟩ := hrel
    have HG := hide hG
    have hcr : ∀ u i, u < n → i < n → wr.cell? ⟨b, o + (u * n + i), none⟩ = some (.bool (A u i)) := fun u i hu hi => (hbel.cell hbw).trans (HC.out u i hu hi)
    have HR := hide hcr
    clear hG hcr HC
    by_cases hlt : v < n
    · obtain ⟨p, Hp, hpi, hpN⟩ := prod_rule hN hlt
      have HB := hide hbel
      have HW := hide hrow
      clear hbel hrow
      have HmK := hide hmk
      clear hmk
      go_wp2
      go_loop [7, 8] (fun ok ai => ∃ (k : Nat) (okb : Bool), k ≤ n ∧ ok = .bool okb ∧ ai = .int .i64 k ∧ (okb = true → ∀ a, a < k → Pairs n A v a) ∧ (okb = false → ¬ Good n A v)) (fun _ ai => n - (intOf ai).toNat)
      case atStart => exact ⟨0, true, Nat.zero_le _, rfl, rfl, fun _ a ha => absurd ha (by omega), fun h => by cases h⟩
      case round =>
        obtain ⟨k, okb, hk2, rfl, rfl, hq1, hq2⟩ := hrel
        have Q1 := hide hq1
        have Q2 := hide hq2
        clear hq1 hq2
        by_cases hlt2 : k < n
        · cases okb
          · have hfin : Hid ((false : Bool) = true ↔ Good n A v) := ⟨fun h => (by cases h), fun h => absurd h (Q2.out rfl)⟩
            have hcd := HW.out.cell hlt
            have hcf := HW.out.frozen v
            simp only [Nat.lt_irrefl, if_false] at hcd
            go_wp2
            go_roundw
            case rel => exact fin_good hlt HW.out HG.out HB.out false hfin.out
            case measure => simp [intOf]; omega
          · have P1 := hide (Q1.out rfl)
            clear Q1 Q2
            have g1 := HR.out v k hlt hlt2
            rw [Hp.out] at g1
            cases hvk : A v k
            · have R1 : Hid (∀ a, a < k + 1 → Pairs n A v a) := fun a ha => by
                by_cases e : a = k
                · subst e; intro h; rw [hvk] at h; cases h
                · exact P1.out a (by omega)
              go_wp2
              go_round
              case rel => exact ⟨k + 1, true, by omega, rfl, by go_num, fun _ => R1.out, fun h => by cases h⟩
              case measure => simp [intOf]; omega
            · obtain ⟨q, Hq, hqi, hqN⟩ := prod_rule hN hlt2
              go_wp2
              go_loop [7, 9] (fun ok bi => ∃ (j : Nat), k + 1 ≤ j ∧ j ≤ n ∧ ok = .bool true ∧ bi = .int .i64 j ∧ ∀ b, k < b → b < j → A v b = true → A k b = true ∨ A b k = true) (fun _ bi => n - (intOf bi).toNat)
              case atStart => exact ⟨k + 1, Nat.le_refl _, by omega, rfl, by go_num, fun b h1 h2 => absurd h1 (by omega)⟩
              case round =>
                obtain ⟨j, hj1, hj2, rfl, rfl, hq3⟩ := hrel
                have Q3 := hide hq3
                clear hq3
                by_cases hlt3 : j < n
                · obtain ⟨r, Hr, hri, hrN⟩ := prod_rule hN hlt3
                  have g2 := HR.out v j hlt hlt3
                  have g3 := HR.out k j hlt2 hlt3
                  have g4 := HR.out j k hlt3 hlt2
                  rw [Hp.out] at g2
                  rw [Hq.out] at g3
                  rw [Hr.out] at g4
                  cases hvj : A v j
                  · have R3 : Hid (∀ b, k < b → b < j + 1 → A v b = true → A k b = true ∨ A b k = true) := fun b h1 h2 h3 => by
                      by_cases e : b = j
                      · subst e; rw [hvj] at h3; cases h3
                      · exact Q3.out b h1 (by omega) h3
                    go_wp2
                    go_round
                    case rel => exact ⟨j + 1, by omega, by omega, rfl, by go_num, R3.out⟩
                    case measure => simp [intOf]; omega
                  · cases hkj : A k j
                    · cases hjk : A j k
                      · have hng : Hid (¬ Good n A v) := not_good hlt2 hlt3 (by omega) hvk hvj hkj hjk
                        go_wp2
                        go_round
                        case rel => exact ⟨k + 1, false, by omega, rfl, by go_num, fun h => (by cases h), fun _ => hng.out⟩
                        case measure => simp [intOf]; omega
                      · have R3 : Hid (∀ b, k < b → b < j + 1 → A v b = true → A k b = true ∨ A b k = true) := fun b h1 h2 h3 => by
                          by_cases e : b = j
                          · subst e; exact .inr hjk
                          · exact Q3.out b h1 (by omega) h3
                        go_wp2
                        go_round
                        case rel => exact ⟨j + 1, by omega, by omega, rfl, by go_num, R3.out⟩
                        case measure => simp [intOf]; omega
                    · have R3 : Hid (∀ b, k < b → b < j + 1 → A v b = true → A k b = true ∨ A b k = true) := fun b h1 h2 h3 => by
                        by_cases e : b = j
                        · subst e; exact .inl hkj
                        · exact Q3.out b h1 (by omega) h3
                      go_wp2
                      go_round
                      case rel => exact ⟨j + 1, by omega, by omega, rfl, by go_num, R3.out⟩
                      case measure => simp [intOf]; omega
                · have R1 : Hid (∀ a, a < k + 1 → Pairs n A v a) := fun a ha => by
                    by_cases e : a = k
                    · subst e; exact fun _ b h1 h2 h3 => Q3.out b h1 (by omega) h3
                    · exact P1.out a (by omega)
                  go_wp2
                  go_round
                  case rel => exact ⟨k + 1, true, by omega, rfl, by go_num, fun _ => R1.out, fun h => by cases h⟩
                  case measure => simp [intOf]; omega
        · have hfin : Hid (okb = true ↔ Good n A v) := by
            cases okb
            · exact ⟨fun h => (by cases h), fun h => absurd h (Q2.out rfl)⟩
            · exact ⟨fun _ => good_of_pairs (fun a ha => Q1.out rfl a (by omega)), fun _ => rfl⟩
          have hcd := HW.out.cell hlt
          have hcf := HW.out.frozen v
          simp only [Nat.lt_irrefl, if_false] at hcd
          go_wp2
          go_roundw
          case rel => exact fin_good hlt HW.out HG.out HB.out okb hfin.out
          case measure => simp [intOf]; omega
    · have hrow' := hrow.congr (g := fun j => .bool (G j)) (by intro j hj; simp [show j < v by omega])
      clear hmk hrow
      go_wp2
      go_ret
      exact ⟨⟨G, rfl, hrow', fun u hu => HG.out u (by omega)⟩, hbel⟩

end Go.Proofs.Qxb6604114a
