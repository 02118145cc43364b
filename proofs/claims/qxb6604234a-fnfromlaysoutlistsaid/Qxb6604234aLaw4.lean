/-
  THE WALK of 'FnFromLaysOutList'.
-/
import Derived.Test.Qxb6604234aPlain
namespace Go.Proofs.Qxb6604234a
open Go.RowKit
set_option linter.unusedVariables false

theorem len_data (s : ByteArray) : s.data.toList.length = s.size := Array.length_toList
theorem hasAt_here (s t : ByteArray) (p m : Nat) (w : World) (hs : s.size ≤ 1073741824) (h : Here s.data.toList p t.data.toList) :
    Calls Try.prog 14 #[.string s, .int .i64 p, .string t] (w.drewN m) fun e w' => e = .returned (.bool true) ∧ ∃ m', w' = w.drewN m' := by
  have h1 := h.1
  have h2 := h.2
  rw [len_data, len_data] at h1
  rw [len_data] at h2
  refine (hasAt_yes s t p _ hs h1 h2).mono ?_
  rintro e w' ⟨he, k, hk⟩
  exact ⟨he, m + k, by rw [hk, drewN_drewN]⟩

/-- The sum of the lengths, as the law reckons it. -/
def Tot (sz n : Nat) (X : Nat → List UInt8) (k T : Nat) : Prop := T = sz + 16 * k + sumL X k
theorem join_small {X : Nat → List UInt8} {n : Nat} (h : 16 * n + sumL X n ≤ 1048576) : (Lib.join ((List.range (n - 1)).map X) [44, 32]).length ≤ 4194304 := by
  by_cases h1 : n ≤ 1
  · rw [show n - 1 = 0 by omega]
    show (Lib.join [] _).length ≤ _
    rw [Lib.join_nil]; simp
  · obtain ⟨m, rfl⟩ : ∃ m, n = m + 2 := ⟨n - 2, by omega⟩
    rw [show m + 2 - 1 = m + 1 from rfl, join_body (m + 2) X m (by omega), body_len (m + 2) X m (by omega)]
    have := sumL_le X (m + 1) (m + 2) (by omega)
    omega
theorem nil_of {r : ByteArray} (h : r.data.toList = []) : r = ⟨#[]⟩ := by
  cases r with
  | mk d => simp at h; subst h; rfl

set_option maxRecDepth 1000000 in
set_option maxHeartbeats 4000000 in
theorem walk4 (s : ByteArray) (a : Option Addr) (n c : Nat) (S : Nat → ByteArray) (w : World) (hz : a = none → n = 0) (hR : Strs w a n S) :
    Calls Try.prog 4 #[.string s, .slice a n c] w fun e w' => e = .returned (.bool true) ∧ Below w.heap.size w w' := by
  obtain ⟨X, HX⟩ : ∃ X : Nat → List UInt8, Hid (X = fun i => (S i).data.toList) := ⟨_, rfl⟩
  have hXl : Hid (∀ i, (X i).length = (S i).size) := fun i => by rw [HX.out]; exact len_data _
  go_enter Try.func4, Try.ntmps4
  go_wp2_with fail
  refine (bytes11_any s a n c S _ hR).mono ?_
  rintro _ w' ⟨⟨b, rfl, hb⟩, hw⟩
  obtain rfl : w = w' := hw.symm
  clear hw
  cases b
  · clear hR hb
    go_wp2
    go_ret
    exact ⟨rfl, Below.refl _ _⟩
  have hS0 := hb rfl
  have HS0 := hide hS0
  clear hb hS0
  by_cases h1 : (1048576 : Int) < (s.size : Int)
  · clear hR
    go_wp2
    go_ret
    exact ⟨rfl, Below.refl _ _⟩
  by_cases h2 : (65536 : Int) < (n : Int)
  · clear hR
    go_wp2
    go_ret
    exact ⟨rfl, Below.refl _ _⟩
  have HR := hide hR
  clear hR
  go_wp2
  go_loop [5, 6] (fun t i => ∃ (k T : Nat), k ≤ n ∧ T ≤ 1048576 ∧ t = .int .i64 T ∧ i = .int .i64 k ∧ Tot s.size n X k T) (fun _ i => n - (intOf i).toNat)
  case atStart => exact ⟨0, s.size, Nat.zero_le _, by omega, rfl, rfl, rfl⟩
  case round =>
    obtain ⟨k, T, hk, hT, rfl, rfl, hTot⟩ := hrel
    have HT := hide hTot
    clear hTot
    by_cases hlt : k < n
    · obtain ⟨b, o, e, hc⟩ := HR.out (by omega)
      cases e
      have g : w.cell? ⟨b, o + k, none⟩ = some (.string (S k)) := hc k hlt
      have hk1 := HS0.out k hlt
      clear hc
      by_cases t3 : (1048576 : Int) < (T : Int) + (16 + ((S k).size : Int))
      · go_wp2
        go_ret
        exact ⟨rfl, Below.refl _ _⟩
      go_wp2
      go_round
      case rel => exact ⟨k + 1, T + (16 + (S k).size), by omega, by omega, by go_num, by go_num, by
        have := HT.out
        unfold Tot at this ⊢
        simp only [sumL, hXl.out k]
        omega⟩
      case measure => simp [intOf]; omega
    · obtain rfl : k = n := by omega
      have hT' : s.size + 16 * k + sumL X k ≤ 1048576 := by have := HT.out; unfold Tot at this; omega
      have hbnd := hide hT'
      have hS : Hid (∀ i, i < k → (S i).size ≤ 1048576) := fun i hi => by
        have := len_le_sumL X i k hi
        rw [hXl.out] at this
        omega
      have hJ : Hid ((Lib.join ((List.range (k - 1)).map fun i => (S i).data.toList) [44, 32]).length ≤ 4194304) := by
        have := join_small (X := X) (n := k) (by omega)
        rw [HX.out] at this
        exact this
      clear HT hT' HS0
      go_wp2_with fail
      refine (clone_any a k c S (by omega) _ hz HR.out).mono ?_
      rintro _ w1 ⟨⟨a', c', rfl, hR1, hc1⟩, hb1⟩
      clear HR hz
      go_wp2_with fail
      refine (zz_any s a' k c' S _ (by omega) hc1 (by omega) hS.out hJ.out hR1).mono ?_
      rintro _ w2 ⟨⟨r, rfl, hr⟩, hb2⟩
      have HR2 : Hid (Strs w2 a' k S) := hR1.below hb2
      have hbA : Below w.heap.size w w2 := hb1.trans (hb2.mono hb1.size)
      clear hR1 hb1 hb2 hS hJ
      have hr' : r.data.toList = fromL s.data.toList k X := by rw [HX.out]; exact hr
      have HRD := hide hr'
      clear hr hr'
      by_cases h0 : k = 0
      · have hr0 : r = ⟨#[]⟩ := nil_of (by rw [HRD.out, h0]; rfl)
        subst hr0
        subst h0
        go_wp2
        go_ret
        exact ⟨rfl, hbA⟩
      have hrs : r.size = s.size + 1 + sumL X k + if 2 ≤ k then 2 * (k - 2) + 5 else 0 := by
        rw [← len_data r, HRD.out, fromL_len _ _ _ (by omega), len_data]
      have HRS := hide hrs
      have hrb : r.size ≤ 1073741824 := by
        rw [hrs]
        have := hbnd.out
        split <;> omega
      clear hrs
      have e0 : ((k : Int) == 0) = false := by rw [beq_eq_false_iff_ne]; omega
      obtain ⟨b, o, e, hc⟩ := HR2.out (by omega)
      subst e
      have HC := hide hc
      clear hc HR2
      go_wp2
      go_loop [9, 10] (fun t i => ∃ (j T : Nat), j ≤ k ∧ t = .int .i64 T ∧ i = .int .i64 j ∧ T = s.size + 1 + sumL X j) (fun _ i => k - (intOf i).toNat)
      case atStart => exact ⟨0, s.size + 1, Nat.zero_le _, by go_num, rfl, rfl⟩
      case round =>
        obtain ⟨j, T, hj, rfl, rfl, hT⟩ := hrel
        have HT := hide hT
        have hTb : T ≤ 1048577 := by
          have h3 := sumL_le X j k hj
          have h4 := hbnd.out
          omega
        clear hT
        by_cases hlt2 : j < k
        · have g : w2.cell? ⟨b, o + j, none⟩ = some (.string (S j)) := HC.out j hlt2
          have hTb2 : T + (S j).size ≤ 1048577 := by
            have h3 := sumL_le X (j + 1) k hlt2
            have h4 := hbnd.out
            simp only [sumL, hXl.out j] at h3
            have h5 := HT.out
            omega
          go_wp2
          go_round
          case rel => exact ⟨j + 1, T + (S j).size, by omega, by go_num, by go_num, by
            simp only [sumL, hXl.out j]
            have h5 := HT.out
            omega⟩
          case measure => simp [intOf]; omega
        · obtain rfl : j = k := by omega
          by_cases hk2 : 2 ≤ j
          · have f1 : (2 : Int) ≤ (j : Int) := by omega
            have q1 : ((r.size : Int) != (T : Int) + (2 * ((j : Int) - 2) + 5)) = false := by
              rw [bne_eq_false_iff_eq]
              have h5 := HT.out
              have h6 := HRS.out
              rw [if_pos hk2] at h6
              omega
            clear HT HRS
            go_wp2_with fail
            refine (hasAt_here r s 0 0 w2 hrb (by rw [HRD.out, fromL_body _ _ _ (by omega), List.append_assoc]; exact here_of (A := []) rfl rfl)).mono ?_
            rintro _ w3 ⟨rfl, m3, rfl⟩
            go_wp2_with fail
            refine (hasAt_here r ⟨#[32]⟩ s.size m3 w2 hrb (by rw [HRD.out, fromL_body _ _ _ (by omega)]; exact here_of (A := s.data.toList) rfl (len_data s).symm)).mono ?_
            rintro _ w3 ⟨rfl, m4, rfl⟩
            have hsb := hide (show s.size ≤ 1048576 by omega)
            go_wp2
            go_loopw [11, 12] (fun p i wr => ∃ (k P m : Nat), k ≤ j ∧ p = .int .i64 P ∧ i = .int .i64 k ∧ wr = w2.drewN m ∧ P = s.size + 1 + (body j X k).length) (fun _ i _ => j - (intOf i).toNat)
            case atStart => exact ⟨0, s.size + 1, m4, Nat.zero_le _, by go_num, rfl, rfl, rfl⟩
            case round =>
              obtain ⟨k, P, m, hk3, rfl, rfl, rfl, hP⟩ := hrel
              have HP := hide hP
              clear hP
              have hPr : P ≤ r.size := by
                obtain ⟨R, hRR⟩ := body_le j X k j hk3
                have h6 := HP.out
                rw [← len_data r, HRD.out, fromL_body _ _ _ (by omega), hRR]
                simp only [List.length_append, len_data, List.length_cons, List.length_nil]
                omega
              by_cases hlt3 : k < j
              · have g : w2.cell? ⟨b, o + k, none⟩ = some (.string (S k)) := HC.out k hlt3
                obtain ⟨R, hRR⟩ := fromL_part s.data.toList j X k hlt3
                have HRR := hide hRR
                clear hRR
                have hstep := body_succ j X k
                have HST := hide hstep
                clear hstep
                have HXk : Hid ((S k).data.toList = X k) := by rw [HX.out]; rfl
                have hPl : Hid (P = (s.data.toList ++ [32] ++ body j X k).length) := by
                  show P = _
                  have h6 := HP.out
                  simp only [List.length_append, len_data, List.length_cons, List.length_nil]
                  omega
                have hlen : Hid ((s.data.toList ++ [32] ++ body j X k).length + (sepOf j k).length + (S k).size ≤ r.size) := by
                  show _ ≤ _
                  have h8 : (S k).size = (X k).length := (hXl.out k).symm
                  have h9 := congrArg List.length (HRD.out.trans HRR.out)
                  rw [len_data] at h9
                  rw [h8, h9]
                  simp only [List.length_append]
                  omega
                by_cases hk0 : k = 0
                · subst hk0
                  have hsep : sepOf j 0 = [] := rfl
                  have g0 : w2.cell? ⟨b, o, none⟩ = some (.string (S 0)) := g
                  have hPb : P + (S 0).size ≤ r.size := by
                    have h7 := hlen.out
                    rw [← hPl.out, hsep] at h7
                    simpa using h7
                  clear g
                  have HSEP := hide hsep
                  clear hsep
                  go_wp2_with fail
                  refine (hasAt_here r (S 0) P m w2 hrb (by rw [HRD.out, HRR.out, HXk.out, HSEP.out, List.append_nil]; exact here_of rfl hPl.out)).mono ?_
                  rintro _ w3 ⟨rfl, m5, rfl⟩
                  go_wp2
                  go_roundw
                  case rel => exact ⟨1, P + (S 0).size, _, by omega, by go_num, by go_num, rfl, by
                    have h6 := HP.out
                    rw [HST.out, HSEP.out]
                    simp only [List.length_append, hXl.out 0, List.length_nil]
                    omega⟩
                  case measure => simp [intOf]; omega
                · have f2 : (0 : Int) < (k : Int) := by omega
                  by_cases hk4 : k + 1 = j
                  · have f3 : ¬ (k : Int) < (j : Int) - 1 := by omega
                    have f4 : ((k : Int) == (j : Int) - 1) = true := by rw [beq_iff_eq]; omega
                    have hsep : sepOf j k = [32, 97, 110, 100, 32] := by unfold sepOf; rw [if_neg hk0, if_pos hk4]
                    have hPb : P + 5 + (S k).size ≤ r.size := by
                      have h7 := hlen.out
                      rw [← hPl.out, hsep] at h7
                      simpa using h7
                    go_wp2_with fail
                    refine (hasAt_here r ⟨#[32, 97, 110, 100, 32]⟩ P m w2 hrb (by rw [HRD.out, HRR.out, hsep, List.append_assoc]; exact here_of rfl hPl.out)).mono ?_
                    rintro _ w3 ⟨rfl, m5, rfl⟩
                    obtain ⟨Q, e5, HQ, hQb⟩ : ∃ Q : Nat, (P : Int) + 5 = (Q : Int) ∧ Hid (Q = P + 5) ∧ Q + (S k).size ≤ r.size := ⟨P + 5, by omega, rfl, hPb⟩
                    go_wp2_with fail
                    refine (hasAt_here r (S k) Q m5 w2 hrb (by rw [HRD.out, HRR.out, HXk.out]; exact here_of rfl (by rw [List.length_append, ← hPl.out, hsep, HQ.out]; rfl))).mono ?_
                    rintro _ w3 ⟨rfl, m6, rfl⟩
                    go_wp2
                    go_roundw
                    case rel => exact ⟨k + 1, Q + (S k).size, _, by omega, by go_num, by go_num, rfl, by
                      have h6 := HP.out
                      have h10 := HQ.out
                      rw [HST.out, hsep]
                      simp only [List.length_append, hXl.out k, List.length_nil, List.length_cons]
                      omega⟩
                    case measure => simp [intOf]; omega
                  · have f3 : (k : Int) < (j : Int) - 1 := by omega
                    have f4 : ((k : Int) == (j : Int) - 1) = false := by rw [beq_eq_false_iff_ne]; omega
                    have hsep : sepOf j k = [44, 32] := by unfold sepOf; rw [if_neg hk0, if_neg hk4]
                    have hPb : P + 2 + (S k).size ≤ r.size := by
                      have h7 := hlen.out
                      rw [← hPl.out, hsep] at h7
                      simpa using h7
                    go_wp2_with fail
                    refine (hasAt_here r ⟨#[44, 32]⟩ P m w2 hrb (by rw [HRD.out, HRR.out, hsep, List.append_assoc]; exact here_of rfl hPl.out)).mono ?_
                    rintro _ w3 ⟨rfl, m5, rfl⟩
                    obtain ⟨Q, e5, HQ, hQb⟩ : ∃ Q : Nat, (P : Int) + 2 = (Q : Int) ∧ Hid (Q = P + 2) ∧ Q + (S k).size ≤ r.size := ⟨P + 2, by omega, rfl, hPb⟩
                    go_wp2_with fail
                    refine (hasAt_here r (S k) Q m5 w2 hrb (by rw [HRD.out, HRR.out, HXk.out]; exact here_of rfl (by rw [List.length_append, ← hPl.out, hsep, HQ.out]; rfl))).mono ?_
                    rintro _ w3 ⟨rfl, m6, rfl⟩
                    go_wp2
                    go_roundw
                    case rel => exact ⟨k + 1, Q + (S k).size, _, by omega, by go_num, by go_num, rfl, by
                      have h6 := HP.out
                      have h10 := HQ.out
                      rw [HST.out, hsep]
                      simp only [List.length_append, hXl.out k, List.length_nil, List.length_cons]
                      omega⟩
                    case measure => simp [intOf]; omega
              · obtain rfl : k = j := by omega
                have q2 : ((P : Int) == (r.size : Int)) = true := by
                  rw [beq_iff_eq]
                  have h6 := HP.out
                  have h7 := congrArg List.length HRD.out
                  rw [fromL_body _ _ _ (by omega)] at h7
                  simp only [List.length_append, len_data, List.length_cons, List.length_nil] at h7
                  omega
                go_wp2
                go_ret
                exact ⟨rfl, Below.drewN' hbA _⟩
          · have f1 : ¬ (2 : Int) ≤ (j : Int) := by omega
            have q1 : ((r.size : Int) != (T : Int)) = false := by
              rw [bne_eq_false_iff_eq]
              have h5 := HT.out
              have h6 := HRS.out
              rw [if_neg hk2] at h6
              omega
            clear HT HRS
            go_wp2_with fail
            refine (hasAt_here r s 0 0 w2 hrb (by rw [HRD.out, fromL_body _ _ _ (by omega), List.append_assoc]; exact here_of (A := []) rfl rfl)).mono ?_
            rintro _ w3 ⟨rfl, m3, rfl⟩
            go_wp2_with fail
            refine (hasAt_here r ⟨#[32]⟩ s.size m3 w2 hrb (by rw [HRD.out, fromL_body _ _ _ (by omega)]; exact here_of (A := s.data.toList) rfl (len_data s).symm)).mono ?_
            rintro _ w3 ⟨rfl, m4, rfl⟩
            have hsb := hide (show s.size ≤ 1048576 by omega)
            go_wp2
            go_loopw [11, 12] (fun p i wr => ∃ (k P m : Nat), k ≤ j ∧ p = .int .i64 P ∧ i = .int .i64 k ∧ wr = w2.drewN m ∧ P = s.size + 1 + (body j X k).length) (fun _ i _ => j - (intOf i).toNat)
            case atStart => exact ⟨0, s.size + 1, m4, Nat.zero_le _, by go_num, rfl, rfl, rfl⟩
            case round =>
              obtain ⟨k, P, m, hk3, rfl, rfl, rfl, hP⟩ := hrel
              have HP := hide hP
              clear hP
              have hPr : P ≤ r.size := by
                obtain ⟨R, hRR⟩ := body_le j X k j hk3
                have h6 := HP.out
                rw [← len_data r, HRD.out, fromL_body _ _ _ (by omega), hRR]
                simp only [List.length_append, len_data, List.length_cons, List.length_nil]
                omega
              by_cases hlt3 : k < j
              · have g : w2.cell? ⟨b, o + k, none⟩ = some (.string (S k)) := HC.out k hlt3
                obtain ⟨R, hRR⟩ := fromL_part s.data.toList j X k hlt3
                have HRR := hide hRR
                clear hRR
                have hstep := body_succ j X k
                have HST := hide hstep
                clear hstep
                have HXk : Hid ((S k).data.toList = X k) := by rw [HX.out]; rfl
                have hPl : Hid (P = (s.data.toList ++ [32] ++ body j X k).length) := by
                  show P = _
                  have h6 := HP.out
                  simp only [List.length_append, len_data, List.length_cons, List.length_nil]
                  omega
                have hlen : Hid ((s.data.toList ++ [32] ++ body j X k).length + (sepOf j k).length + (S k).size ≤ r.size) := by
                  show _ ≤ _
                  have h8 : (S k).size = (X k).length := (hXl.out k).symm
                  have h9 := congrArg List.length (HRD.out.trans HRR.out)
                  rw [len_data] at h9
                  rw [h8, h9]
                  simp only [List.length_append]
                  omega
                by_cases hk0 : k = 0
                · subst hk0
                  have hsep : sepOf j 0 = [] := rfl
                  have g0 : w2.cell? ⟨b, o, none⟩ = some (.string (S 0)) := g
                  have hPb : P + (S 0).size ≤ r.size := by
                    have h7 := hlen.out
                    rw [← hPl.out, hsep] at h7
                    simpa using h7
                  clear g
                  have HSEP := hide hsep
                  clear hsep
                  go_wp2_with fail
                  refine (hasAt_here r (S 0) P m w2 hrb (by rw [HRD.out, HRR.out, HXk.out, HSEP.out, List.append_nil]; exact here_of rfl hPl.out)).mono ?_
                  rintro _ w3 ⟨rfl, m5, rfl⟩
                  go_wp2
                  go_roundw
                  case rel => exact ⟨1, P + (S 0).size, _, by omega, by go_num, by go_num, rfl, by
                    have h6 := HP.out
                    rw [HST.out, HSEP.out]
                    simp only [List.length_append, hXl.out 0, List.length_nil]
                    omega⟩
                  case measure => simp [intOf]; omega
                · exfalso
                  omega
              · obtain rfl : k = j := by omega
                have q2 : ((P : Int) == (r.size : Int)) = true := by
                  rw [beq_iff_eq]
                  have h6 := HP.out
                  have h7 := congrArg List.length HRD.out
                  rw [fromL_body _ _ _ (by omega)] at h7
                  simp only [List.length_append, len_data, List.length_cons, List.length_nil] at h7
                  omega
                go_wp2
                go_ret
                exact ⟨rfl, Below.drewN' hbA _⟩

end Go.Proofs.Qxb6604234a
