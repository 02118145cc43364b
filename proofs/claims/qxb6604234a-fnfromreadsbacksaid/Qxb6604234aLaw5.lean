/-
  THE WALK of 'FnFromReadsBack'.
-/
import Derived.Test.Qxb6604234aRead
namespace Go.Proofs.Qxb6604234a
open Go.RowKit
set_option linter.unusedVariables false

def Tot (sz n : Nat) (X : Nat → List UInt8) (k T : Nat) : Prop := T = sz + 16 * k + sumL X k
theorem join_small {X : Nat → List UInt8} {n : Nat} (h : 16 * n + sumL X n ≤ 1048576) : (Lib.join ((List.range (n - 1)).map X) [44, 32]).length ≤ 4194304 := by
  by_cases h1 : n ≤ 1
  · rw [show n - 1 = 0 by omega]
    show (Lib.join [] _).length ≤ _
    rw [Lib.join_nil]; simp
  · obtain ⟨m, rfl⟩ : ∃ m, n = m + 2 := ⟨n - 2, by omega⟩
    rw [show m + 2 - 1 = m + 1 from rfl, join_body (m + 2) X m (by omega), body_len (m + 2) X m (by omega)]
    have := sumL_le X (m + 1) (m + 2) (by omega)
    omega
theorem nil_of {r : ByteArray} (h : r.data.toList = []) : r = ⟨#[]⟩ := by
  cases r with
  | mk d => simp at h; subst h; rfl

theorem read_any (s r : ByteArray) (n : Nat) (S : Nat → ByteArray) (w : World) (hn : n ≤ 65536) (hb : s.size + 16 * n + sumL (fun i => (S i).data.toList) n ≤ 1048576)
    (hr : r.data.toList = fromL s.data.toList n (fun i => (S i).data.toList)) (hP : ∀ i, i < n → PlainId (S i).data.toList) :
    Calls Try.prog 17 #[.string s, .string r] w fun e w' => ReadPost n S e w' ∧ Below w.heap.size w w' := by
  by_cases h0 : n = 0
  · subst h0
    rw [nil_of (r := r) (by rw [hr]; rfl)]
    exact read_zero s S w
  · have hrb : r.size ≤ 4194304 := by
      rw [← len_data r, hr, fromL_len _ _ _ (by omega), len_data]
      split <;> omega
    by_cases h1 : n = 1
    · subst h1
      exact read_one s r S w (by omega) hrb hr (hP 0 (by omega))
    · exact read_many s r n S w (by omega) hn (by omega) hrb hr hP (fun i hi => by
        have := len_le_sumL (fun i => (S i).data.toList) i n hi
        rw [len_data] at this
        omega)

set_option maxRecDepth 1000000 in
set_option maxHeartbeats 4000000 in
theorem walk5 (s : ByteArray) (a : Option Addr) (n c : Nat) (S : Nat → ByteArray) (w : World) (hz : a = none → n = 0) (hR : Strs w a n S) :
    Calls Try.prog 5 #[.string s, .slice a n c] w fun e w' => e = .returned (.bool true) ∧ Below w.heap.size w w' := by
  obtain ⟨X, HX⟩ : ∃ X : Nat → List UInt8, Hid (X = fun i => (S i).data.toList) := ⟨_, rfl⟩
  have hXl : Hid (∀ i, (X i).length = (S i).size) := fun i => by rw [HX.out]; exact len_data _
  go_enter Try.func5, Try.ntmps5
  go_wp2_with fail
  refine (bytes15_any s a n c S _ hR).mono ?_
  rintro _ w' ⟨⟨b, rfl, hb⟩, hw⟩
  obtain rfl : w = w' := hw.symm
  clear hw
  cases b
  · clear hR hb
    go_wp2
    go_ret
    exact ⟨rfl, Below.refl _ _⟩
  have hS0 := hb rfl
  have HS0 := hide hS0
  clear hb hS0
  by_cases h1 : (1048576 : Int) < (s.size : Int)
  · clear hR
    go_wp2
    go_ret
    exact ⟨rfl, Below.refl _ _⟩
  by_cases h2 : (65536 : Int) < (n : Int)
  · clear hR
    go_wp2
    go_ret
    exact ⟨rfl, Below.refl _ _⟩
  have HR := hide hR
  clear hR
  go_wp2
  go_loop [5, 6] (fun t i => ∃ (k T : Nat), k ≤ n ∧ T ≤ 1048576 ∧ t = .int .i64 T ∧ i = .int .i64 k ∧ Tot s.size n X k T) (fun _ i => n - (intOf i).toNat)
  case atStart => exact ⟨0, s.size, Nat.zero_le _, by omega, rfl, rfl, rfl⟩
  case round =>
    obtain ⟨k, T, hk, hT, rfl, rfl, hTot⟩ := hrel
    have HT := hide hTot
    clear hTot
    by_cases hlt : k < n
    · obtain ⟨b, o, e, hc⟩ := HR.out (by omega)
      cases e
      have g : w.cell? ⟨b, o + k, none⟩ = some (.string (S k)) := hc k hlt
      have hk1 := HS0.out k hlt
      clear hc
      by_cases t3 : (1048576 : Int) < (T : Int) + (16 + ((S k).size : Int))
      · go_wp2
        go_ret
        exact ⟨rfl, Below.refl _ _⟩
      go_wp2
      go_round
      case rel => exact ⟨k + 1, T + (16 + (S k).size), by omega, by omega, by go_num, by go_num, by
        have := HT.out
        unfold Tot at this ⊢
        simp only [sumL, hXl.out k]
        omega⟩
      case measure => simp [intOf]; omega
    · obtain rfl : k = n := by omega
      have hT' : s.size + 16 * k + sumL X k ≤ 1048576 := by have := HT.out; unfold Tot at this; omega
      have hbnd := hide hT'
      have hJ : Hid ((Lib.join ((List.range (k - 1)).map fun i => (S i).data.toList) [44, 32]).length ≤ 4194304) := by
        have := join_small (X := X) (n := k) (by omega)
        rw [HX.out] at this
        exact this
      clear HT hT'
      go_wp2
      go_loop [7] (fun i => ∃ (j : Nat), j ≤ k ∧ i = .int .i64 j ∧ ∀ i, i < j → PlainId (S i).data.toList) (fun i => k - (intOf i).toNat)
      case atStart => exact ⟨0, Nat.zero_le _, rfl, fun i hi => absurd hi (by omega)⟩
      case round =>
        obtain ⟨j, hj, rfl, hq⟩ := hrel
        have HQ := hide hq
        clear hq
        by_cases hlt2 : j < k
        · obtain ⟨b, o, e, hc⟩ := HR.out (by omega)
          cases e
          have g : w.cell? ⟨b, o + j, none⟩ = some (.string (S j)) := hc j hlt2
          clear hc
          go_wp2_with fail
          refine (plainID_any (S j) w (HS0.out j hlt2)).mono ?_
          rintro _ w' ⟨⟨b', rfl, hb'⟩, hw⟩
          obtain rfl : w = w' := hw.symm
          clear hw
          cases b'
          · clear hb'
            go_wp2
            go_ret
            exact ⟨rfl, Below.refl _ _⟩
          have R : Hid (∀ i, i < j + 1 → PlainId (S i).data.toList) := fun i hi => by
            by_cases e : i = j
            · subst e; exact hb' rfl
            · exact HQ.out i (by omega)
          clear hb'
          go_wp2
          go_round
          case rel => exact ⟨j + 1, by omega, by go_num, R.out⟩
          case measure => simp [intOf]; omega
        · obtain rfl : j = k := by omega
          go_wp2_with fail
          refine (clone_any a j c S (by omega) _ hz HR.out).mono ?_
          rintro _ w1 ⟨⟨a', c', rfl, hR1, hc1⟩, hb1⟩
          clear HR hz
          go_wp2_with fail
          refine (zz_any s a' j c' S _ (by omega) hc1 (by omega) HS0.out hJ.out hR1).mono ?_
          rintro _ w2 ⟨⟨r, rfl, hr⟩, hb2⟩
          have HR2 : Hid (Strs w2 a' j S) := hR1.below hb2
          have hbA : Below w.heap.size w w2 := hb1.trans (hb2.mono hb1.size)
          have HRD := hide hr
          clear hR1 hb1 hb2 hJ hr
          go_wp2_with fail
          refine (read_any s r j S _ (by omega) (by have := hbnd.out; rw [HX.out] at this; exact this) HRD.out HQ.out).mono ?_
          rintro _ w3 ⟨⟨a3, c3, rfl, hG⟩, hb3⟩
          have HG := hide hG
          have HR3 : Hid (Strs w3 a' j S) := HR2.out.below hb3
          have hbB : Below w.heap.size w w3 := hbA.trans (hb3.mono hbA.size)
          clear hG hb3 hbA HR2 HRD HQ
          go_wp2
          go_loopw [11] (fun i wr => ∃ k m : Nat, k ≤ j ∧ i = .int .i64 k ∧ wr = w3.drewN m) (fun i _ => j - (intOf i).toNat)
          case atStart => exact ⟨0, 0, Nat.zero_le _, rfl, rfl⟩
          case round =>
            obtain ⟨k, m, hk3, rfl, rfl⟩ := hrel
            by_cases hlt3 : k < j
            · obtain ⟨b, o, e, hc⟩ := HG.out (by omega)
              obtain ⟨b', o', e', hc'⟩ := HR3.out (by omega)
              subst e e'
              have g1 : w3.cell? ⟨b, o + k, none⟩ = some (.string (S k)) := hc k hlt3
              have g2 : w3.cell? ⟨b', o' + k, none⟩ = some (.string (S k)) := hc' k hlt3
              have i1 : (0 : Int) ≤ (k : Int) := by omega
              have i2 : (k : Int) < (j : Int) := by omega
              clear hc hc'
              go_wp2
              go_quiet (fail)
              go_wp2
              go_roundw
              case rel => exact ⟨k + 1, _, by omega, by go_num, rfl⟩
              case measure => simp [intOf]; omega
            · go_wp2
              go_ret
              exact ⟨rfl, Below.drewN' hbB _⟩

end Go.Proofs.Qxb6604234a
