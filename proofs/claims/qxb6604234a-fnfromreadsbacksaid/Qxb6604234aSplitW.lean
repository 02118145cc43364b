/-
  The walk of 'splitSpaces'.
-/
import Derived.Test.Qxb6604234aSplit
namespace Go.Proofs.Qxb6604234a
open Go.RowKit
set_option linter.unusedVariables false

def SpX (l : List UInt8) (k a : Nat) (T : List (List UInt8)) : Prop := SpI l k a T ∨ (k = l.length + 1 ∧ Done l T)
def SplitPost (B : Nat) (l : List UInt8) (e : Ending) (w' : World) : Prop := ∃ (v : Value) (ts : List ByteArray), e = .returned v ∧ w'.ownsRow B 9 1 v ts.length (ts.map Value.string) ∧ Done l (ts.map fun t => t.data.toList)

theorem below_grown {B : Nat} {a w w' : World} {row : Option Nat} (h : Below B a w) (hB : B ≤ w.heap.size) (hg : w.grownBy w' row) (hrow : ∀ k, row = some k → B ≤ k) : Below B a w' :=
  ⟨hg.os.trans h.os, hg.tape.trans h.tape, hg.output.trans h.output, Nat.le_trans h.size hg.size, fun k hk => (hg.block k (Nat.lt_of_lt_of_le hk hB) (fun e => by have := hrow k e.symm; omega)).trans (h.block k hk)⟩

theorem own_snoc {w : World} {B : Nat} {v : Value} {ts : List ByteArray} {x : ByteArray} (h : w.ownsRow B 9 1 v (ts.length + 1) (ts.map Value.string ++ [.string x])) : w.ownsRow B 9 1 v (ts ++ [x]).length ((ts ++ [x]).map Value.string) := by
  rw [List.length_append, List.map_append]; exact h

set_option maxRecDepth 100000 in
set_option maxHeartbeats 1000000 in
theorem split_any (s : ByteArray) (w : World) (hs : s.size ≤ 4194304) :
    Calls Try.prog 20 #[.string s] w fun e w' => SplitPost w.heap.size s.data.toList e w' ∧ Below w.heap.size w w' := by
  obtain ⟨i0, hi, hz0, hz1, hz2⟩ := info_parts Try.info9
  go_enter Try.func20, Try.ntmps20
  go_wp2
  go_loopw [3, 4, 5] (fun v st i wr => ∃ (k a : Nat) (ts : List ByteArray), st = .int .i64 a ∧ i = .int .i64 k ∧ wr.ownsRow w.heap.size 9 1 v ts.length (ts.map Value.string) ∧ Below w.heap.size w wr ∧ SpX s.data.toList k a (ts.map fun t => t.data.toList)) (fun _ _ i _ => s.size + 2 - (intOf i).toNat)
  case atStart => exact ⟨0, 0, [], rfl, rfl, World.ownsRow_nil _ _ _ _, Below.refl _ _, .inl (SpI.start _)⟩
  case round =>
    obtain ⟨k, a, ts, rfl, rfl, hown, hbel, hsp⟩ := hrel
    rcases hsp with hsp | ⟨hke, hdone⟩
    · have hka := hsp.1
      have hkl := hsp.2.1
      rw [len_data] at hkl
      have hcnt := hsp.count
      rw [List.length_map, len_data] at hcnt
      have HSP := hide hsp
      have HB := hide hbel
      have hBw := hbel.size
      have i1 : (k : Int) ≤ (s.size : Int) := by omega
      have i2 : (a : Int) ≤ (k : Int) := by omega
      have i3 : (0 : Int) ≤ (a : Int) := by omega
      have i4 : (0 : Int) ≤ (k : Int) := by omega
      clear hsp hbel
      by_cases hks : k = s.size
      · have q0 : ((k : Int) == (s.size : Int)) = true := by rw [beq_iff_eq]; omega
        have FIN : Hid (Done s.data.toList ((ts ++ [s.extract a k]).map fun t => t.data.toList)) := by
          have h1 := HSP.out
          rw [hks, ← len_data s] at h1
          have h2 := h1.fin
          rw [List.map_append]
          show Done _ (_ ++ [(s.extract a k).data.toList])
          rw [Lib.extract_data, hks, ← len_data s]
          exact h2
        have HKS := hide hks
        clear hks
        go_wp2_with (at_builtin; refine wpList_append_own _ rfl (.tmp 22) (.tmp 27) 28 rfl w.heap.size 9 i0 (.string ⟨#[]⟩) 1 16 Try.underlying28 hi hz0 hz1 hz2 rfl (by decide) _ _ _ rfl (hown.alloc _) ⟨wr.heap.size, 0, none⟩ 1 1 [.string (s.extract a k)] rfl rfl ?c1 ?c2 ?c3 ?c4 ?c5 ?_)
        case c1 =>
          intro j u hj
          match j, hj with
          | 0, hj => simp at hj; subst hj; simp [Addr.add]
        case c2 => intro u hu; simp at hu; subst hu; rfl
        case c3 => unfold maxLen; omega
        case c4 => omega
        case c5 => simp; omega
        intro v' w1 hown' hgrow _
        have HO : Hid (w1.ownsRow w.heap.size 9 1 v' (ts ++ [s.extract a k]).length ((ts ++ [s.extract a k]).map Value.string)) := own_snoc hown'
        have HB1 : Hid (Below w.heap.size w w1) := below_grown (HB.out.alloc hBw _) (by simp; omega) hgrow (fun j hj => (hown.lt j hj).1)
        clear hown hown' hgrow
        go_wp2
        go_roundw
        case rel => exact ⟨k + 1, k + 1, ts ++ [s.extract a k], by go_num, by go_num, HO.out, HB1.out, .inr ⟨by rw [len_data, HKS.out], FIN.out⟩⟩
        case measure => simp [intOf]; omega
      · have hkl2 : k < s.size := by omega
        have q0 : ((k : Int) == (s.size : Int)) = false := by rw [beq_eq_false_iff_ne]; omega
        have i5 : (k : Int) < (s.size : Int) := by omega
        have hat := get_at hkl2
        have HAT := hide hat
        clear hat hks
        by_cases h32 : s[k] = 32
        · have q1 : ((s[k].toNat : Int) == 32) = true := byte_eq 32 32 rfl h32
          have NXT : Hid (SpX s.data.toList (k + 1) (k + 1) ((ts ++ [s.extract a k]).map fun t => t.data.toList)) := by
            have h2 := HSP.out.cut (by rw [HAT.out, h32])
            rw [List.map_append]
            refine .inl ?_
            show SpI _ _ _ (_ ++ [(s.extract a k).data.toList])
            rw [Lib.extract_data]
            exact h2
          clear h32
          go_wp2_with (at_builtin; refine wpList_append_own _ rfl (.tmp 22) (.tmp 27) 28 rfl w.heap.size 9 i0 (.string ⟨#[]⟩) 1 16 Try.underlying28 hi hz0 hz1 hz2 rfl (by decide) _ _ _ rfl (hown.alloc _) ⟨wr.heap.size, 0, none⟩ 1 1 [.string (s.extract a k)] rfl rfl ?c1 ?c2 ?c3 ?c4 ?c5 ?_)
          case c1 =>
            intro j u hj
            match j, hj with
            | 0, hj => simp at hj; subst hj; simp [Addr.add]
          case c2 => intro u hu; simp at hu; subst hu; rfl
          case c3 => unfold maxLen; omega
          case c4 => omega
          case c5 => simp; omega
          intro v' w1 hown' hgrow _
          have HO : Hid (w1.ownsRow w.heap.size 9 1 v' (ts ++ [s.extract a k]).length ((ts ++ [s.extract a k]).map Value.string)) := own_snoc hown'
          have HB1 : Hid (Below w.heap.size w w1) := below_grown (HB.out.alloc hBw _) (by simp; omega) hgrow (fun j hj => (hown.lt j hj).1)
          clear hown hown' hgrow
          go_wp2
          go_roundw
          case rel => exact ⟨k + 1, k + 1, ts ++ [s.extract a k], by go_num, by go_num, HO.out, HB1.out, NXT.out⟩
          case measure => simp [intOf]; omega
        · have q1 : ((s[k].toNat : Int) == 32) = false := byte_ne 32 32 rfl h32
          have NXT : Hid (SpX s.data.toList (k + 1) a (ts.map fun t => t.data.toList)) := .inl (HSP.out.pass (by rw [len_data]; exact hkl2) (by rw [HAT.out]; intro e; exact h32 (Option.some.inj e)))
          have HO := hide hown
          clear h32 hown
          go_wp2
          go_roundw
          case rel => exact ⟨k + 1, a, ts, rfl, by go_num, HO.out, HB.out, NXT.out⟩
          case measure => simp [intOf]; omega
    · rw [len_data] at hke
      have t1 : ¬ (k : Int) ≤ (s.size : Int) := by omega
      have HD := hide hdone
      have HO := hide hown
      have HB := hide hbel
      clear hke hdone hown hbel
      go_wp2
      go_ret
      exact ⟨⟨_, ts, rfl, HO.out, HD.out⟩, HB.out⟩

end Go.Proofs.Qxb6604234a
