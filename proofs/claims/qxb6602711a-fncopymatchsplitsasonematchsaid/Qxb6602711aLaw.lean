/-
  THE LAW's WALK.
-/
import Derived.Test.Qxb6602711aCopy
namespace Go.Proofs.Qxb6602711a
open Go.RowKit
set_option linter.unusedVariables false

set_option maxHeartbeats 400000 in
theorem zzcopy_any (w : World) (z g e c off m n : Nat) (L D : Int) (f : Nat → Int) (hzg : z ≠ g) (hS : St w z g c off L D m e f w)
    (hc : c ≤ 1048576) (hec : e ≤ c) (ho1 : 1 ≤ off) (ho2 : off ≤ e) (hm : m ≤ 18446744073709551615) (hn : n = min m (c - e)) :
    Calls Try.prog 8 #[.pointer (some ⟨z, 0, none⟩)] w fun ed w' => ed = .returned (.tuple #[]) ∧
      St w z g c off (IntKind.u64.wrap (L - n)) (IntKind.u64.wrap (D + n)) ((m - n : Nat) : Int) (e + n) (lz f e off n) w' := by
  have Hn := hide hn
  clear hn
  go_enter Try.func8, Try.ntmps8
  go_wp2_with (go_at_call 12; refine (copy_any w z g e c off m n L D f hzg hS hc hec ho1 ho2 hm Hn.out).mono ?_; rintro e' w' ⟨rfl, hS'⟩)
  go_end0
  exact ⟨rfl, hS'⟩

/-- What is known of the world between two calls: two rows of one length; nothing old has turned. -/
structure Two (w0 : World) (c : Nat) (F G : Nat → Int) (w : World) : Prop where
  one : w.rowIs w0.heap.size 5 c (fun i => .int .u8 (F i))
  two : w.rowIs (w0.heap.size + 1) 5 c (fun i => .int .u8 (G i))
  size : w0.heap.size + 2 ≤ w.heap.size
  below : Below w0.heap.size w0 w

theorem Two.drewN {w0 w : World} {c : Nat} {F G : Nat → Int} (h : Two w0 c F G w) (n : Nat) : Two w0 c F G (w.drewN n) := ⟨h.one, h.two, h.size, ⟨h.below.os, h.below.tape, h.below.output, h.below.size, h.below.block⟩⟩
theorem Two.alloc {w0 w : World} {c : Nat} {F G : Nat → Int} (h : Two w0 c F G w) (o : Obj) : Two w0 c F G (w.alloc o) :=
  ⟨h.one.alloc o, h.two.alloc o, by have := h.size; simp; omega, h.below.alloc (by have := h.size; omega) o⟩

/-- Behind 'new': the state of the new reader over the first row. -/
theorem Two.st1 {w0 w : World} {c : Nat} {F G : Nat → Int} (h : Two w0 c F G w) (L D M : Int) (e off : Nat) :
    St (w.alloc (.cells (zc L D (.slice (some ⟨w0.heap.size, 0, none⟩) e c) M off) 34)) w.heap.size w0.heap.size c off L D M e F (w.alloc (.cells (zc L D (.slice (some ⟨w0.heap.size, 0, none⟩) e c) M off) 34)) :=
  ⟨heap_alloc_new w _, h.one.alloc _, Only.refl _ _⟩
theorem Two.st2 {w0 w : World} {c : Nat} {F G : Nat → Int} (h : Two w0 c F G w) (L D M : Int) (e off : Nat) :
    St (w.alloc (.cells (zc L D (.slice (some ⟨w0.heap.size + 1, 0, none⟩) e c) M off) 34)) w.heap.size (w0.heap.size + 1) c off L D M e G (w.alloc (.cells (zc L D (.slice (some ⟨w0.heap.size + 1, 0, none⟩) e c) M off) 34)) :=
  ⟨heap_alloc_new w _, h.two.alloc _, Only.refl _ _⟩
/-- Behind the copy. -/
theorem Two.after1 {w0 w1 w2 : World} {z c off e : Nat} {L D M : Int} {F F' G : Nat → Int} (h : Two w0 c F G w1) (hz : w0.heap.size + 2 ≤ z) (hS : St w1 z w0.heap.size c off L D M e F' w2) : Two w0 c F' G w2 :=
  ⟨hS.row, hS.only.row (by omega) h.two, by rw [hS.only.size]; exact h.size, h.below.trans (hS.only.below (fun k hk => by omega))⟩
theorem Two.after2 {w0 w1 w2 : World} {z c off e : Nat} {L D M : Int} {F G' G : Nat → Int} (h : Two w0 c F G w1) (hz : w0.heap.size + 2 ≤ z) (hS : St w1 z (w0.heap.size + 1) c off L D M e G' w2) : Two w0 c F G' w2 :=
  ⟨hS.only.row (by omega) h.one, hS.row, by rw [hS.only.size]; exact h.size, h.below.trans (hS.only.below (fun k hk => by omega))⟩

theorem wrap_sub2 (L : Int) (a b : Nat) : IntKind.u64.wrap (IntKind.u64.wrap (L - a) - b) = IntKind.u64.wrap (L - (a + b : Nat)) := by
  simp only [IntKind.wrap_u64]; omega
theorem wrap_add2 (L : Int) (a b : Nat) : IntKind.u64.wrap (IntKind.u64.wrap (L + a) + b) = IntKind.u64.wrap (L + (a + b : Nat)) := by
  simp only [IntKind.wrap_u64]; omega

set_option maxRecDepth 100000 in
set_option maxHeartbeats 1000000 in
theorem walk_main (b o len cap e off A B : Nat) (L D : Int) (zf : Nat → Int) (w : World) (hlen : len ≤ 1048576) (he : e ≤ len) (h1 : 1 ≤ off) (h2 : off ≤ e) (hAB : A + B ≤ 18446744073709551615) (n1 n2 : Nat) (hn1 : n1 = min A (len - e)) (hn2 : n2 = min B (len - (e + n1)))
    (hc : ∀ i, i < len → w.cell? ⟨b, o + i, none⟩ = some (.int .u8 (zf i))) :
    Calls Try.prog 4 #[.slice (some ⟨b, o, none⟩) len cap, .int .i64 (e : Int), .int .i64 (off : Int), .int .u64 (A : Int), .int .u64 (B : Int), .int .u64 L, .int .u64 D] w fun ed w' => ed = .returned (.bool true) ∧ Below w.heap.size w w' := by
  have hn3 : n1 + n2 = min (A + B) (len - e) := by omega
  have q1 : n1 ≤ A := by omega
  have q2 : n2 ≤ B := by omega
  have q3 : e + n1 + n2 ≤ len := by omega
  have H1 := hide hn1
  have H2 := hide hn2
  have H3 := hide hn3
  obtain ⟨L2, HL2⟩ : ∃ x, Hid (IntKind.u64.wrap (L - (n1 + n2 : Nat)) = x) := ⟨_, rfl⟩
  obtain ⟨D2, HD2⟩ : ∃ x, Hid (IntKind.u64.wrap (D + (n1 + n2 : Nat)) = x) := ⟨_, rfl⟩
  have HL : Hid (IntKind.u64.wrap (IntKind.u64.wrap (L - n1) - n2) = L2) := (wrap_sub2 L n1 n2).trans HL2.out
  have HD : Hid (IntKind.u64.wrap (IntKind.u64.wrap (D + n1) + n2) = D2) := (wrap_add2 D n1 n2).trans HD2.out
  clear hn1 hn2 hn3
  have t1 : ¬ (1048576 : Int) < (len : Int) := by omega
  have t2 : ¬ (e : Int) < 0 := by omega
  have t3 : ¬ (len : Int) < (e : Int) := by omega
  have t4 : ¬ (off : Int) < 1 := by omega
  have t5 : ¬ (e : Int) < (off : Int) := by omega
  have t6 : ¬ (18446744073709551615 - (B : Int)) < (A : Int) := by omega
  have t7 : (B : Int) ≤ 18446744073709551615 := by omega
  have t8 : (A : Int) + (B : Int) ≤ 18446744073709551615 := by omega
  go_enter Try.func4, Try.ntmps4
  go_wp2_with fail
  refine (bytes_yes _ len cap _ _ _ _ _ _ hlen _).mono ?_
  rintro _ w' ⟨rfl, hw⟩
  obtain rfl : w = w' := hw.symm
  go_wp2_with fail
  refine (clone_any b o len cap zf hlen _ hc).mono ?_
  rintro _ w1 ⟨rfl, hr1, hs1, hb1⟩
  go_wp2_with fail
  refine (clone_any w.heap.size 0 len len zf hlen _ (fun i hi => by rw [Nat.zero_add]; exact hr1.cell hi)).mono ?_
  rintro _ w2 ⟨rfl, hr2, hs2, hb2⟩
  have hT : Two w len zf zf w2 := ⟨hr1.of_block (hb2.block _ (by omega)), by rw [← hs1]; exact hr2, by omega, hb1.trans (hb2.mono (by omega))⟩
  rw [hs1]
  clear hr1 hs1 hb1 hr2 hs2 hb2 hc
  go_wp2_with fail
  refine (new_any L D A w.heap.size e len off _).mono ?_
  rintro _ w3 ⟨rfl, hw3⟩
  have hS3 := hT.st1 L D A e off
  rw [← hw3] at hS3
  have hT3 : Two w len zf zf w3 := by rw [hw3]; exact hT.alloc _
  have hz3 : w.heap.size + 2 ≤ w2.heap.size := hT.size
  clear hw3 hT
  go_wp2_with fail
  refine (zzcopy_any w3 w2.heap.size w.heap.size e len off A n1 L D zf (by omega) hS3 hlen he h1 h2 (by omega) H1.out).mono ?_
  rintro _ w4 ⟨rfl, hS4⟩
  have hT4 := hT3.after1 hz3 hS4
  have hf4 := hS4.reader
  clear hS3 hT3 hS4 hz3
  generalize w2.heap.size = z1 at *
  generalize IntKind.u64.wrap (L - n1) = L1 at *
  generalize IntKind.u64.wrap (D + n1) = D1 at *
  go_wp2_with fail
  refine (fields_any z1 _ _ _ _ off _ hf4).mono ?_
  rintro _ w5 ⟨rfl, nq, hw5⟩
  have hT5 : Two w len (lz zf e off n1) zf w5 := by rw [hw5]; exact hT4.drewN nq
  clear hw5 hT4 hf4
  unfold zc
  go_wp2_with fail
  refine (new_any L1 D1 B w.heap.size (e + n1) len off _).mono ?_
  rintro _ w6 ⟨rfl, hw6⟩
  have hS6 := hT5.st1 L1 D1 B (e + n1) off
  rw [← hw6] at hS6
  have hT6 : Two w len (lz zf e off n1) zf w6 := by rw [hw6]; exact hT5.alloc _
  have hz6 : w.heap.size + 2 ≤ w5.heap.size := hT5.size
  clear hw6 hT5
  go_wp2_with fail
  refine (zzcopy_any w6 w5.heap.size w.heap.size (e + n1) len off B n2 L1 D1 (lz zf e off n1) (by omega) hS6 hlen (by omega) h1 (by omega) (by omega) H2.out).mono ?_
  rintro _ w7 ⟨rfl, hS7⟩
  have hT7 := hT6.after1 hz6 hS7
  have hf7 := hS7.reader
  clear hS6 hT6 hS7 hz6
  generalize w5.heap.size = z2 at *
  rw [HL.out, HD.out] at hf7
  go_wp2_with fail
  refine (fields_any z2 _ _ _ _ off _ hf7).mono ?_
  rintro _ w8 ⟨rfl, nq8, hw8⟩
  have hT8 : Two w len (lz (lz zf e off n1) (e + n1) off n2) zf w8 := by rw [hw8]; exact hT7.drewN nq8
  clear hw8 hT7 hf7
  unfold zc
  go_wp2_with fail
  rw [show ((A : Int) + (B : Int)) = ((A + B : Nat) : Int) from (Int.natCast_add A B).symm]
  refine (new_any L D ((A + B : Nat) : Int) (w.heap.size + 1) e len off _).mono ?_
  rintro _ w9 ⟨rfl, hw9⟩
  have hS9 := hT8.st2 L D ((A + B : Nat) : Int) e off
  rw [← hw9] at hS9
  have hT9 : Two w len (lz (lz zf e off n1) (e + n1) off n2) zf w9 := by rw [hw9]; exact hT8.alloc _
  have hz9 : w.heap.size + 2 ≤ w8.heap.size := hT8.size
  clear hw9 hT8
  go_wp2_with fail
  refine (zzcopy_any w9 w8.heap.size (w.heap.size + 1) e len off (A + B) (n1 + n2) L D zf (by omega) hS9 hlen he h1 h2 hAB H3.out).mono ?_
  rintro _ w10 ⟨rfl, hS10⟩
  have hT10 := hT9.after2 hz9 hS10
  have hf10 := hS10.reader
  clear hS9 hT9 hS10 hz9
  generalize w8.heap.size = z3 at *
  rw [HL2.out, HD2.out] at hf10
  go_wp2_with fail
  refine (fields_any z3 _ _ _ _ off _ hf10).mono ?_
  rintro _ w11 ⟨rfl, nq11, hw11⟩
  have hT11 : Two w len (lz (lz zf e off n1) (e + n1) off n2) (lz zf e off (n1 + n2)) w11 := by rw [hw11]; exact hT10.drewN nq11
  clear hw11 hT10 hf10
  have hr1 : w11.rowIs w.heap.size 5 len (fun i => .int .u8 (lz zf e off (n1 + n2) i)) := hT11.one.congr (fun i _ => by rw [lz_split zf e off n1 n2 i h1 h2])
  have hr2 := hT11.two
  have hbel := hT11.below
  clear hT11
  unfold zc
  go_wp2_with fail
  refine (same_any w.heap.size (w.heap.size + 1) len len len (lz zf e off (n1 + n2)) hlen _ (fun i hi => hr1.cell hi) (fun i hi => hr2.cell hi)).mono ?_
  rintro _ w12 ⟨rfl, nq12, hw12⟩
  have hbel' : Below w.heap.size w w12 := by rw [hw12]; exact ⟨hbel.os, hbel.tape, hbel.output, hbel.size, hbel.block⟩
  clear hw12 hbel hr1 hr2
  have q4 : ((A - n1 : Nat) : Int) + ((B - n2 : Nat) : Int) = ((A + B - (n1 + n2) : Nat) : Int) := by omega
  go_wp2
  go_ret
  exact ⟨rfl, hbel'⟩

end Go.Proofs.Qxb6602711a
