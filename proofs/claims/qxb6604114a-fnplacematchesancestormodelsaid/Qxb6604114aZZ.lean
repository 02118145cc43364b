/-
  'ZZPlace'.
-/
import Derived.Test.Qxb6604114aPlace
namespace Go.Proofs.Qxb6604114a
open Go.RowKit
set_option linter.unusedVariables false

/-- What 'ZZPlace' answers, and what it leaves. -/
def ZZPost (w0 : World) (n : Nat) (L : Nat → Nat) (e : Nat → Nat → Nat) (A : Nat → Nat → Bool) (pl : Nat → Bool) (pa de : Nat → Int) (x : Nat) (ed : Ending) (w' : World) : Prop :=
  ∃ (pl' : Nat → Bool) (pa' de' : Nat → Int), w'.rowIs w0.heap.size 4 n (fun i => .bool (pl' i)) ∧ w'.rowIs (w0.heap.size + 1) 3 n (fun i => .int .i64 (pa' i)) ∧ w'.rowIs (w0.heap.size + 2) 3 n (fun i => .int .i64 (de' i)) ∧ Below w0.heap.size w0 w' ∧ Res n L e A x pl pa de pl' pa' de' ∧
    ((ed = .returned (.tuple #[.bool false, .int .i64 0, .int .i64 0, .int .i64 0]) ∧ pl' x = true) ∨
      ∃ f o t, ed = .returned (.tuple #[.bool true, .int .i64 ((f : Nat) : Int), .int .i64 ((o : Nat) : Int), .int .i64 ((t : Nat) : Int)]) ∧ Conf n L e A x pl' f o t)

set_option maxRecDepth 100000 in
set_option maxHeartbeats 2000000 in
theorem zz_any {w0 : World} {n cc : Nat} {ca : Option Addr} {L : Nat → Nat} {e : Nat → Nat → Nat} {A : Nat → Nat → Bool} {rk : Nat → Nat} (hn : n ≤ 256) (hL : ∀ i, i < n → L i ≤ 1048576) (hctl : Ctl n L e A rk) (hR : Rows2 w0 ca n L (fun i j => (e i j : Int)))
    (x : Nat) (pl : Nat → Bool) (pa de : Nat → Int) (w : World) (hx : x < n) (hI : Inv n L e A pl pa de) (r1 : w.rowIs w0.heap.size 4 n (fun i => .bool (pl i))) (r2 : w.rowIs (w0.heap.size + 1) 3 n (fun i => .int .i64 (pa i))) (r3 : w.rowIs (w0.heap.size + 2) 3 n (fun i => .int .i64 (de i))) (hb : Below w0.heap.size w0 w) :
    Calls Try.prog 21 #[.slice ca n cc, .slice (some ⟨w0.heap.size, 0, none⟩) n n, .slice (some ⟨w0.heap.size + 1, 0, none⟩) n n, .slice (some ⟨w0.heap.size + 2, 0, none⟩) n n, .int .i64 x] w fun ed w' => ZZPost w0 n L e A pl pa de x ed w' := by
  have hsz := r3.lt
  go_enter Try.func21, Try.ntmps21
  go_wp2_with fail
  have hP : PSt w0 n ca cc (w.heap.size + 1) w.heap.size pl pa de ((w.alloc (.cells #[.slice ca n cc, .slice none 0 0] 49)).alloc (.cells #[.pointer (some ⟨w.heap.size, 0, none⟩), .slice (some ⟨w0.heap.size, 0, none⟩) n n, .slice (some ⟨w0.heap.size + 1, 0, none⟩) n n, .slice (some ⟨w0.heap.size + 2, 0, none⟩) n n] 54)) := by
    refine ⟨by simp, by simp, by simp, by simp, ?_, (r1.alloc _).alloc _, (r2.alloc _).alloc _, (r3.alloc _).alloc _, (hb.alloc (by omega) _).alloc (by simp; omega) _, by omega, hsz⟩
    rw [World.cell?_alloc_lt _ _ _ (by simp)]; simp
  refine (place_any hn hL hctl hR (rk x + 1) x pl pa de _ (by omega) hx hP hI).mono ?_
  rintro _ w2 ⟨pl2, pa2, de2, hP2, hR2, hres⟩
  have HP2 := hide hP2
  have HR2 := hide hR2
  clear hP r1 r2 r3 hR hctl hI hL hP2 hR2 hb
  rcases hres with ⟨rfl, hpx⟩ | ⟨q, f, o, t, rfl, k0, k1, k2, hconf⟩
  · go_wp2
    exact bodyPost_ret (v := .tuple #[.bool false, .int .i64 0, .int .i64 0, .int .i64 0]) (by simp [results, Try.results21, go_sem]) rfl ⟨pl2, pa2, de2, HP2.out.r1, HP2.out.r2, HP2.out.r3, HP2.out.below, HR2.out, .inl ⟨rfl, hpx⟩⟩
  · have HF := hide hconf
    clear hconf
    go_wp2
    go_quiet (fail)
    go_wp2
    exact bodyPost_ret (v := .tuple #[.bool true, .int .i64 (f : Int), .int .i64 (o : Int), .int .i64 (t : Int)]) (by simp [results, Try.results21, go_sem]) rfl ⟨pl2, pa2, de2, HP2.out.r1, HP2.out.r2, HP2.out.r3, Below.drewN' HP2.out.below _, HR2.out, .inr ⟨f, o, t, rfl, HF.out⟩⟩

end Go.Proofs.Qxb6604114a
