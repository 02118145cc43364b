/-
  'union': the merge.
-/
import Derived.Test.Qxb6604083aRuns
namespace Go.Proofs.Qxb6604083a
open Go.RowKit
set_option linter.unusedVariables false

def lenOf : Value → Nat
  | .slice _ n _ => n
  | _ => 0

theorem rc_cons (r : Int × Int) (l : List (Int × Int)) (j : Nat) : rc (r :: l) (2 + j) = rc l j := by
  unfold rc
  have e1 : (2 + j) % 2 = j % 2 := by omega
  have e2 : (2 + j) / 2 = j / 2 + 1 := by omega
  rw [e1, e2]
  simp

/-- The rest of a slice of runs. -/
theorem Runs.tail {w : World} {b o : Nat} {r : Int × Int} {l : List (Int × Int)} {c : Nat} (h : Runs w (some ⟨b, o, none⟩) (r :: l)) (hc : l.length + 1 ≤ c) (a' : Option Addr) (ha : ¬ c = 1 → a' = some ⟨b, o + 2, none⟩) : Runs w a' l := fun hl => by
  obtain ⟨b', o', e, hcs⟩ := h (by simp)
  cases e
  refine ⟨b, o + 2, ha (by omega), fun j hj => ?_⟩
  rw [Nat.add_assoc, hcs (2 + j) (by simp; omega), rc_cons]
theorem Runs.head {w : World} {a : Option Addr} {r : Int × Int} {l : List (Int × Int)} (h : Runs w a (r :: l)) : ∃ b o, a = some ⟨b, o, none⟩ ∧ w.cell? ⟨b, o, none⟩ = some (.int .i64 r.1) ∧ w.cell? ⟨b, o + 1, none⟩ = some (.int .i64 r.2) := by
  obtain ⟨b, o, e, hc⟩ := h (by simp)
  exact ⟨b, o, e, hc 0 (by simp), hc 1 (by simp; omega)⟩

/-- THE WORLD OF A ROUND: the row u is built in, and the variable 'next'. -/
structure Wd (w : World) (C : Nat) (u : List (Int × Int)) (nb : Nat) (x y : Int) (wr : World) : Prop where
  row : ∃ f, wr.rowIs w.heap.size 54 (C * 2) f ∧ ∀ j, j < u.length * 2 → f j = rc u j
  next : wr.rowIs nb 54 2 (fun j => if j = 0 then .int .i64 x else .int .i64 y)
  gt : w.heap.size < nb
  below : Below w.heap.size w wr

theorem Wd.drewN {w wr : World} {C nb : Nat} {u : List (Int × Int)} {x y : Int} (h : Wd w C u nb x y wr) (n : Nat) : Wd w C u nb x y (wr.drewN n) := ⟨h.row, h.next, h.gt, Below.drewN' h.below n⟩

theorem Wd.set {w wr : World} {C nb : Nat} {u : List (Int × Int)} {x y : Int} (h : Wd w C u nb x y wr) (x' y' : Int) : Wd w C u nb x' y' ((wr.setCell ⟨nb, 0, none⟩ (.int .i64 x')).setCell ⟨nb, 1, none⟩ (.int .i64 y')).drew := by
  obtain ⟨f, hr, hf⟩ := h.row
  have hg := h.gt
  refine ⟨⟨f, ((hr.setOther (by simp; omega) _).setOther (by simp; omega) _).drew, hf⟩, ?_, hg, ((h.below.setCell (by simp; omega) _).setCell (by simp; omega) _).drew⟩
  refine (((h.next.set 0 (.int .i64 x')).set 1 (.int .i64 y')).congr fun i hi => ?_).drew
  match i, hi with
  | 0, _ => rfl
  | 1, _ => rfl

theorem nil_or_snoc (u : List (Int × Int)) : u = [] ∨ ∃ v p q, u = v ++ [(p, q)] := by
  rcases List.eq_nil_or_concat u with h | ⟨v, ⟨p, q⟩, h⟩
  · exact .inl h
  · exact .inr ⟨v, p, q, by rw [h, List.concat_eq_append]⟩

theorem rc_app_low (u : List (Int × Int)) (r : Int × Int) (j : Nat) (h : j < u.length * 2) : rc (u ++ [r]) j = rc u j := by
  unfold rc
  rw [List.getD_eq_getElem?_getD, List.getD_eq_getElem?_getD, List.getElem?_append_left (by omega)]
theorem rc_app_at (u : List (Int × Int)) (r : Int × Int) : rc (u ++ [r]) (u.length * 2) = .int .i64 r.1 := by
  rw [rc_even, List.getD_eq_getElem?_getD, List.getElem?_append_right (Nat.le_refl _)]; simp
theorem rc_app_at1 (u : List (Int × Int)) (r : Int × Int) : rc (u ++ [r]) (u.length * 2 + 1) = .int .i64 r.2 := by
  rw [rc_odd, List.getD_eq_getElem?_getD, List.getElem?_append_right (Nat.le_refl _)]; simp

theorem row_app {w : World} {g N : Nat} {f : Nat → Value} (h : w.rowIs g 54 N f) {u : List (Int × Int)} {nu : Nat} (hf : ∀ j, j < nu * 2 → f j = rc u j) (hu : u.length = nu) (r : Int × Int) :
    ∃ f', ((w.setCell ⟨g, nu * 2, none⟩ (.int .i64 r.1)).setCell ⟨g, nu * 2 + 1, none⟩ (.int .i64 r.2)).rowIs g 54 N f' ∧ ∀ j, j < (nu + 1) * 2 → f' j = rc (u ++ [r]) j := by
  subst hu
  refine ⟨_, (h.set (u.length * 2) _).set (u.length * 2 + 1) _, fun j hj => ?_⟩
  by_cases e1 : j = u.length * 2 + 1
  · subst e1; rw [rc_app_at1]; simp
  · by_cases e2 : j = u.length * 2
    · subst e2; rw [rc_app_at]; simp
    · rw [rc_app_low u r j (by omega), ← hf j (by omega)]; simp [e1, e2]
theorem row_join {w : World} {g N : Nat} {f : Nat → Value} (h : w.rowIs g 54 N f) {v : List (Int × Int)} {p q : Int} {nk : Nat} (hf : ∀ j, j < (nk + 1) * 2 → f j = rc (v ++ [(p, q)]) j) (hv : v.length = nk) (m : Int) :
    ∃ f', (w.setCell ⟨g, nk * 2 + 1, none⟩ (.int .i64 m)).rowIs g 54 N f' ∧ ∀ j, j < (nk + 1) * 2 → f' j = rc (v ++ [(p, m)]) j := by
  subst hv
  refine ⟨_, h.set (v.length * 2 + 1) _, fun j hj => ?_⟩
  by_cases e1 : j = v.length * 2 + 1
  · subst e1; rw [rc_app_at1]; simp
  · show (if j = v.length * 2 + 1 then _ else f j) = _
    rw [if_neg e1, hf j hj]
    by_cases e2 : j = v.length * 2
    · subst e2; rw [rc_app_at, rc_app_at]
    · rw [rc_app_low v _ j (by omega), rc_app_low v _ j (by omega)]

theorem rowIs_push {w w' : World} {g N : Nat} {t : TypeId} {f : Nat → Value} (h : w.rowIs g t N f) (o : Obj) (e : w'.heap = w.heap.push o) : w'.rowIs g t N f := (h.alloc o).of_block (by rw [e]; rfl)

theorem cell_push {w w' : World} (cs : Array Value) (t : TypeId) (e : w'.heap = w.heap.push (.cells cs t)) (j : Nat) (v : Value) (h : cs[j]? = some v) : w'.cell? ⟨w.heap.size, j, none⟩ = some v := by
  rw [World.cell?_of_block (w := w.alloc (.cells cs t)) (by rw [e]; rfl), World.cell?_alloc_new]
  exact h

theorem below_push {B : Nat} {a w w' : World} (h : Below B a w) (hB : B ≤ w.heap.size) (o : Obj) (e : w'.heap = w.heap.push o) (e1 : w'.os = w.os) (e2 : w'.tape = w.tape) (e3 : w'.output = w.output) : Below B a w' := by
  have hk := h.alloc hB o
  exact ⟨e1.trans hk.os, e2.trans hk.tape, e3.trans hk.output, by rw [e]; exact hk.size, fun k hk' => by rw [e]; exact hk.block k hk'⟩

/-- 'append' OF ONE RUN WHERE THERE IS ROOM. -/
theorem wpList_append_run (w : World) {ops : Array Oper} {rest : List Oper} {o : Oper} {a : Act} {Q : Exit → Act → World → Prop}
    (hg : o.guard = none) (s x : Operand) (hop : o.op = Op.call { callee := Callee.builtin Builtin.append, args := #[s, x], argTypes := #[50, 50] })
    (g n C : Nat) (f : Nat → Value) (hs : a.eval s = .slice (some ⟨g, 0, none⟩) n C) (hrow : w.rowIs g 54 (C * 2) f) (k cx : Nat) (hx : a.eval x = .slice (some ⟨k, 0, none⟩) 1 cx) (y1 y2 : Int)
    (c1 : w.cell? ⟨k, 0, none⟩ = some (.int .i64 y1)) (c2 : w.cell? ⟨k, 1, none⟩ = some (.int .i64 y2)) (hroom : n < C) (B : Nat) (w0 : World) (hb : Below B w0 w) (hBg : B ≤ g) (u : List (Int × Int)) (hf : ∀ j, j < n * 2 → f j = rc u j) (hu : u.length = n)
    (hK : ∀ w', (∃ f', w'.rowIs g 54 (C * 2) f' ∧ ∀ j, j < (n + 1) * 2 → f' j = rc (u ++ [(y1, y2)]) j) → Below B w0 w' → wpList Try.prog ops Q rest (a.put o.dst (.slice (some ⟨g, 0, none⟩) (n + 1) C)) w') :
    wpList Try.prog ops Q (o :: rest) a w := by
  refine wpList_plain hg fun K hK' => ?_
  obtain ⟨i, hi, hz, hsz, _⟩ := info_parts Try.info54
  have hrun := run_append_room_cells (P := Try.prog) w 50 o.type 54 i Try.underlying50 hi g 0 n C ⟨k, 0, none⟩ 1 cx [.int .i64 y1, .int .i64 y2] (by rw [hsz]; rfl)
    (by
      intro j u hu
      match j, hu with
      | 0, hu => simp at hu; subst hu; simpa [Addr.add] using c1
      | 1, hu => simp at hu; subst hu; simpa [Addr.add] using c2)
    (by intro u hu; simp at hu; rcases hu with rfl | rfl <;> rfl) hroom
    (by
      intro j hj
      simp at hj
      rw [hsz, hrow.cell (by omega)]
      rfl)
    (by
      intro j _
      rw [hsz]
      exact hrow.frozen _)
  rw [hsz, Nat.zero_add] at hrun
  unfold Oper.wp
  simp [execOp, hop, resolve, invoke, builtin, hs, hx, hrun, Result.andThen]
  exact hK' _ _ (hK _ (row_app hrow hf hu (y1, y2)) ((hb.setCell hBg _).setCell hBg _))

/-- Is the next run the first list's? -/
def chooseB : List (Int × Int) → List (Int × Int) → Bool
  | _, [] => true
  | [], _ :: _ => false
  | r :: _, q :: _ => decide (r.1 ≤ q.1)

theorem choose_left {s t : List (Int × Int)} (h : chooseB s t = true) (hp : 0 < s.length ∨ 0 < t.length) : ∃ r s2, s = r :: s2 ∧ ∀ k, t.head? = some k → r.1 ≤ k.1 := by
  match s, t, h, hp with
  | [], [], _, hp => simp at hp
  | r :: s2, [], _, _ => exact ⟨r, s2, rfl, by simp⟩
  | r :: s2, q :: t2, h, _ =>
    refine ⟨r, s2, rfl, fun k hk => ?_⟩
    simp at hk
    subst hk
    exact of_decide_eq_true h
theorem choose_right {s t : List (Int × Int)} (h : chooseB s t = false) : ∃ r t2, t = r :: t2 ∧ ∀ k, s.head? = some k → r.1 ≤ k.1 := by
  match s, t, h with
  | [], q :: t2, _ => exact ⟨q, t2, rfl, by simp⟩
  | r :: s2, q :: t2, h =>
    refine ⟨q, t2, rfl, fun k hk => ?_⟩
    simp at hk
    subst hk
    have := of_decide_eq_false h
    omega

set_option maxRecDepth 100000 in
set_option maxHeartbeats 2000000 in
theorem union_loop (S T : List (Int × Int)) (a a' : Option Addr) (c c' : Nat) (w : World) (hS : S.length ≤ 131072) (hT : T.length ≤ 131072) (hS0 : 0 < S.length) (hT0 : 0 < T.length) (hc : S.length ≤ c) (hc' : T.length ≤ c') (wS : WF S) (wT : WF T) (rS : Runs w a S) (rT : Runs w a' T) :
    Calls Try.prog 22 #[.slice a S.length c, .slice a' T.length c'] w fun e w' => (∃ r cr U, e = .returned (.slice r U.length cr) ∧ Runs w' r U ∧ WF U ∧ (∀ x, Has U x ↔ (Has S x ∨ Has T x)) ∧ U.length ≤ S.length + T.length) ∧ Below w.heap.size w w' := by
  have hmk := fun w => run_make_room (S.length + T.length) (by omega) w
  have ec : (((S.length + T.length : Nat)) : Int) = (S.length : Int) + (T.length : Int) := by omega
  rw [ec] at hmk
  have t1 : ((S.length : Int) == 0) = false := by rw [beq_eq_false_iff_ne]; omega
  have t2 : ((T.length : Int) == 0) = false := by rw [beq_eq_false_iff_ne]; omega
  have hM0 := hide (Mg.start wS wT)
  clear ec
  go_enter Try.func22, Try.ntmps22
  go_wp2
  go_loopw [0, 1, 5] (fun v0 v1 v5 wr => ∃ s t u sp tp ns nt nu cs ct, v0 = .slice sp ns cs ∧ v1 = .slice tp nt ct ∧ v5 = .slice (some ⟨w.heap.size, 0, none⟩) nu (S.length + T.length) ∧ List.length s = ns ∧ List.length t = nt ∧ List.length u = nu ∧
      ns ≤ cs ∧ nt ≤ ct ∧ Runs w sp s ∧ Runs w tp t ∧ Mg S T s t u ∧ (∃ f, wr.rowIs w.heap.size 54 ((S.length + T.length) * 2) f ∧ ∀ j, j < nu * 2 → f j = rc u j) ∧ Below w.heap.size w wr) (fun v0 v1 _ _ => lenOf v0 + lenOf v1)
  case atStart => exact ⟨S, T, [], a, a', _, _, _, c, c', rfl, rfl, rfl, rfl, rfl, rfl, hc, hc', rS, rT, hM0.out, ⟨_, row_made2 w _, fun j hj => absurd hj (by simp)⟩, (Below.refl _ _).alloc (Nat.le_refl _) _⟩
  case round =>
    clear hmk hM0 rS rT hc hc' t1 t2
    obtain ⟨s, t, u, sp, tp, ns, nt, nu, cs, ct, rfl, rfl, rfl, hs, ht, hu, hcs, hct, rs, rt, hM, hrow, hbel⟩ := hrel
    have hul := hM.len
    rw [hs, ht, hu] at hul
    have Hs := hide hs
    have Ht := hide ht
    have Hu := hide hu
    have HM := hide hM
    clear hM hs ht hu
    by_cases hend : ns = 0 ∧ nt = 0
    · obtain ⟨rfl, rfl⟩ := hend
      have hfin := HM.out
      obtain rfl := List.eq_nil_of_length_eq_zero Hs.out
      obtain rfl := List.eq_nil_of_length_eq_zero Ht.out
      obtain ⟨d1, d2, d3⟩ := hfin.done
      have HD := hide (And.intro d1 (And.intro d2 d3))
      clear hfin d1 d2 d3 rs rt HM
      obtain ⟨f, hrow, hf⟩ := hrow
      have hR : Runs wr (some ⟨w.heap.size, 0, none⟩) u := fun _ => ⟨_, _, rfl, fun j hj => by rw [Nat.zero_add, hrow.cell (by rw [Hu.out] at hj; omega), hf j (by rw [← Hu.out]; exact hj)]⟩
      have hRh := hide hR
      clear hR hf hrow
      go_wp2
      go_ret
      exact ⟨⟨_, _, u, by rw [Hu.out]; rfl, hRh.out, HD.out.1, HD.out.2.1, HD.out.2.2⟩, hbel⟩
    · have hpos : 0 < ns ∨ 0 < nt := by omega
      clear hend
      have HP := hide hpos
      clear hpos
      go_upto_region 6 with fail
      go_cut [29] (fun v w' => v = .bool true ∧ w' = wr)
      case first =>
        by_cases h0 : (0 : Int) < (ns : Int)
        · go_wp2
          go_meet
          case rel => exact ⟨rfl, rfl⟩
        · have h1 : (0 : Int) < (nt : Int) := by have := HP.out; omega
          obtain rfl : ns = 0 := by omega
          go_wp2
          go_meet
          case rel => exact ⟨by simp; omega, rfl⟩
      case rest =>
        obtain ⟨rfl, rfl⟩ := hcut
        obtain ⟨nb, Hnb⟩ : ∃ nb, Hid (wc.heap.size = nb) := ⟨_, rfl⟩
        have hW : Wd w (S.length + T.length) u nb 0 0 (wc.alloc (.cells #[.int .i64 0, .int .i64 0] 54)) := by
          obtain ⟨f, hr, hf⟩ := hrow
          refine ⟨⟨f, hr.alloc _, fun j hj => hf j (by rw [← Hu.out]; exact hj)⟩, ?_, by rw [← Hnb.out]; exact hr.lt, hbel.alloc (by have := hr.lt; omega) _⟩
          rw [← Hnb.out]
          exact World.rowIs_alloc wc _ 54 _ (fun i hi => by
            match i, hi with
            | 0, _ => rfl
            | 1, _ => rfl)
        obtain ⟨ch, Hch⟩ : ∃ b, Hid (chooseB s t = b) := ⟨_, rfl⟩
        clear hrow hbel
        go_upto_region 8 with fail
        go_cut [6, 48] (fun v6 v w' => v6 = .pointer (some ⟨nb, 0, none⟩) ∧ v = .bool ch ∧ Wd w (S.length + T.length) u nb 0 0 w')
        case first =>
          have hWb := hW.below
          have HW := hide hW
          clear hW
          match s, t, Hs, Ht, Hch, rs, rt with
          | _, [], Hs, Ht, Hch, rs, rt =>
            obtain rfl : nt = 0 := Ht.out.symm
            obtain rfl : ch = true := Hch.out.symm
            go_quiet (fail)
            go_wp2
            go_meet
            case rel => exact ⟨by rw [Hnb.out], rfl, HW.out.drewN _⟩
          | [], q :: t2, Hs, Ht, Hch, rs, rt =>
            obtain rfl : ns = 0 := Hs.out.symm
            obtain rfl : ch = false := Hch.out.symm
            have g1 : ((nt : Int) == 0) = false := by rw [beq_eq_false_iff_ne]; have := Ht.out; simp at this; omega
            have g2 : decide ((0 : Int) < ((0 : Nat) : Int)) = false := by decide
            go_quiet (fail)
            go_wp2
            go_meet
            case rel => exact ⟨by rw [Hnb.out], rfl, HW.out.drewN _⟩
          | r :: s2, q :: t2, Hs, Ht, Hch, rs, rt =>
            have g1 : ((nt : Int) == 0) = false := by rw [beq_eq_false_iff_ne]; have := Ht.out; simp at this; omega
            have g2 : (0 : Int) < (ns : Int) := by have := Hs.out; simp at this; omega
            have g3 : (0 : Int) < (nt : Int) := by have := Ht.out; simp at this; omega
            have g4 : 0 < ns := by omega
            obtain ⟨b, o, e, k1, k2⟩ := rs.head
            cases e
            obtain ⟨b', o', e, k1', k2'⟩ := rt.head
            cases e
            have l1 : (wc.alloc (.cells #[.int .i64 0, .int .i64 0] 54)).cell? ⟨b, o, none⟩ = some (.int .i64 r.1) := (hWb.cell (World.block_lt_of_cell? _ _ k1)).trans k1
            have l2 : (wc.alloc (.cells #[.int .i64 0, .int .i64 0] 54)).cell? ⟨b', o', none⟩ = some (.int .i64 q.1) := (hWb.cell (World.block_lt_of_cell? _ _ k1')).trans k1'
            have Hch' : Hid (decide (r.1 ≤ q.1) = ch) := Hch.out
            clear k1 k2 k1' k2' rs rt hWb Hch
            go_quiet (fail)
            go_wp2
            go_meet
            case rel => exact ⟨by rw [Hnb.out], by rw [Hch'.out], HW.out.drewN _⟩
        case rest =>
          clear hW
          obtain ⟨rfl, rfl, hW⟩ := hcut
          go_upto_if 48 with fail
          go_cut [0, 1] (fun v0 v1 w' => ∃ r s2 t2 sp2 tp2 ns2 nt2 cs2 ct2, v0 = .slice sp2 ns2 cs2 ∧ v1 = .slice tp2 nt2 ct2 ∧ List.length s2 = ns2 ∧ List.length t2 = nt2 ∧ ns2 ≤ cs2 ∧ nt2 ≤ ct2 ∧ Runs w sp2 s2 ∧ Runs w tp2 t2 ∧ Nx S T s t u r s2 t2 ∧ Wd w (S.length + T.length) u nb r.1 r.2 w')
          case first =>
            have d1 : wc.cell? ⟨nb, 0, none⟩ = some (.int .i64 0) := hW.next.cell (by omega)
            have d2 : wc.cell? ⟨nb, 1, none⟩ = some (.int .i64 0) := hW.next.cell (by omega)
            have f1 := hW.next.frozen 0
            have f2 := hW.next.frozen 1
            have hWb := hW.below
            have HW := hide hW
            clear hW
            cases ch with
            | true =>
              obtain ⟨r, s2, rfl, hmin⟩ := choose_left Hch.out (by rw [Hs.out, Ht.out]; exact HP.out)
              have HN := hide (Nx.left HM.out hmin)
              obtain ⟨b, o, e, k1, k2⟩ := rs.head
              cases e
              have l1 : wc.cell? ⟨b, o, none⟩ = some (.int .i64 r.1) := (hWb.cell (World.block_lt_of_cell? _ _ k1)).trans k1
              have l2 : wc.cell? ⟨b, o + 1, none⟩ = some (.int .i64 r.2) := (hWb.cell (World.block_lt_of_cell? _ _ k2)).trans k2
              have g2 : (0 : Int) < (ns : Int) := by have := Hs.out; simp at this; omega
              have g3 : (1 : Int) ≤ (ns : Int) := by omega
              have HR := hide rs
              have HR' := hide rt
              clear k1 k2 hmin rs rt hWb
              have hls : s2.length + 1 = ns := by have := Hs.out; simpa using this
              have Hls := hide hls
              clear hls
              by_cases hcs1 : cs = 1
              · subst hcs1
                go_wp2
                go_region
                all_goals (go_simp; go_wp2)
                all_goals
                  go_meet
                  case rel => exact ⟨r, s2, t, _, _, _, _, _, _, rfl, rfl, by have := Hls.out; omega, Ht.out, Nat.le_refl _, hct, HR.out.tail (c := 1) (by have := Hls.out; omega) _ (fun h => absurd rfl h), HR'.out, HN.out, HW.out.set _ _⟩
              · go_wp2
                go_region
                all_goals (go_simp; go_wp2)
                all_goals
                  go_meet
                  case rel => exact ⟨r, s2, t, _, _, _, _, _, _, rfl, rfl, by have := Hls.out; omega, Ht.out, by omega, hct, HR.out.tail (c := cs) (by have := Hls.out; omega) _ (fun _ => rfl), HR'.out, HN.out, HW.out.set _ _⟩
            | false =>
              obtain ⟨r, t2, rfl, hmin⟩ := choose_right Hch.out
              have HN := hide (Nx.right HM.out hmin)
              obtain ⟨b, o, e, k1, k2⟩ := rt.head
              cases e
              have l1 : wc.cell? ⟨b, o, none⟩ = some (.int .i64 r.1) := (hWb.cell (World.block_lt_of_cell? _ _ k1)).trans k1
              have l2 : wc.cell? ⟨b, o + 1, none⟩ = some (.int .i64 r.2) := (hWb.cell (World.block_lt_of_cell? _ _ k2)).trans k2
              have g2 : (0 : Int) < (nt : Int) := by have := Ht.out; simp at this; omega
              have g3 : (1 : Int) ≤ (nt : Int) := by omega
              have HR := hide rs
              have HR' := hide rt
              clear k1 k2 hmin rs rt hWb
              have hls : t2.length + 1 = nt := by have := Ht.out; simpa using this
              have Hls := hide hls
              clear hls
              by_cases hcs1 : ct = 1
              · subst hcs1
                go_wp2
                go_region
                all_goals (go_simp; go_wp2)
                all_goals
                  go_meet
                  case rel => exact ⟨r, s, t2, _, _, _, _, _, _, rfl, rfl, Hs.out, by have := Hls.out; omega, hcs, Nat.le_refl _, HR.out, HR'.out.tail (c := 1) (by have := Hls.out; omega) _ (fun h => absurd rfl h), HN.out, HW.out.set _ _⟩
              · go_wp2
                go_region
                all_goals (go_simp; go_wp2)
                all_goals
                  go_meet
                  case rel => exact ⟨r, s, t2, _, _, _, _, _, _, rfl, rfl, Hs.out, by have := Hls.out; omega, hcs, by omega, HR.out, HR'.out.tail (c := ct) (by have := Hls.out; omega) _ (fun _ => rfl), HN.out, HW.out.set _ _⟩
          case rest =>
            clear hW rs rt
            obtain ⟨r, s2, t2, sp2, tp2, ns2, nt2, cs2, ct2, rfl, rfl, hs2, ht2, hcs2, hct2, rs2, rt2, hN, hW⟩ := hcut
            have hlen := hN.len
            rw [hs2, ht2, Hs.out, Ht.out] at hlen
            have Hs2 := hide hs2
            have Ht2 := hide ht2
            have HN := hide hN
            have RS := hide rs2
            have RT := hide rt2
            clear hs2 ht2 hN rs2 rt2 Hs Ht HM Hch HP
            obtain ⟨f, hr, hf⟩ := hW.row
            have hnx := hW.next
            have hbel := hW.below
            have hgt := hW.gt
            have n1 : wc.cell? ⟨nb, 0, none⟩ = some (.int .i64 r.1) := hnx.cell (by omega)
            have n2 : wc.cell? ⟨nb, 1, none⟩ = some (.int .i64 r.2) := hnx.cell (by omega)
            have hnb := hnx.lt
            have hsz : w.heap.size ≤ wc.heap.size := by omega
            clear hW hnx
            rcases nil_or_snoc u with rfl | ⟨v, p, q, hv⟩
            · obtain rfl : nu = 0 := Hu.out.symm
              have hM' := hide (HN.out.app (by simp))
              have hd : decide ((0 : Int) ≤ -1) = false := by decide
              have hroom : 0 < S.length + T.length := by omega
              clear hf
              go_wp2
              go_quiet (fail)
              go_wp2_with (at_builtin; refine wpList_append_run _ rfl (.tmp 86) (.tmp 88) rfl w.heap.size 0 (S.length + T.length) f rfl (rowIs_push hr _ rfl) wc.heap.size 1 rfl r.1 r.2 (cell_push #[.int .i64 r.1, .int .i64 r.2] 54 rfl 0 _ rfl) (cell_push #[.int .i64 r.1, .int .i64 r.2] 54 rfl 1 _ rfl) hroom w.heap.size w (below_push hbel hsz _ rfl rfl rfl rfl) (Nat.le_refl _) [] (fun j hj => absurd hj (by omega)) rfl ?_; intro w2 hrow' hbel')
              clear hbel hr
              go_wp2
              go_roundw
              case rel => exact ⟨s2, t2, [] ++ [r], _, _, _, _, _, _, _, rfl, rfl, rfl, Hs2.out, Ht2.out, rfl, hcs2, hct2, RS.out, RT.out, hM'.out, hrow', hbel'⟩
              case measure => simp [lenOf]; omega
            · obtain ⟨nk, rfl⟩ : ∃ nk, nu = nk + 1 := ⟨nu - 1, by have := Hu.out; rw [hv] at this; simp at this; omega⟩
              have hvl : v.length = nk := by have := Hu.out; rw [hv] at this; simpa using this
              have hk1 : wc.cell? ⟨w.heap.size, nk * 2 + 1, none⟩ = some (.int .i64 q) := by
                rw [hr.cell (by omega), hf _ (by rw [Hu.out]; omega), rc_odd, hv, List.getD_eq_getElem?_getD, List.getElem?_append_right (by omega)]
                simp [hvl]
              have i1 : (0 : Int) ≤ (nk : Int) := by omega
              have i2 : (nk : Int) < ((nk + 1 : Nat) : Int) := by omega
              have i3 : (nk : Int) < (nk : Int) + 1 := by omega
              have Hv := hide hv
              have Hvl := hide hvl
              have hf' : ∀ j, j < (nk + 1) * 2 → f j = rc (v ++ [(p, q)]) j := fun j hj => by rw [← hv]; exact hf j (by rw [Hu.out]; exact hj)
              clear hv hvl
              by_cases htouch : r.1 ≤ q
              · have fk := hr.frozen (nk * 2 + 1)
                have hM' := hide (HN.out.join v p q Hv.out htouch)
                by_cases hmx : q < r.2
                · have hrow' := hide (row_join hr hf' Hvl.out r.2)
                  have hbel' := hide (hbel.setCell (p := ⟨w.heap.size, nk * 2 + 1, none⟩) (Nat.le_refl _) (.int .i64 r.2))
                  have HF := hide (show max q r.2 = r.2 by omega)
                  clear hf hf' hbel
                  go_wp2
                  go_quiet (fail)
                  go_wp2
                  go_region
                  all_goals (go_simp; go_wp2)
                  all_goals
                    go_roundw
                    case rel => exact ⟨s2, t2, v ++ [(p, r.2)], _, _, _, _, _, _, _, rfl, rfl, rfl, Hs2.out, Ht2.out, by simp [Hvl.out], hcs2, hct2, RS.out, RT.out, by have := hM'.out; rw [HF.out] at this; exact this, hrow'.out, Below.drewN' hbel'.out _⟩
                    case measure => simp [lenOf]; omega
                · have hrow' := hide (row_join hr hf' Hvl.out q)
                  have hbel' := hide (hbel.setCell (p := ⟨w.heap.size, nk * 2 + 1, none⟩) (Nat.le_refl _) (.int .i64 q))
                  have HF := hide (show max q r.2 = q by omega)
                  clear hf hf' hbel
                  go_wp2
                  go_quiet (fail)
                  go_wp2
                  go_region
                  all_goals (go_simp; go_wp2)
                  all_goals
                    go_roundw
                    case rel => exact ⟨s2, t2, v ++ [(p, q)], _, _, _, _, _, _, _, rfl, rfl, rfl, Hs2.out, Ht2.out, by simp [Hvl.out], hcs2, hct2, RS.out, RT.out, by have := hM'.out; rw [HF.out] at this; exact this, hrow'.out, Below.drewN' hbel'.out _⟩
                    case measure => simp [lenOf]; omega
              · have hM' := hide (HN.out.app (fun pp hpp => by rw [Hv.out] at hpp; simp at hpp; subst hpp; simp; omega))
                have hroom : nk + 1 < S.length + T.length := by omega
                have hf2 := hide hf'
                have hvl2 : Hid ((v ++ [(p, q)]).length = nk + 1) := by show _ = _; simp [Hvl.out]
                clear hf hf'
                go_wp2
                go_quiet (fail)
                go_wp2_with (at_builtin; refine wpList_append_run _ rfl (.tmp 86) (.tmp 88) rfl w.heap.size (nk + 1) (S.length + T.length) f rfl (rowIs_push hr _ rfl) wc.heap.size 1 rfl r.1 r.2 (cell_push #[.int .i64 r.1, .int .i64 r.2] 54 rfl 0 _ rfl) (cell_push #[.int .i64 r.1, .int .i64 r.2] 54 rfl 1 _ rfl) hroom w.heap.size w (below_push hbel hsz _ rfl rfl rfl rfl) (Nat.le_refl _) (v ++ [(p, q)]) hf2.out hvl2.out ?_; intro w2 hrow' hbel')
                clear hbel hr
                go_wp2
                go_roundw
                case rel => exact ⟨s2, t2, v ++ [(p, q)] ++ [r], _, _, _, _, _, _, _, rfl, rfl, rfl, Hs2.out, Ht2.out, by simp [Hvl.out], hcs2, hct2, RS.out, RT.out, by have := hM'.out; rw [Hv.out] at this; exact this, hrow', hbel'⟩
                case measure => simp [lenOf]; omega

set_option maxHeartbeats 1000000 in
theorem union_any (S T : List (Int × Int)) (a a' : Option Addr) (c c' : Nat) (w : World) (hS : S.length ≤ 131072) (hT : T.length ≤ 131072) (hc : S.length ≤ c) (hc' : T.length ≤ c') (wS : WF S) (wT : WF T) (rS : Runs w a S) (rT : Runs w a' T) :
    Calls Try.prog 22 #[.slice a S.length c, .slice a' T.length c'] w fun e w' => (∃ r cr U, e = .returned (.slice r U.length cr) ∧ Runs w' r U ∧ WF U ∧ (∀ x, Has U x ↔ (Has S x ∨ Has T x)) ∧ U.length ≤ S.length + T.length) ∧ Below w.heap.size w w' := by
  rcases Nat.eq_zero_or_pos T.length with hT0 | hT0
  · obtain rfl := List.eq_nil_of_length_eq_zero hT0
    go_enter Try.func22, Try.ntmps22
    go_wp2
    go_ret
    exact ⟨⟨a, c, S, rfl, rS, wS, fun x => by simp [Has_nil], by simp⟩, Below.refl _ _⟩
  · rcases Nat.eq_zero_or_pos S.length with hS0 | hS0
    · obtain rfl := List.eq_nil_of_length_eq_zero hS0
      have t2 : ((T.length : Int) == 0) = false := by rw [beq_eq_false_iff_ne]; omega
      go_enter Try.func22, Try.ntmps22
      go_wp2
      go_ret
      exact ⟨⟨a', c', T, rfl, rT, wT, fun x => by simp [Has_nil], by simp⟩, Below.refl _ _⟩
    · exact union_loop S T a a' c c' w hS hT hS0 hT0 hc hc' wS wT rS rT

end Go.Proofs.Qxb6604083a
