/-
  'b1Ancestors'.
-/
import Derived.Test.Qxb6604114aAncPlain
import Derived.Test.Qxb6604114aState
namespace Go.Proofs.Qxb6604114a
open Go.RowKit
set_option linter.unusedVariables false

theorem run_make_ints0 (n : Nat) (hn : n ≤ 1048576) (w : World) :
    (Instr.makeSlice 30 (.int .i64 0) (.int .i64 (n : Int))).run Try.prog w = .ok (.slice (some ⟨w.heap.size, 0, none⟩) 0 n) (w.alloc (.cells (madeCells #[.int .i64 0] n) 3)) := by
  obtain ⟨i, hi, hz, hs, hb⟩ := info_parts Try.info3
  have hr := run_make (P := Try.prog) w 30 3 i _ Try.underlying30 hi hz .i64 .i64 0 n (by omega) (by omega) (by rw [hb]; omega) (by omega)
  simp only [Int.toNat_natCast, hs, Value.cells, Nat.mul_one] at hr
  exact hr

def lenOf : Value → Nat
  | .slice _ n _ => n
  | _ => 0

theorem rowIs_push {w w' : World} {g N : Nat} {t : TypeId} {f : Nat → Value} (h : w.rowIs g t N f) (o : Obj) (e : w'.heap = w.heap.push o) : w'.rowIs g t N f := (h.alloc o).of_block (by rw [e]; rfl)
theorem cell_push {w w' : World} (cs : Array Value) (t : TypeId) (e : w'.heap = w.heap.push (.cells cs t)) (j : Nat) (v : Value) (h : cs[j]? = some v) : w'.cell? ⟨w.heap.size, j, none⟩ = some v := by
  rw [World.cell?_of_block (w := w.alloc (.cells cs t)) (by rw [e]; rfl), World.cell?_alloc_new]
  exact h
theorem cell_push2 {w w' : World} {m : Nat} (cs : Array Value) (t : TypeId) (e : w'.heap = w.heap.push (.cells cs t)) (hm : w.heap.size = m) (j : Nat) (v : Value) (h : cs[j]? = some v) : w'.cell? ⟨m, j, none⟩ = some v := by
  rw [← hm]; exact cell_push cs t e j v h
theorem below_push {B : Nat} {a w w' : World} (h : Below B a w) (hB : B ≤ w.heap.size) (o : Obj) (e : w'.heap = w.heap.push o) (e1 : w'.os = w.os) (e2 : w'.tape = w.tape) (e3 : w'.output = w.output) : Below B a w' := by
  have hk := h.alloc hB o
  exact ⟨e1.trans hk.os, e2.trans hk.tape, e3.trans hk.output, by rw [e]; exact hk.size, fun k hk' => by rw [e]; exact hk.block k hk'⟩

/-- 'append' OF ONE NUMBER WHERE THERE IS ROOM. -/
theorem wpList_append_int (w : World) {ops : Array Oper} {rest : List Oper} {o : Oper} {a : Act} {Q : Exit → Act → World → Prop}
    (hg : o.guard = none) (s x : Operand) (hop : o.op = Op.call { callee := Callee.builtin Builtin.append, args := #[s, x], argTypes := #[30, 30] })
    (g n C : Nat) (f : Nat → Value) (hs : a.eval s = .slice (some ⟨g, 0, none⟩) n C) (hrow : w.rowIs g 3 C f) (k cx : Nat) (hx : a.eval x = .slice (some ⟨k, 0, none⟩) 1 cx) (y : Int)
    (c1 : w.cell? ⟨k, 0, none⟩ = some (.int .i64 y)) (hroom : n < C)
    (hK : ∀ w', Hid (w' = w.setCell ⟨g, n, none⟩ (.int .i64 y)) → wpList Try.prog ops Q rest (a.put o.dst (.slice (some ⟨g, 0, none⟩) (n + 1) C)) w') :
    wpList Try.prog ops Q (o :: rest) a w := by
  refine wpList_plain hg fun K hK' => ?_
  obtain ⟨i, hi, hz, hsz, _⟩ := info_parts Try.info3
  have hrun := run_append_room_cells (P := Try.prog) w 30 o.type 3 i Try.underlying30 hi g 0 n C ⟨k, 0, none⟩ 1 cx [.int .i64 y] (by rw [hsz]; rfl)
    (by
      intro j u hu
      match j, hu with
      | 0, hu => simp at hu; subst hu; simpa [Addr.add] using c1)
    (by intro u hu; simp at hu; subst hu; rfl) hroom
    (by
      intro j hj
      simp at hj
      rw [hsz, hrow.cell (by omega)]
      rfl)
    (by
      intro j _
      rw [hsz]
      exact hrow.frozen _)
  rw [hsz, Nat.zero_add, Nat.mul_one] at hrun
  unfold Oper.wp
  simp [execOp, hop, resolve, invoke, builtin, hs, hx, hrun, Result.andThen]
  exact hK' _ _ (hK _ rfl)

/-- THE WORLD WHILE THE ORDER IS MADE: 'done' and 'order' in the call's first two blocks. -/
structure WB (w : World) (n : Nat) (dn : Nat → Bool) (o : Nat → Nat) (l : Nat) (wr : World) : Prop where
  done : wr.rowIs w.heap.size 4 n (fun i => .bool (dn i))
  ord : ∃ f, wr.rowIs (w.heap.size + 1) 3 n f ∧ ∀ i, i < l → f i = .int .i64 (o i : Int)
  size : w.heap.size + 2 ≤ wr.heap.size
  below : Below w.heap.size w wr
theorem WB.start (w : World) (n : Nat) : WB w n (fun _ => false) (fun _ => 0) 0 ((w.alloc (.cells (madeCells #[.bool false] n) 4)).alloc (.cells (madeCells #[.int .i64 0] n) 3)) := by
  refine ⟨(World.rowIs_made w _ n 4).alloc _, ?_, by simp, ((Below.refl _ _).alloc (Nat.le_refl _) _).alloc (by simp) _⟩
  have := World.rowIs_made (w.alloc (.cells (madeCells #[.bool false] n) 4)) (.int .i64 0) n 3
  exact ⟨_, by simpa using this, fun i hi => absurd hi (by omega)⟩
theorem WB.add {w wr : World} {n : Nat} {dn : Nat → Bool} {o : Nat → Nat} {l : Nat} (h : WB w n dn o l wr) (k l' : Nat) (hl : l = l') (hroom : l' < n) (ob : Obj) :
    WB w n (upd dn k true) (upd o l' k) (l' + 1) (((wr.setCell ⟨w.heap.size, k, none⟩ (.bool true)).alloc ob).setCell ⟨w.heap.size + 1, l', none⟩ (.int .i64 (k : Int))) := by
  subst hl
  obtain ⟨f, hr, hf⟩ := h.ord
  have hsz := h.size
  refine ⟨?_, ?_, by simp; omega, ?_⟩
  · refine ((((h.done.set k (.bool true)).alloc ob).setOther (by simp) _).congr fun j _ => ?_)
    unfold upd; split <;> rfl
  · refine ⟨_, ((hr.setOther (a := ⟨w.heap.size, k, none⟩) (by simp) (.bool true)).alloc ob).set l (.int .i64 (k : Int)), fun i hi => ?_⟩
    by_cases q : i = l
    · subst q; simp [upd]
    · rw [upd_other _ _ _ q, ← hf i (by omega)]; simp [q]
  · exact ((h.below.setCell (Nat.le_refl _) _).alloc (by simp; omega) ob).setCell (by simp) _

def mf (n : Nat) (M : Nat → Nat → Bool) (j : Nat) : Value := .bool (M (j / n) (j % n))
/-- THE WORLD WHILE THE CLOSURE IS MADE: the matrix and the counts in the next two blocks. -/
structure WC (wB : World) (n N : Nat) (M : Nat → Nat → Bool) (C : Nat → Nat) (wr : World) : Prop where
  mat : wr.rowIs wB.heap.size 4 N (mf n M)
  cts : wr.rowIs (wB.heap.size + 1) 3 n (fun i => .int .i64 (C i : Int))
  below : Below wB.heap.size wB wr
theorem WC.start (w : World) (n N : Nat) : WC w n N (fun _ _ => false) (fun _ => 0) ((w.alloc (.cells (madeCells #[.bool false] N) 4)).alloc (.cells (madeCells #[.int .i64 0] n) 3)) := by
  refine ⟨((World.rowIs_made w (.bool false) N 4).congr (fun _ _ => rfl)).alloc _, ?_, ((Below.refl _ _).alloc (Nat.le_refl _) _).alloc (by simp) _⟩
  have := (World.rowIs_made (w.alloc (.cells (madeCells #[.bool false] N) 4)) (.int .i64 0) n 3).congr (g := fun _ => .int .i64 ((0 : Nat) : Int)) (fun _ _ => rfl)
  simpa using this
theorem WC.cell {wB wr : World} {n N : Nat} {M : Nat → Nat → Bool} {C : Nat → Nat} (h : WC wB n N M C wr) (hn : 0 < n) {v a : Nat} (hv : v < n) (ha : a < n) (hN : n * n = N) : wr.cell? ⟨wB.heap.size, v * n + a, none⟩ = some (.bool (M v a)) := by
  have hb := mat_bound hN hv
  rw [h.mat.cell (by omega)]
  obtain ⟨h1, h2⟩ := (place_iff (v := v) (a := a) (j := v * n + a) hn ha).1 rfl
  unfold mf; rw [h1, h2]
theorem WC.congr {wB wr : World} {n N : Nat} {M M' : Nat → Nat → Bool} {C : Nat → Nat} (h : WC wB n N M C wr) (hn : 0 < n) (e : ∀ u b, u < N → b < n → M' u b = M u b) : WC wB n N M' C wr :=
  ⟨h.mat.congr (fun j hj => by unfold mf; rw [e _ _ (Nat.lt_of_le_of_lt (Nat.div_le_self _ _) hj) (Nat.mod_lt _ hn)]), h.cts, h.below⟩
theorem WC.setM {wB wr : World} {n N : Nat} {M M' : Nat → Nat → Bool} {C : Nat → Nat} (h : WC wB n N M C wr) (hn : 0 < n) (hN : n * n = N) {v a : Nat} (hv : v < n) (ha : a < n) (e : ∀ u b, b < n → M' u b = if u = v ∧ b = a then true else M u b) : WC wB n N M' C (wr.setCell ⟨wB.heap.size, v * n + a, none⟩ (.bool true)) := by
  refine ⟨(h.mat.set (v * n + a) (.bool true)).congr (fun j hj => ?_), h.cts.setOther (by simp) _, h.below.setCell (Nat.le_refl _) _⟩
  have hp := place_iff (v := v) (a := a) (j := j) hn ha
  unfold mf
  rw [e _ _ (Nat.mod_lt _ hn)]
  by_cases q : j = v * n + a
  · rw [if_pos q, if_pos (hp.1 q)]
  · rw [if_neg q, if_neg (fun x => q (hp.2 x))]
theorem WC.setC {wB wr : World} {n N : Nat} {M : Nat → Nat → Bool} {C : Nat → Nat} (h : WC wB n N M C wr) (v c : Nat) : WC wB n N M (upd C v c) (wr.setCell ⟨wB.heap.size + 1, v, none⟩ (.int .i64 (c : Int))) := by
  refine ⟨h.mat.setOther (by simp) _, (h.cts.set v (.int .i64 (c : Int))).congr (fun j _ => ?_), h.below.setCell (by simp) _⟩
  unfold upd; split <;> rfl

/-- What 'b1Ancestors' answers. -/
def AncPost (n N : Nat) (L : Nat → Nat) (E : Nat → Nat → Int) (w : World) (ed : Ending) (w' : World) : Prop :=
  ((ed = .returned (.tuple #[.bool false, .slice none 0 0, .slice none 0 0])) ∨
    ∃ (A : Nat → Nat → Bool) (C : Nat → Nat) (rk : Nat → Nat) (e : Nat → Nat → Nat) (ga gc : Nat), ed = .returned (.tuple #[.bool true, .slice (some ⟨ga, 0, none⟩) N N, .slice (some ⟨gc, 0, none⟩) n n]) ∧ Mat w' (some ⟨ga, 0, none⟩) n A ∧ Ints w' (some ⟨gc, 0, none⟩) n (fun i => (C i : Int)) ∧
      (∀ i, i < n → C i = cnt n A i) ∧ Ctl n L e A rk ∧ ∀ i j, i < n → j < L i → E i j = (e i j : Int) ∧ e i j < n) ∧ Below w.heap.size w w'
theorem AncPost.no {n N : Nat} {L : Nat → Nat} {E : Nat → Nat → Int} {w w' : World} {ed : Ending} (h : ed = .returned (.tuple #[.bool false, .slice none 0 0, .slice none 0 0])) (hb : Below w.heap.size w w') : AncPost n N L E w ed w' := ⟨.inl h, hb⟩

set_option maxRecDepth 100000 in
set_option maxHeartbeats 8000000 in
theorem anc_any (n N c0 : Nat) (a0 : Option Addr) (L : Nat → Nat) (E : Nat → Nat → Int) (hn : n ≤ 256) (h1n : 0 < n) (hN : n * n = N) (hN2 : N ≤ 65536) (hL : ∀ i, i < n → L i ≤ 1048576) (w : World) (hR : Rows2 w a0 n L E) :
    Calls Try.prog 18 #[.slice a0 n c0] w fun ed w' => AncPost n N L E w ed w' := by
  obtain ⟨b0, o0, rfl, r0⟩ := hR h1n
  have H0 := hide r0
  have HL := hide hL
  have HN := hide hN
  clear hR r0 hL hN
  go_enter Try.func18, Try.ntmps18
  go_wp2
  go_loop [6] (fun i => ∃ v : Nat, v ≤ n ∧ i = .int .i64 v ∧ ∀ u, u < v → ∀ j, j < L u → 0 ≤ E u j ∧ E u j < n) (fun i => n - (intOf i).toNat)
  case atStart => exact ⟨0, Nat.zero_le _, rfl, fun u hu => absurd hu (by omega)⟩
  case round =>
    obtain ⟨v, hv, rfl, hq⟩ := hrel
    have HQ := hide hq
    clear hq
    by_cases hlt : v < n
    · obtain ⟨ai, ci, g0, gI, _⟩ := H0.out v hlt
      have hLv := HL.out v hlt
      have GI := hide gI
      clear gI
      go_wp2
      go_loop [8] (fun i => ∃ j : Nat, j ≤ L v ∧ i = .int .i64 j ∧ ∀ j', j' < j → 0 ≤ E v j' ∧ E v j' < n) (fun i => L v - (intOf i).toNat)
      case atStart => exact ⟨0, Nat.zero_le _, rfl, fun u hu => absurd hu (by omega)⟩
      case round =>
        obtain ⟨j, hj, rfl, hq2⟩ := hrel
        have HQ2 := hide hq2
        clear hq2
        by_cases hlt2 : j < L v
        · obtain ⟨b', o', q, hc'⟩ := GI.out (by omega)
          cases q
          have g1 := hc' j hlt2
          clear hc'
          by_cases e1 : E v j < 0
          · go_wp2
            go_ret3
            exact AncPost.no rfl (Below.refl _ _)
          · by_cases e2 : (n : Int) ≤ E v j
            · go_wp2
              go_ret3
              exact AncPost.no rfl (Below.refl _ _)
            · have R : Hid (∀ j', j' < j + 1 → 0 ≤ E v j' ∧ E v j' < n) := fun j' hj' => by
                by_cases q : j' = j
                · subst q; exact ⟨by omega, by omega⟩
                · exact HQ2.out j' (by omega)
              go_wp2
              go_round
              case rel => exact ⟨j + 1, by omega, by go_num, R.out⟩
              case measure => simp [intOf]; omega
        · have R : Hid (∀ u, u < v + 1 → ∀ j, j < L u → 0 ≤ E u j ∧ E u j < n) := fun u hu j' hj' => by
            by_cases q : u = v
            · subst q; exact HQ2.out j' (by omega)
            · exact HQ.out u (by omega) j' hj'
          go_wp2
          go_round
          case rel => exact ⟨v + 1, by omega, by go_num, R.out⟩
          case measure => simp [intOf]; omega
    · have hE : ∀ i j, i < n → j < L i → E i j = ((E i j).toNat : Int) ∧ (E i j).toNat < n := fun i j hi hj => by
        have := HQ.out i (by omega) j hj
        exact ⟨by omega, by omega⟩
      obtain ⟨e, HE⟩ : ∃ e : Nat → Nat → Nat, Hid (∀ i j, i < n → j < L i → E i j = (e i j : Int) ∧ e i j < n) := ⟨_, hE⟩
      have H1 : Hid (∀ i, i < n → ∃ ai ci, w.cell? ⟨b0, o0 + i, none⟩ = some (.slice ai (L i) ci) ∧ Ints w ai (L i) (fun j => (e i j : Int))) := fun i hi => by
        obtain ⟨ai, ci, h1, h2, _⟩ := H0.out i hi
        exact ⟨ai, ci, h1, h2.congr (fun j hj => by rw [(HE.out i j hi hj).1])⟩
      have HEn : Hid (∀ i j, i < n → j < L i → e i j < n) := fun i j hi hj => (HE.out i j hi hj).2
      have hmk1 := fun w => run_make_row' (P := Try.prog) 29 4 (.bool false) 1 Try.underlying29 Try.info4 rfl .i64 .i64 n (by omega) (by omega) w
      have hmk2 := fun w => run_make_ints0 n (by omega) w
      clear hE HQ H0
      go_wp2
      go_loopw [10] (fun v10 wr => ∃ (l : Nat) (dn : Nat → Bool) (rk o : Nat → Nat), v10 = .slice (some ⟨w.heap.size + 1, 0, none⟩) l n ∧ l ≤ n ∧ Ord n L e dn rk o l ∧ WB w n dn o l wr) (fun v10 _ => n - lenOf v10)
      case atStart => exact ⟨0, _, _, _, rfl, Nat.zero_le _, Ord.start, WB.start w n⟩
      case round =>
        clear hmk1 hmk2
        obtain ⟨l, dn0, rk0, o1, rfl, hl, hO0, hW0⟩ := hrel
        have HO0 := hide hO0
        have HW0 := hide hW0
        clear hO0 hW0
        by_cases hln : l < n
        · obtain ⟨wo, rfl⟩ : ∃ wo : World, wo = wr := ⟨_, rfl⟩
          go_wp2
          go_loopw [10, 11, 12] (fun v10 v11 v12 wr => ∃ (k l' : Nat) (dn : Nat → Bool) (rk o : Nat → Nat) (pb : Bool), v12 = .int .i64 k ∧ v11 = .bool pb ∧ v10 = .slice (some ⟨w.heap.size + 1, 0, none⟩) l' n ∧ k ≤ n ∧ l ≤ l' ∧ l' ≤ n ∧ (pb = true → l < l') ∧ Ord n L e dn rk o l' ∧ WB w n dn o l' wr) (fun _ _ v12 _ => n - (intOf v12).toNat)
          case atStart => exact ⟨0, l, dn0, rk0, o1, false, rfl, rfl, rfl, Nat.zero_le _, Nat.le_refl _, hl, fun h => (by cases h), HO0.out, HW0.out⟩
          case round =>
            clear HO0 HW0
            obtain ⟨k, l', dn, rk, o, pb, rfl, rfl, rfl, hk, hll, hln', hpb, hO, hW⟩ := hrel
            have HO := hide hO
            have HW := hide hW
            have HPB := hide hpb
            clear hO hW hpb
            by_cases hlt : k < n
            · have d1 := HW.out.done.cell hlt
              cases hdk : dn k
              · obtain ⟨ai, ci, q0, gI⟩ := H1.out k hlt
                have g0 : wr.cell? ⟨b0, o0 + k, none⟩ = some (.slice ai (L k) ci) := (HW.out.below.cell (World.block_lt_of_cell? _ _ q0)).trans q0
                have hLk := HL.out k hlt
                have GI := hide gI
                clear q0 gI
                go_wp2
                go_loop [13, 15] (fun rd ji => ∃ j : Nat, j ≤ L k ∧ rd = .bool true ∧ ji = .int .i64 j ∧ ∀ j', j' < j → dn (e k j') = true) (fun _ ji => L k - (intOf ji).toNat)
                case atStart => exact ⟨0, Nat.zero_le _, rfl, rfl, fun u hu => absurd hu (by omega)⟩
                case round =>
                  obtain ⟨j, hj, rfl, rfl, hq3⟩ := hrel
                  have HQ3 := hide hq3
                  clear hq3
                  by_cases hlt2 : j < L k
                  · obtain ⟨b', o', q, hc'⟩ := GI.out (by omega)
                    cases q
                    have q1 := hc' j hlt2
                    have g1 : wr.cell? ⟨b', o' + j, none⟩ = some (.int .i64 (e k j : Int)) := (HW.out.below.cell (World.block_lt_of_cell? _ _ q1)).trans q1
                    have hen := HEn.out k j hlt hlt2
                    have g2 := HW.out.done.cell hen
                    have i3 : (0 : Int) ≤ (e k j : Int) := by omega
                    have i4 : (e k j : Int) < (n : Int) := by omega
                    clear hc' q1
                    cases hde : dn (e k j)
                    · go_wp2
                      go_roundw
                      case rel => exact ⟨k + 1, l', dn, rk, o, pb, by go_num, rfl, rfl, by omega, hll, hln', HPB.out, HO.out, HW.out⟩
                      case measure => simp [intOf]; omega
                    · have R : Hid (∀ j', j' < j + 1 → dn (e k j') = true) := fun j' hj' => by
                        by_cases q : j' = j
                        · subst q; exact hde
                        · exact HQ3.out j' (by omega)
                      go_wp2
                      go_round
                      case rel => exact ⟨j + 1, by omega, rfl, by go_num, R.out⟩
                      case measure => simp [intOf]; omega
                  · have HA : Hid (Ord n L e (upd dn k true) (upd rk k l') (upd o l' k) (l' + 1)) := HO.out.add HEn.out hlt hdk (fun j' hj' => HQ3.out j' (by omega))
                    have hroom : l' < n := HO.out.room hlt hdk
                    have f1 := HW.out.done.frozen k
                    obtain ⟨f, hrO, hfO⟩ := HW.out.ord
                    have hrO1 := hrO.setOther (a := ⟨w.heap.size, k, none⟩) (by simp) (.bool true)
                    have hsz := HW.out.size
                    go_wp2_with (at_builtin; refine wpList_append_int _ rfl (.tmp 95) (.tmp 97) rfl (w.heap.size + 1) l' n f rfl (rowIs_push hrO1 _ rfl) wr.heap.size 1 rfl (k : Int) (cell_push2 (w := wr.setCell ⟨w.heap.size, k, none⟩ (.bool true)) #[.int .i64 (k : Int)] 3 rfl (World.size_setCell _ _ _) 0 _ rfl) hroom ?_; intro w2 hw2)
                    have HW2 : Hid (WB w n (upd dn k true) (upd o l' k) (l' + 1) w2) := by
                      rw [hw2.out]; exact HW.out.add k l' rfl hroom _
                    clear hw2 hrO1 hrO hfO
                    go_wp2
                    go_roundw
                    case rel => exact ⟨k + 1, l' + 1, _, _, _, true, by go_num, rfl, rfl, by omega, by omega, by omega, fun _ => (by omega), HA.out, HW2.out⟩
                    case measure => simp [intOf]; omega
              · go_wp2
                go_roundw
                case rel => exact ⟨k + 1, l', dn, rk, o, pb, by go_num, rfl, rfl, by omega, hll, hln', HPB.out, HO.out, HW.out⟩
                case measure => simp [intOf]; omega
            · cases pb
              · have hb := HW.out.below
                go_wp2
                go_ret3
                exact AncPost.no rfl hb
              · have hlt3 : l < l' := HPB.out rfl
                go_wp2
                go_roundw
                case rel => exact ⟨l', dn, rk, o, rfl, hln', HO.out, HW.out⟩
                case measure => simp [lenOf]; omega
        · obtain rfl : n = l := by omega
          have hmk3 := fun w => run_make_row' (P := Try.prog) 29 4 (.bool false) 1 Try.underlying29 Try.info4 rfl .i64 .i64 N (by omega) (by omega) w
          have hmk4 := fun w => run_make_row' (P := Try.prog) 30 3 (.int .i64 0) 8 Try.underlying30 Try.info3 rfl .i64 .i64 n (by omega) (by omega) w
          have hNN : (n : Int) * (n : Int) = (N : Int) := by rw [← HN.out]; rfl
          obtain ⟨wB, rfl⟩ : ∃ wB : World, wB = wr := ⟨_, rfl⟩
          have HmK := hide (And.intro hmk3 hmk4)
          go_wp2
          go_loopw [18] (fun i wr => ∃ (k : Nat) (M : Nat → Nat → Bool) (C : Nat → Nat), k ≤ n ∧ i = .int .i64 k ∧ Cl n L e rk0 M C k ∧ WC wB n N M C wr) (fun i _ => n - (intOf i).toNat)
          case atStart => exact ⟨0, _, _, Nat.zero_le _, rfl, Cl.start, WC.start wB n N⟩
          case round =>
            clear hmk3 hmk4 HmK hNN
            obtain ⟨k, M, C, hk, rfl, hCl, hWC⟩ := hrel
            have HCl := hide hCl
            have HWC := hide hWC
            clear hCl hWC
            obtain ⟨w6, rfl⟩ : ∃ w6 : World, w6 = wr := ⟨_, rfl⟩
            by_cases hlt6 : k < n
            · obtain ⟨f, hrO, hfO⟩ := HW0.out.ord
              have hgo : w.heap.size + 1 < wB.heap.size := by have := HW0.out.size; omega
              have gO : w6.cell? ⟨w.heap.size + 1, k, none⟩ = some (.int .i64 (o1 k : Int)) := by
                rw [HWC.out.below.cell (by exact hgo), hrO.cell hlt6, hfO k hlt6]
              obtain ⟨huN, hud, huk⟩ := HO0.out.ord k hlt6
              have hemp : ∀ b, b < n → M (o1 k) b = false := fun b hb => HCl.out.emp (o1 k) huN (by omega) b hb
              have hnext := hide (HCl.out.next HEn.out HO0.out hlt6)
              have hrank : ∀ j, j < L (o1 k) → e (o1 k) j ≠ o1 k := fun j hj q => by
                have := ((HO0.out.done (o1 k) huN hud).2.2 j hj).2
                rw [q] at this; omega
              obtain ⟨u, hu⟩ : ∃ u, o1 k = u := ⟨_, rfl⟩
              rw [hu] at gO huN hemp hnext hrank
              have HU := hide hu
              have Hemp := hide hemp
              have Hrank := hide hrank
              obtain ⟨ai, ci, q0, gI⟩ := H1.out u huN
              have g0 : w6.cell? ⟨b0, o0 + u, none⟩ = some (.slice ai (L u) ci) := by
                have h1 := World.block_lt_of_cell? _ _ q0
                rw [HWC.out.below.cell (Nat.lt_of_lt_of_le h1 HW0.out.below.size), HW0.out.below.cell h1]; exact q0
              have GI := hide gI
              have hLu := HL.out u huN
              obtain ⟨p, Hp, hpi, hpN⟩ := prod_rule HN.out huN
              have i1 : (0 : Int) ≤ (u : Int) := by omega
              have i2 : (u : Int) < (n : Int) := by omega
              clear hrO hfO hud huk hemp hrank hu q0 gI
              go_wp2
              go_loopw [21] (fun ji wr => ∃ j : Nat, j ≤ L u ∧ ji = .int .i64 j ∧ WC wB n N (M7 e M u j) C wr) (fun ji _ => L u - (intOf ji).toNat)
              case atStart => exact ⟨0, Nat.zero_le _, rfl, HWC.out.congr h1n (fun u' b _ hb => M7_zero M u u' b (Hemp.out b hb))⟩
              case round =>
                clear HWC gO g0
                obtain ⟨j, hj, rfl, hW7⟩ := hrel
                have HW7 := hide hW7
                clear hW7
                obtain ⟨w7, rfl⟩ : ∃ w7 : World, w7 = wr := ⟨_, rfl⟩
                by_cases hlt7 : j < L u
                · obtain ⟨b', o', q, hc'⟩ := GI.out (by omega)
                  cases q
                  have q1 := hc' j hlt7
                  have g1 : w7.cell? ⟨b', o' + j, none⟩ = some (.int .i64 (e u j : Int)) := by
                    have h1 := World.block_lt_of_cell? _ _ q1
                    rw [HW7.out.below.cell (Nat.lt_of_lt_of_le h1 HW0.out.below.size), HW0.out.below.cell h1]; exact q1
                  have hdn := HEn.out u j huN hlt7
                  have Hdu := hide (Hrank.out j hlt7)
                  obtain ⟨q, Hq, hqi, hqN⟩ := prod_rule HN.out hdn
                  have c1 := HW7.out.cell h1n huN hdn HN.out
                  have f1 := HW7.out.mat.frozen (p + e u j)
                  rw [Hp.out] at c1
                  have i3 : (0 : Int) ≤ (e u j : Int) := by omega
                  have i4 : (e u j : Int) < (n : Int) := by omega
                  have H8 : Hid (WC wB n N (M8 e M u j 0) C (w7.setCell ⟨wB.heap.size, p + e u j, none⟩ (.bool true))) := by
                    rw [← Hp.out]; exact HW7.out.setM h1n HN.out huN hdn (fun u' b _ => M8_zero M u j u' b)
                  clear hc' q1
                  go_wp2
                  go_loopw [23] (fun ai wr => ∃ a : Nat, a ≤ n ∧ ai = .int .i64 a ∧ WC wB n N (M8 e M u j a) C wr) (fun ai _ => n - (intOf ai).toNat)
                  case atStart => exact ⟨0, Nat.zero_le _, rfl, H8.out⟩
                  case round =>
                    clear H8 HW7 c1 f1 g1
                    obtain ⟨a, ha, rfl, hW8⟩ := hrel
                    have HW8 := hide hW8
                    clear hW8
                    by_cases hlt8 : a < n
                    · have c2 := HW8.out.cell h1n hdn hlt8 HN.out
                      rw [M8_row M u j a a Hdu.out, Hq.out] at c2
                      have c3 := HW8.out.cell h1n huN hlt8 HN.out
                      rw [Hp.out] at c3
                      have f3 := HW8.out.mat.frozen (p + a)
                      cases hMa : M (e u j) a
                      · have R := hide (HW8.out.congr h1n (M' := M8 e M u j (a + 1)) (fun u' b _ _ => M8_skip M u j a u' b hMa))
                        go_wp2
                        go_roundw
                        case rel => exact ⟨a + 1, by omega, by go_num, R.out⟩
                        case measure => simp [intOf]; omega
                      · have R : Hid (WC wB n N (M8 e M u j (a + 1)) C (wr.setCell ⟨wB.heap.size, p + a, none⟩ (.bool true))) := by
                          rw [← Hp.out]; exact HW8.out.setM h1n HN.out huN hlt8 (fun u' b _ => M8_take M u j a u' b hMa)
                        go_wp2
                        go_roundw
                        case rel => exact ⟨a + 1, by omega, by go_num, R.out⟩
                        case measure => simp [intOf]; omega
                    · obtain rfl : n = a := by omega
                      have R := hide (HW8.out.congr h1n (M' := M7 e M u (j + 1)) (fun u' b _ hb => (M8_full M u j u' b hb).symm))
                      go_wp2
                      go_roundw
                      case rel => exact ⟨j + 1, by omega, by go_num, R.out⟩
                      case measure => simp [intOf]; omega
                · obtain rfl : j = L u := by omega
                  obtain ⟨M', hM'⟩ : ∃ M' : Nat → Nat → Bool, M7 e M u (L u) = M' := ⟨_, rfl⟩
                  rw [hM'] at HW7 hnext
                  clear hM' Hemp Hrank
                  go_wp2
                  go_loop [24, 25] (fun cv ai => ∃ a : Nat, a ≤ n ∧ cv = .int .i64 ((List.range a).countP (M' u) : Nat) ∧ ai = .int .i64 a) (fun _ ai => n - (intOf ai).toNat)
                  case atStart => exact ⟨0, Nat.zero_le _, rfl, rfl⟩
                  case round =>
                    obtain ⟨a, ha, rfl, rfl⟩ := hrel
                    have hca := countP_le_n (M' u) a
                    by_cases hlt9 : a < n
                    · have c1 := HW7.out.cell h1n huN hlt9 HN.out
                      rw [Hp.out] at c1
                      have hsucc := hide (countP_upto (p := M' u) a)
                      obtain ⟨cc, hcc⟩ : ∃ cc, (List.range a).countP (M' u) = cc := ⟨_, rfl⟩
                      rw [hcc] at hsucc hca
                      rw [hcc]
                      clear hcc
                      cases hMa : M' u a
                      · have R : Hid ((List.range (a + 1)).countP (M' u) = cc) := by
                          have := hsucc.out; rw [hMa, if_neg (by simp)] at this; exact this
                        go_wp2
                        go_round
                        case rel => exact ⟨a + 1, by omega, by rw [R.out], by go_num⟩
                        case measure => simp [intOf]; omega
                      · have R : Hid ((List.range (a + 1)).countP (M' u) = cc + 1) := by
                          have := hsucc.out; rw [hMa, if_pos rfl] at this; exact this
                        go_wp2
                        go_round
                        case rel => exact ⟨a + 1, by omega, by rw [R.out]; go_num, by go_num⟩
                        case measure => simp [intOf]; omega
                    · obtain rfl : n = a := by omega
                      have d1 := HW7.out.cts.cell huN
                      have f1 := HW7.out.cts.frozen u
                      obtain ⟨cc, hcc⟩ : ∃ cc, (List.range n).countP (M' u) = cc := ⟨_, rfl⟩
                      have R := hide (HW7.out.setC u cc)
                      have hn2 : Hid (Cl n L e rk0 M' (upd C u cc) (k + 1)) := by
                        have := hnext.out; unfold cnt at this; rw [hcc] at this; exact this
                      rw [hcc]
                      clear hcc hnext
                      go_wp2
                      go_roundw
                      case rel => exact ⟨k + 1, M', upd C u cc, by omega, by go_num, hn2.out, R.out⟩
                      case measure => simp [intOf]; omega
            · obtain rfl : n = k := by omega
              obtain ⟨hctl, hcc⟩ := HCl.out.ctl HEn.out HO0.out
              have HF := hide (And.intro hctl hcc)
              have hfin : Hid (Mat w6 (some ⟨wB.heap.size, 0, none⟩) n M ∧ Ints w6 (some ⟨wB.heap.size + 1, 0, none⟩) n (fun i => (C i : Int)) ∧ Below w.heap.size w w6) :=
                ⟨fun _ => ⟨_, 0, rfl, fun v i hv hi => by rw [Nat.zero_add]; exact HWC.out.cell h1n hv hi HN.out⟩, Cells.of_row HWC.out.cts, HW0.out.below.trans (HWC.out.below.mono HW0.out.below.size)⟩
              clear hctl hcc
              go_wp2
              go_ret3
              exact ⟨.inr ⟨M, C, rk0, e, _, _, rfl, hfin.out.1, hfin.out.2.1, HF.out.2, HF.out.1, HE.out⟩, hfin.out.2.2⟩

end Go.Proofs.Qxb6604114a
