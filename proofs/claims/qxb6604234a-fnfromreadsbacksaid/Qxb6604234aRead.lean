/-
  The walk of 'readFrom'.
-/
import Derived.Test.Qxb6604234aToks
import Derived.Deep.RegionLaw
namespace Go.Proofs.Qxb6604234a
open Go.RowKit
set_option linter.unusedVariables false

theorem hasAt_same (s t : ByteArray) (p m : Nat) (w : World) (hs : s.size ≤ 1073741824) (h : Here s.data.toList p t.data.toList) :
    Calls Try.prog 14 #[.string s, .int .i64 p, .string t] (w.drewN m) fun e w' => e = .returned (.bool true) ∧ ∃ m', w' = w.drewN m' := by
  have h1 := h.1
  have h2 := h.2
  rw [len_data, len_data] at h1
  rw [len_data] at h2
  refine (hasAt_yes s t p _ hs h1 h2).mono ?_
  rintro e w' ⟨he, k, hk⟩
  exact ⟨he, m + k, by rw [hk, drewN_drewN]⟩

def ReadPost (n : Nat) (S : Nat → ByteArray) (e : Ending) (w' : World) : Prop := ∃ a' c', e = .returned (.tuple #[.slice a' n c', .bool true]) ∧ Strs w' a' n S

theorem run_make_strs0 (n : Nat) (hn : n ≤ 1048576) (w : World) :
    (Instr.makeSlice 28 (.int .i64 0) (.int .i64 (n : Int))).run Try.prog w = .ok (.slice (some ⟨w.heap.size, 0, none⟩) 0 n) (w.alloc (.cells (madeCells #[.string ⟨#[]⟩] n) 9)) := by
  obtain ⟨i, hi, hz, hs, hb⟩ := info_parts Try.info9
  have hr := run_make (P := Try.prog) w 28 9 i _ Try.underlying28 hi hz .i64 .i64 0 n (by omega) (by omega) (by rw [hb]; omega) (by omega)
  simp only [Int.toNat_natCast, hs, Value.cells, Nat.mul_one] at hr
  exact hr

theorem rowIs_push {w w' : World} {g N : Nat} {t : TypeId} {f : Nat → Value} (h : w.rowIs g t N f) (o : Obj) (e : w'.heap = w.heap.push o) : w'.rowIs g t N f := (h.alloc o).of_block (by rw [e]; rfl)
theorem cell_push {w w' : World} (cs : Array Value) (t : TypeId) (e : w'.heap = w.heap.push (.cells cs t)) (j : Nat) (v : Value) (h : cs[j]? = some v) : w'.cell? ⟨w.heap.size, j, none⟩ = some v := by
  rw [World.cell?_of_block (w := w.alloc (.cells cs t)) (by rw [e]; rfl), World.cell?_alloc_new]
  exact h

theorem below_push {B : Nat} {a w w' : World} (h : Below B a w) (hB : B ≤ w.heap.size) (o : Obj) (e : w'.heap = w.heap.push o) (e1 : w'.os = w.os) (e2 : w'.tape = w.tape) (e3 : w'.output = w.output) : Below B a w' := by
  have hk := h.alloc hB o
  exact ⟨e1.trans hk.os, e2.trans hk.tape, e3.trans hk.output, by rw [e]; exact hk.size, fun k hk' => by rw [e]; exact hk.block k hk'⟩
theorem two_fin {w3 wr X w4 : World} {n k : Nat} {f : Nat → Value} {S : Nat → ByteArray} {o : Obj} (hrow : wr.rowIs w3.heap.size 9 n f) (hf : ∀ j, j < k → f j = .string (S j)) (hk : k + 2 = n) (hb : Below w3.heap.size w3 wr)
    (e : X.heap = wr.heap.push o) (e1 : X.os = wr.os) (e2 : X.tape = wr.tape) (e3 : X.output = wr.output) (h4 : w4 = (X.setCell ⟨w3.heap.size, k, none⟩ (.string (S k))).setCell ⟨w3.heap.size, k + 1, none⟩ (.string (S (k + 1)))) :
    Strs w4 (some ⟨w3.heap.size, 0, none⟩) n S ∧ Below w3.heap.size w3 w4 := by
  subst h4
  constructor
  · refine Cells.of_row ((((rowIs_push hrow o e).set k (.string (S k))).set (k + 1) (.string (S (k + 1)))).congr (fun j hj => ?_))
    by_cases e4 : j = k + 1
    · subst e4; simp
    · by_cases e5 : j = k
      · subst e5; simp
      · simp only [if_neg e4, if_neg e5]; exact hf j (by omega)
  · exact ((below_push hb hb.size o e e1 e2 e3).setCell (Nat.le_refl _) _).setCell (Nat.le_refl _) _

/-- 'append' OF ONE STRING WHERE THERE IS ROOM. -/
theorem wpList_append_str (w : World) {ops : Array Oper} {rest : List Oper} {o : Oper} {a : Act} {Q : Exit → Act → World → Prop}
    (hg : o.guard = none) (s x : Operand) (hop : o.op = Op.call { callee := Callee.builtin Builtin.append, args := #[s, x], argTypes := #[28, 28] })
    (g n C : Nat) (f : Nat → Value) (hs : a.eval s = .slice (some ⟨g, 0, none⟩) n C) (hrow : w.rowIs g 9 C f) (k cx : Nat) (hx : a.eval x = .slice (some ⟨k, 0, none⟩) 1 cx) (y : ByteArray)
    (c1 : w.cell? ⟨k, 0, none⟩ = some (.string y)) (hroom : n < C)
    (hK : ∀ w', Hid (w' = w.setCell ⟨g, n, none⟩ (.string y)) → wpList Try.prog ops Q rest (a.put o.dst (.slice (some ⟨g, 0, none⟩) (n + 1) C)) w') :
    wpList Try.prog ops Q (o :: rest) a w := by
  refine wpList_plain hg fun K hK' => ?_
  obtain ⟨i, hi, hz, hsz, _⟩ := info_parts Try.info9
  have hrun := run_append_room_cells (P := Try.prog) w 28 o.type 9 i Try.underlying28 hi g 0 n C ⟨k, 0, none⟩ 1 cx [.string y] (by rw [hsz]; rfl)
    (by
      intro j u hu
      match j, hu with
      | 0, hu => simp at hu; subst hu; simpa [Addr.add] using c1)
    (by intro u hu; simp at hu; subst hu; rfl) hroom
    (by
      intro j hj
      simp at hj
      rw [hsz, hrow.cell (by omega)]
      rfl)
    (by
      intro j _
      rw [hsz]
      exact hrow.frozen _)
  rw [hsz, Nat.zero_add] at hrun
  unfold Oper.wp
  simp [execOp, hop, resolve, invoke, builtin, hs, hx, hrun, Result.andThen]
  exact hK' _ _ (hK _ rfl)

/-- 'append' OF TWO STRINGS WHERE THERE IS ROOM, in a region that draws its order. -/
theorem step_append_two {ops : Array Oper} {o : Oper} {a : Act} {w : World} {K : Act → World → Prop} {Q : Exit → Act → World → Prop} {E : Prop}
    (hg : o.guard = none) (s x : Operand) (hop : o.op = Op.call { callee := Callee.builtin Builtin.append, args := #[s, x], argTypes := #[28, 28] })
    (g n C : Nat) (f : Nat → Value) (hs : a.eval s = .slice (some ⟨g, 0, none⟩) n C) (hrow : w.rowIs g 9 C f) (k cx : Nat) (hx : a.eval x = .slice (some ⟨k, 0, none⟩) 2 cx) (y1 y2 : ByteArray)
    (c1 : w.cell? ⟨k, 0, none⟩ = some (.string y1)) (c2 : w.cell? ⟨k, 1, none⟩ = some (.string y2)) (hroom : n + 2 ≤ C)
    (hK : ∀ w', Hid (w' = (w.setCell ⟨g, n, none⟩ (.string y1)).setCell ⟨g, n + 1, none⟩ (.string y2)) → K (a.put o.dst (.slice (some ⟨g, 0, none⟩) (n + 2) C)) w') :
    if Region.wanted o (yielded ops a.tmps) = true then Oper.wp Try.prog o a w K Q else E := by
  obtain ⟨i, hi, hz, hsz, _⟩ := info_parts Try.info9
  refine step_append_room hg s x 28 hop 9 i 1 Try.underlying28 hi hsz g 0 n C hs ⟨k, 0, none⟩ 2 cx [.string y1, .string y2] hx rfl
    (by
      intro j u hu
      match j, hu with
      | 0, hu => simp at hu; subst hu; simpa [Addr.add] using c1
      | 1, hu => simp at hu; subst hu; simpa [Addr.add] using c2)
    (by intro u hu; simp at hu; rcases hu with rfl | rfl <;> rfl) hroom
    (by
      intro j hj
      simp at hj
      rw [show 0 + n * 1 + j = n + j by omega, hrow.cell (by omega)]
      exact ⟨rfl, hrow.frozen _⟩) ?_
  have := hK _ rfl
  rw [show 0 + n * 1 = n by omega]
  exact this

theorem toks_of {w : World} {B : Nat} {v : Value} {ts : List ByteArray} {n : Nat} {X : Nat → List UInt8} (h : w.ownsRow B 9 1 v ts.length (ts.map Value.string)) (hd : Done (body n X n) (ts.map fun t => t.data.toList)) (hn2 : 2 ≤ n) (hX : ∀ i, i < n → NoSp (X i)) :
    ∃ (g cap M : Nat) (TS : Nat → ByteArray), v = .slice (some ⟨g, 0, none⟩) M cap ∧ Hid (M = n + 1) ∧ B ≤ g ∧ Hid (∀ i, i < n + 1 → w.cell? ⟨g, i, none⟩ = some (.string (TS i)) ∧ (TS i).data.toList = tok n X i) := by
  obtain ⟨m, rfl⟩ : ∃ m, n = m + 2 := ⟨n - 2, by omega⟩
  have he := hd.uniq (done_tok m X hX)
  have hl := congrArg List.length he
  rw [List.length_map, List.length_map, List.length_range] at hl
  obtain ⟨g, cap, hv, hb, hc⟩ := own_cells h (by omega)
  refine ⟨g, cap, ts.length, fun i => ts.getD i ⟨#[]⟩, hv, hl, hb, fun i hi => ?_⟩
  have hi' : i < ts.length := by omega
  have h1 : ts[i]? = some (ts.getD i ⟨#[]⟩) := by rw [List.getD_eq_getElem?_getD, List.getElem?_eq_getElem hi']; rfl
  refine ⟨hc i _ h1, ?_⟩
  have h2 := congrArg (fun l => l[i]?) he
  simp only [List.getElem?_map, h1, List.getElem?_range (show i < m + 3 by omega), Option.map_some] at h2
  exact Option.some.inj h2

set_option maxRecDepth 100000 in
set_option maxHeartbeats 2000000 in
theorem read_many (s r : ByteArray) (n : Nat) (S : Nat → ByteArray) (w : World) (hn2 : 2 ≤ n) (hn : n ≤ 65536) (hs : s.size ≤ 1048576) (hrb : r.size ≤ 4194304)
    (hr : r.data.toList = fromL s.data.toList n (fun i => (S i).data.toList)) (hP : ∀ i, i < n → PlainId (S i).data.toList) (hS : ∀ i, i < n → (S i).size ≤ 1048576) :
    Calls Try.prog 17 #[.string s, .string r] w fun e w' => ReadPost n S e w' ∧ Below w.heap.size w w' := by
  obtain ⟨X, HX⟩ : ∃ X : Nat → List UInt8, Hid (X = fun i => (S i).data.toList) := ⟨_, rfl⟩
  have hr' : r.data.toList = s.data.toList ++ [32] ++ body n X n := by rw [hr, fromL_body _ _ _ (by omega), HX.out]
  have hrl : s.size + 1 ≤ r.size := by
    have := congrArg List.length hr'
    simp only [List.length_append, len_data, List.length_cons, List.length_nil] at this
    omega
  have HRD := hide hr'
  have HP := hide hP
  have HS := hide hS
  clear hr hr' hP hS
  have q0 : (r.toList == []) = false := by
    rw [ByteArray.toList_eq]
    cases h : r.data.toList with
    | nil => have := congrArg List.length h; rw [len_data, List.length_nil] at this; omega
    | cons x l => rfl
  go_enter Try.func17, Try.ntmps17
  go_wp2_with fail
  refine (hasAt_same r s 0 0 w (by omega) (by rw [HRD.out, List.append_assoc]; exact here_of (A := []) rfl rfl)).mono ?_
  rintro _ w1 ⟨rfl, m1, rfl⟩
  go_wp2_with fail
  refine (hasAt_same r ⟨#[32]⟩ s.size m1 w (by omega) (by rw [HRD.out]; exact here_of (A := s.data.toList) rfl (len_data s).symm)).mono ?_
  rintro _ w1 ⟨rfl, m2, rfl⟩
  have j1 : (0 : Int) ≤ (s.size : Int) + 1 := by omega
  have j2 : (s.size : Int) + 1 ≤ (r.size : Int) := by omega
  go_wp2_with fail
  refine (split_any _ _ (by rw [ByteArray.size_extract]; omega)).mono ?_
  rintro _ w3 ⟨⟨v, ts, rfl, hown, hdone⟩, hb3⟩
  have hbody : (r.extract (s.size + 1) r.size).data.toList = body n X n := by
    rw [Lib.extract_data, List.take_of_length_le (by rw [List.length_drop, len_data]; exact Nat.le_refl _), HRD.out, ← len_data s]
    exact List.drop_left' (by simp)
  rw [hbody] at hdone
  obtain ⟨g, cap, M, TS, rfl, HM, hgB, HTS⟩ := toks_of hown hdone hn2 (fun i hi => by rw [HX.out]; exact (HP.out i hi).nosp)
  have hgw : g < w3.heap.size := World.block_lt_of_cell? _ _ (HTS.out 0 (by omega)).1
  have hbA : Below w.heap.size w w3 := ⟨hb3.os, hb3.tape, hb3.output, hb3.size, hb3.block⟩
  clear hown hdone hbody hb3
  have hMn := HM.out
  have qa : ((M : Int) == 1) = false := by rw [beq_eq_false_iff_ne]; omega
  have fb : ¬ (M : Int) < 3 := by omega
  obtain ⟨k2, e2, hk2⟩ : ∃ k2 : Nat, (M : Int) - 2 = (k2 : Int) ∧ k2 = n - 1 := ⟨n - 1, by omega, rfl⟩
  have f2 : (k2 : Int) < (M : Int) := by omega
  have e1 : (M : Int) - 1 = (n : Int) := by omega
  have g2 : w3.cell? ⟨g, k2, none⟩ = some (.string ⟨#[97, 110, 100]⟩) := by
    obtain ⟨h1, h2⟩ := HTS.out k2 (by omega)
    have h3 : TS k2 = ⟨#[97, 110, 100]⟩ := ba_ext (by rw [h2]; unfold tok; rw [if_neg (by omega), if_neg (by omega), if_pos (by omega)])
    rw [h1, h3]
  have hmk := fun w => run_make_strs0 n (by omega) w
  have HK2 := hide hk2
  clear hMn hk2
  go_wp2
  clear e2 f2 g2 hmk
  go_loopw [8, 9] (fun v i wr => ∃ (k : Nat) (f : Nat → Value), i = .int .i64 k ∧ v = .slice (some ⟨w3.heap.size, 0, none⟩) k n ∧ k + 2 ≤ n ∧ wr.rowIs w3.heap.size 9 n f ∧ (∀ j, j < k → f j = .string (S j)) ∧ Below w3.heap.size w3 wr) (fun _ i _ => n - (intOf i).toNat)
  case atStart => exact ⟨0, _, rfl, rfl, by omega, World.rowIs_made w3 _ n 9, fun j hj => absurd hj (by omega), (Below.refl _ _).alloc (Nat.le_refl _) _⟩
  case round =>
    obtain ⟨k, f, rfl, rfl, hk, hrow, hf, hbel⟩ := hrel
    have HF := hide hf
    have HB := hide hbel
    clear hf hbel
    by_cases hlt : k + 2 < n
    · have t1 : (k : Int) + 3 < (M : Int) := by have := HM.out; omega
      have t2 : (k : Int) < (M : Int) := by omega
      obtain ⟨c1, c2⟩ := HTS.out k (by omega)
      have c1' : wr.cell? ⟨g, k, none⟩ = some (.string (TS k)) := (HB.out.cell hgw).trans c1
      have c3 : (TS k).data.toList = (S k).data.toList ++ [44] := by rw [c2, HX.out]; unfold tok; rw [if_pos hlt]
      have hsz : (TS k).size = (S k).size + 1 := by rw [← len_data, c3, List.length_append, len_data]; rfl
      have hpos : 0 < (S k).size := by have := (HP.out k (by omega)).1; rwa [len_data] at this
      have hsb := HS.out k (by omega)
      have u1 : ¬ ((TS k).size : Int) < 2 := by omega
      have hub : (TS k).size ≤ 1048577 := by omega
      have hzl : (TS k).size - 1 < (TS k).size := by omega
      have u4 : (0 : Int) ≤ ((TS k).size : Int) - 1 := by omega
      have hch : (TS k)[(TS k).size - 1] = 44 := by
        have h1 := get_at hzl
        have h2 : (TS k).data.toList[(TS k).size - 1]? = some 44 := by
          rw [c3, hsz, Nat.add_sub_cancel, List.getElem?_append_right (by rw [len_data]; exact Nat.le_refl _), len_data, Nat.sub_self]
          rfl
        exact Option.some.inj (h1.symm.trans h2)
      have u5 : (((TS k)[(TS k).size - 1].toNat : Int) != 44) = false := by rw [hch]; rfl
      have u6 : (TS k).extract 0 ((TS k).size - 1) = S k := ba_ext (by
        rw [Lib.extract_data, c3, hsz, Nat.add_sub_cancel, List.drop_zero, Nat.sub_zero, ← len_data (S k)]
        exact List.take_left' rfl)
      have hroom : k < n := by omega
      clear c1 c2 c3 hsz hpos hch
      have HW := hide hrow
      go_wp2_with (at_builtin; refine wpList_append_str _ rfl (.tmp 69) (.tmp 75) rfl w3.heap.size k n f rfl (rowIs_push hrow _ rfl) wr.heap.size 1 rfl (S k) (cell_push #[.string (S k)] 9 rfl 0 _ rfl) hroom ?_; intro w4 hw4)
      have R : Hid (∃ f', w4.rowIs w3.heap.size 9 n f' ∧ (∀ j, j < k + 1 → f' j = .string (S j))) := by
        rw [hw4.out]
        refine ⟨_, (rowIs_push HW.out _ rfl).set k (.string (S k)), fun j hj => ?_⟩
        by_cases e : j = k
        · subst e; simp
        · simp only [if_neg e]; exact HF.out j (by omega)
      have RB : Hid (Below w3.heap.size w3 w4) := by
        rw [hw4.out]
        exact (HB.out.alloc HB.out.size _).setCell (Nat.le_refl _) _
      clear hw4 hrow
      obtain ⟨f', R1, R2⟩ := R.out
      have HR1 := hide R1
      have HR2 := hide R2
      clear R R1 R2
      go_wp2
      go_roundw
      case rel => exact ⟨k + 1, f', by go_num, rfl, by omega, HR1.out, HR2.out, RB.out⟩
      case measure => simp [intOf]; omega
    · have hMn := HM.out
      have t1 : ¬ (k : Int) + 3 < (M : Int) := by omega
      obtain ⟨k3, e3, hk3⟩ : ∃ k3 : Nat, (M : Int) - 3 = (k3 : Int) ∧ k3 = k := ⟨k, by omega, rfl⟩
      have w1' : IntKind.i64.wrap (k3 : Int) = (k3 : Int) := by rw [IntKind.wrap_i64]; omega
      have w2' : IntKind.i64.wrap (n : Int) = (n : Int) := by rw [IntKind.wrap_i64]; omega
      have v1 : (k3 : Int) < (M : Int) := by omega
      have v2 : (n : Int) < (M : Int) := by omega
      have v3 : (0 : Int) ≤ (k3 : Int) := by omega
      have v4 : (0 : Int) ≤ (n : Int) := by omega
      have c1 : wr.cell? ⟨g, k3, none⟩ = some (.string (S k)) := by
        obtain ⟨h1, h2⟩ := HTS.out k3 (by omega)
        have h3 : TS k3 = S k := ba_ext (by rw [h2, HX.out, hk3]; unfold tok; rw [if_neg (by omega), if_pos (by omega)])
        rw [HB.out.cell hgw, h1, h3]
      have c2 : wr.cell? ⟨g, n, none⟩ = some (.string (S (k + 1))) := by
        obtain ⟨h1, h2⟩ := HTS.out n (by omega)
        have h3 : TS n = S (k + 1) := ba_ext (by rw [h2, HX.out]; unfold tok; rw [if_neg (by omega), if_neg (by omega), if_neg (by omega), show n - 1 = k + 1 by omega])
        rw [HB.out.cell hgw, h1, h3]
      have hroom : k + 2 ≤ n := by omega
      have hkn : Hid (k + 2 = n) := by show k + 2 = n; omega
      clear hMn hk3
      have HW := hide hrow
      clear hrow
      go_wp2
      go_region_law ((refine step_append_two (by rfl) (.tmp 77) (.tmp 88) (by rfl) w3.heap.size k n f (by go_simp) (rowIs_push HW.out _ rfl) wr.heap.size 2 (by go_simp) (S k) (S (k + 1)) (cell_push #[.string (S k), .string (S (k + 1))] 9 rfl 0 _ rfl) (cell_push #[.string (S k), .string (S (k + 1))] 9 rfl 1 _ rfl) hroom ?_; intro w4 hw4))
      all_goals
        have HZ := hide (two_fin (o := .cells #[.string (S k), .string (S (k + 1))] 9) HW.out HF.out hkn.out HB.out (by rfl) (by rfl) (by rfl) (by rfl) hw4.out)
        clear hw4
        go_simp
        go_wp2
        go_ret2
        exact ⟨⟨_, _, by rw [hkn.out]; rfl, HZ.out.1⟩, hbA.trans (HZ.out.2.mono hbA.size)⟩

set_option maxRecDepth 100000 in
set_option maxHeartbeats 1000000 in
theorem read_one (s r : ByteArray) (S : Nat → ByteArray) (w : World) (hs : s.size ≤ 1048576) (hrb : r.size ≤ 4194304)
    (hr : r.data.toList = fromL s.data.toList 1 (fun i => (S i).data.toList)) (hP : PlainId (S 0).data.toList) :
    Calls Try.prog 17 #[.string s, .string r] w fun e w' => ReadPost 1 S e w' ∧ Below w.heap.size w w' := by
  have hr' : r.data.toList = s.data.toList ++ [32] ++ body 1 (fun i => (S i).data.toList) 1 := by rw [hr, fromL_body _ _ _ (by omega)]
  have hrl : s.size + 1 ≤ r.size := by
    have := congrArg List.length hr'
    simp only [List.length_append, len_data, List.length_cons, List.length_nil] at this
    omega
  have HRD := hide hr'
  have HP := hide hP
  clear hr hr' hP
  have q0 : (r.toList == []) = false := by
    rw [ByteArray.toList_eq]
    cases h : r.data.toList with
    | nil => have := congrArg List.length h; rw [len_data, List.length_nil] at this; omega
    | cons x l => rfl
  go_enter Try.func17, Try.ntmps17
  go_wp2_with fail
  refine (hasAt_same r s 0 0 w (by omega) (by rw [HRD.out, List.append_assoc]; exact here_of (A := []) rfl rfl)).mono ?_
  rintro _ w1 ⟨rfl, m1, rfl⟩
  go_wp2_with fail
  refine (hasAt_same r ⟨#[32]⟩ s.size m1 w (by omega) (by rw [HRD.out]; exact here_of (A := s.data.toList) rfl (len_data s).symm)).mono ?_
  rintro _ w1 ⟨rfl, m2, rfl⟩
  have j1 : (0 : Int) ≤ (s.size : Int) + 1 := by omega
  have j2 : (s.size : Int) + 1 ≤ (r.size : Int) := by omega
  go_wp2_with fail
  refine (split_any _ _ (by rw [ByteArray.size_extract]; omega)).mono ?_
  rintro _ w3 ⟨⟨v, ts, rfl, hown, hdone⟩, hb3⟩
  have hbody : (r.extract (s.size + 1) r.size).data.toList = body 1 (fun i => (S i).data.toList) 1 := by
    rw [Lib.extract_data, List.take_of_length_le (by rw [List.length_drop, len_data]; exact Nat.le_refl _), HRD.out, ← len_data s]
    exact List.drop_left' (by simp)
  rw [hbody] at hdone
  have he := hdone.uniq (done_one (fun i => (S i).data.toList) HP.out.nosp)
  have hbA : Below w.heap.size w w3 := ⟨hb3.os, hb3.tape, hb3.output, hb3.size, hb3.block⟩
  obtain ⟨x, rfl⟩ : ∃ x, ts = [x] := by
    have hl := congrArg List.length he
    rw [List.length_map] at hl
    exact List.length_eq_one_iff.1 hl
  have hx : x = S 0 := ba_ext (by simpa using he)
  subst hx
  obtain ⟨g, cap, rfl, hgB, hcs⟩ := own_cells hown (by simp)
  have HC : Hid (Strs w3 (some ⟨g, 0, none⟩) 1 S) := fun _ => ⟨g, 0, rfl, fun i hi => by
    obtain rfl : i = 0 := by omega
    exact hcs 0 (S 0) rfl⟩
  clear hown hdone hbody hb3 he hcs
  go_wp2
  go_ret2
  exact ⟨⟨_, _, rfl, HC.out⟩, hbA⟩

set_option maxRecDepth 100000 in
theorem read_zero (s : ByteArray) (S : Nat → ByteArray) (w : World) :
    Calls Try.prog 17 #[.string s, .string ⟨#[]⟩] w fun e w' => ReadPost 0 S e w' ∧ Below w.heap.size w w' := by
  go_enter Try.func17, Try.ntmps17
  go_wp2
  go_ret2
  exact ⟨⟨none, 0, rfl, fun h => absurd h (by omega)⟩, Below.refl _ _⟩

end Go.Proofs.Qxb6604234a
