/-
  PLAIN PARTS: the closed form of a match copy; worlds that part in some blocks alone; 'copy' inside one row whose content is a function of the index.
-/
import Derived.WalkKit
import Derived.Deep.OwnRows
import Derived.Laws.CopyOwn
import Derived.Deep.Draws
namespace Go.Proofs.Qxb6602711a
open Go.RowKit

/-- The bytes behind a match copy of n bytes at 'e', 'off' back: byte by byte. -/
def lz {α : Type} (f : Nat → α) (e off n i : Nat) : α := if e ≤ i ∧ i < e + n then f (e - off + (i - e) % off) else f i

theorem lz_zero {α : Type} (f : Nat → α) (e off i : Nat) : lz f e off 0 i = f i := by
  unfold lz; rw [if_neg (by omega)]

theorem lz_low {α : Type} (f : Nat → α) (e off n i : Nat) (h : i < e) : lz f e off n i = f i := by
  unfold lz; rw [if_neg (by omega)]

/-- The first copy: no more than 'off' bytes. -/
theorem lz_first {α : Type} (f : Nat → α) (e off n i : Nat) (hn : n ≤ off) : lz f e off n i = if e ≤ i ∧ i < e + n then f (e - off + (i - e)) else f i := by
  unfold lz
  by_cases h : e ≤ i ∧ i < e + n
  · rw [if_pos h, if_pos h, Nat.mod_eq_of_lt (by omega)]
  · rw [if_neg h, if_neg h]

/-- A later copy: what is written already, once more. -/
theorem lz_more {α : Type} (f : Nat → α) (e off d k i : Nat) (hd : d % off = 0) (hk : k ≤ d) :
    lz f e off (d + k) i = if e + d ≤ i ∧ i < e + d + k then lz f e off d (e + (i - (e + d))) else lz f e off d i := by
  unfold lz
  by_cases h : e + d ≤ i ∧ i < e + d + k
  · rw [if_pos h, if_pos (by omega), if_pos (by omega)]
    have : (i - e) % off = (e + (i - (e + d)) - e) % off := by
      have e1 : i - e = d + (i - (e + d)) := by omega
      have e2 : e + (i - (e + d)) - e = i - (e + d) := by omega
      rw [e1, e2, Nat.add_mod, hd, Nat.zero_add, Nat.mod_mod]
    rw [this]
  · rw [if_neg h]
    by_cases h2 : e ≤ i ∧ i < e + d
    · rw [if_pos h2, if_pos (by omega)]
    · rw [if_neg h2, if_neg (by omega)]

theorem mod_shift (a b m : Nat) : (a + b % m) % m = (a + b) % m := by
  rw [Nat.add_mod, Nat.mod_mod, ← Nat.add_mod]

/-- THE LAW: two matches one behind the other are one match. -/
theorem lz_split {α : Type} (f : Nat → α) (e off n k i : Nat) (h1 : 1 ≤ off) (h2 : off ≤ e) : lz (lz f e off n) (e + n) off k i = lz f e off (n + k) i := by
  by_cases h : e + n ≤ i ∧ i < e + n + k
  · have hl : lz (lz f e off n) (e + n) off k i = lz f e off n (e + n - off + (i - (e + n)) % off) := by
      show (if e + n ≤ i ∧ i < e + n + k then _ else _) = _
      rw [if_pos h]
    have hr : lz f e off (n + k) i = f (e - off + (i - e) % off) := by
      show (if e ≤ i ∧ i < e + (n + k) then _ else _) = _
      rw [if_pos (by omega)]
    rw [hl, hr]
    have hr1 : (i - (e + n)) % off < off := Nat.mod_lt _ (by omega)
    have hmod : (n + (i - (e + n)) % off) % off = (i - e) % off := by
      rw [mod_shift _ _ _]
      congr 1; omega
    generalize hr0 : (i - (e + n)) % off = r at *
    by_cases hj : e ≤ e + n - off + r
    · unfold lz
      rw [if_pos (by omega)]
      congr 2
      have e1 : n + r = (e + n - off + r - e) + off := by omega
      rw [e1, Nat.add_mod_right] at hmod
      exact hmod
    · unfold lz
      rw [if_neg (by omega)]
      rw [Nat.mod_eq_of_lt (by omega)] at hmod
      congr 1; omega
  · have hl : lz (lz f e off n) (e + n) off k i = lz f e off n i := by
      show (if e + n ≤ i ∧ i < e + n + k then _ else _) = _
      rw [if_neg h]
    rw [hl]
    unfold lz
    by_cases h3 : e ≤ i ∧ i < e + n
    · rw [if_pos h3, if_pos (by omega)]
    · rw [if_neg h3, if_neg (by omega)]

theorem hide {p : Prop} (h : p) : Hid p := h

/-- w' is w but for the blocks that S names (and what is new). -/
structure Only (S : Nat → Prop) (w w' : World) : Prop where
  os : w'.os = w.os
  tape : w'.tape = w.tape
  output : w'.output = w.output
  size : w'.heap.size = w.heap.size
  block : ∀ k, ¬ S k → w'.heap[k]? = w.heap[k]?

theorem Only.refl (S : Nat → Prop) (w : World) : Only S w w := ⟨rfl, rfl, rfl, rfl, fun _ _ => rfl⟩
theorem Only.trans {S : Nat → Prop} {a b c : World} (h : Only S a b) (k : Only S b c) : Only S a c :=
  ⟨k.os.trans h.os, k.tape.trans h.tape, k.output.trans h.output, k.size.trans h.size, fun i hi => (k.block i hi).trans (h.block i hi)⟩
theorem Only.drew {S : Nat → Prop} {a w : World} (h : Only S a w) : Only S a w.drew := ⟨h.os, h.tape, h.output, h.size, h.block⟩
theorem Only.drewN {S : Nat → Prop} {a w : World} (h : Only S a w) (n : Nat) : Only S a (w.drewN n) := ⟨h.os, h.tape, h.output, h.size, h.block⟩
theorem Only.of_drew {S : Nat → Prop} {a w : World} (h : Only S a.drew w) : Only S a w := ⟨h.os, h.tape, h.output, h.size, h.block⟩
theorem Only.mono {S T : Nat → Prop} {w w' : World} (h : Only S w w') (hT : ∀ k, S k → T k) : Only T w w' :=
  ⟨h.os, h.tape, h.output, h.size, fun k hk => h.block k (fun hs => hk (hT k hs))⟩
theorem Only.setCell {S : Nat → Prop} {a w : World} (h : Only S a w) (p : Addr) (v : Value) (hp : S p.block) : Only S a (w.setCell p v) :=
  h.trans ⟨rfl, rfl, rfl, by simp, fun k hk => heap_setCell_other w p k v (fun e => hk (e ▸ hp))⟩
theorem Only.setRow {S : Nat → Prop} {a w : World} (h : Only S a w) (g : Nat) (cs : Array Value) (hp : S g) : Only S a (w.setRow g cs) :=
  h.trans ⟨rfl, rfl, rfl, by simp, fun k hk => setRow_other w g k cs (fun e => hk (e ▸ hp))⟩
theorem Only.below {S : Nat → Prop} {w w' : World} {B : Nat} (h : Only S w w') (hS : ∀ k, S k → B ≤ k) : Below B w w' :=
  ⟨h.os, h.tape, h.output, by rw [h.size]; exact Nat.le_refl _, fun k hk => h.block k (fun hs => by have := hS k hs; omega)⟩
theorem Only.row {S : Nat → Prop} {w w' : World} (h : Only S w w') {b n : Nat} {t : TypeId} {f : Nat → Value} (hb : ¬ S b) (hr : w.rowIs b t n f) : w'.rowIs b t n f := hr.of_block (h.block b hb)

theorem rowIs_drewN {w : World} {b n : Nat} {t : TypeId} {f : Nat → Value} (hr : w.rowIs b t n f) (k : Nat) : (w.drewN k).rowIs b t n f := hr

/-- The row behind a copy of n cells inside itself. -/
theorem row_copied {w : World} {g N : Nat} {t : TypeId} {f : Nat → Value} {cur : Array Value} (hg : w.heap[g]? = some (.cells cur t (0, 0))) (hN : cur.size = N) (hc : ∀ i, i < N → cur[i]? = some (f i)) (doff so n : Nat) (hd : doff + n ≤ N) (cs : List Value) (hcs : cs = (List.range n).map (fun j => f (so + j))) :
    (w.setRow g (cur.toList.take doff ++ (cs ++ cur.toList.drop (doff + cs.length))).toArray).rowIs g t N (fun i => if doff ≤ i ∧ i < doff + n then f (so + (i - doff)) else f i) := by
  have hl : cs.length = n := by rw [hcs]; simp
  refine ⟨_, setRow_heap w g _ _ t _ hg, by simp; omega, fun i hi => ?_⟩
  have hci := hc i hi
  show _ = some (if doff ≤ i ∧ i < doff + n then f (so + (i - doff)) else f i)
  rw [List.getElem?_toArray]
  by_cases h1 : i < doff
  · rw [List.getElem?_append_left (by simp; omega), List.getElem?_take, if_pos h1]
    simp only [Array.getElem?_toList]
    rw [hci, if_neg (by omega)]
  · rw [List.getElem?_append_right (by simp; omega)]
    have e1 : (cur.toList.take doff).length = doff := by simp; omega
    rw [e1]
    by_cases h2 : i < doff + n
    · rw [List.getElem?_append_left (by omega), hcs, List.getElem?_map, List.getElem?_range (by omega), if_pos ⟨by omega, h2⟩]
      rfl
    · rw [List.getElem?_append_right (by omega), List.getElem?_drop, if_neg (by omega)]
      simp only [Array.getElem?_toList, hl]
      rw [show doff + n + (i - doff - n) = i from by omega, hci]

/-- 'copy' FROM A ROW INTO ITSELF, as one step of a region that draws its order. -/
theorem step_copy_row {P : Program} {ops : Array Oper} {o : Oper} {a : Act} {w : World} {K : Act → World → Prop} {Q : Exit → Act → World → Prop} {E : Prop} (hgd : o.guard = none) (d s : Operand) (dT sT : TypeId)
    (ho : o.op = .call { callee := .builtin .copy, args := #[d, s], argTypes := #[dT, sT] }) (elem : TypeId) (hu : P.underlying dT = some (.slice elem)) (hsz : (P.info? elem).map (·.size) = some 1)
    (dp sp : Option Addr) (dLen dCap sLen sCap : Nat) (hd : a.eval d = .slice dp dLen dCap) (hs : a.eval s = .slice sp sLen sCap)
    (g doff so n N : Nat) (f : Nat → Value) (t : TypeId) (hrow : w.rowIs g t N f) (hn : n = Nat.min sLen dLen)
    (hpos : 0 < n → dp = some ⟨g, doff, none⟩ ∧ sp = some ⟨g, so, none⟩) (hfd : doff + n ≤ N) (hfs : so + n ≤ N) (h1 : ∀ i, (f i).oneCell' = true)
    (h : ∀ w', Only (fun k => k = g) w w' → w'.rowIs g t N (fun i => if doff ≤ i ∧ i < doff + n then f (so + (i - doff)) else f i) → K (a.put o.dst (goInt n)) w') :
    if Region.wanted o (yielded ops a.tmps) = true then Oper.wp P o a w K Q else E := by
  have hw : Region.wanted o (yielded ops a.tmps) = true := by simp [Region.wanted, hgd]
  rw [if_pos hw]
  by_cases h0 : n = 0
  · subst h0
    have hrun := run_copy_none (P := P) w dT sT o.type elem dp sp dLen dCap sLen sCap hu hsz hn.symm
    unfold Oper.wp
    simp [execOp, ho, resolve, invoke, builtin, hd, hs, hrun, Result.andThen]
    refine h w (Only.refl _ _) (hrow.congr fun i _ => ?_)
    show f i = if _ then _ else f i
    rw [if_neg (by omega)]
  · obtain ⟨rfl, rfl⟩ := hpos (by omega)
    obtain ⟨cur, hg, hN, hc⟩ := hrow
    have hl : ((List.range n).map (fun j => f (so + j))).length = n := by simp
    have hsrc : ∀ j v, ((List.range n).map (fun j => f (so + j)))[j]? = some v → w.cell? ((⟨g, so, none⟩ : Addr).add j) = some v := by
      intro j v hv
      rw [List.getElem?_map] at hv
      by_cases hj : j < n
      · rw [List.getElem?_range hj] at hv
        have hadd : (⟨g, so, none⟩ : Addr).add j = ⟨g, so + j, none⟩ := by unfold Addr.add; split <;> simp_all
        rw [hadd, cell_of_row w g _ cur t _ hg, hc _ (by omega)]
        simpa using hv
      · rw [List.getElem?_eq_none (by simp; omega)] at hv
        cases hv
    have hrun := run_copy_row (P := P) w dT sT o.type elem g doff dLen dCap ⟨g, so, none⟩ sLen sCap cur t _ hu hsz hg (hl.trans hn) hsrc (by rw [hl]; omega) (fun v hv => by
      obtain ⟨j, _, rfl⟩ := List.mem_map.1 hv
      exact h1 _)
    rw [hl] at hrun
    have hrow' := row_copied hg hN hc doff so n hfd _ rfl
    rw [hl] at hrow'
    unfold Oper.wp
    simp only [execOp, ho, resolve, invoke, builtin, List.map_toArray, List.map_cons, List.map_nil, hd, hs]
    simp [hrun, Result.andThen]
    exact h _ ((Only.refl _ _).setRow g _ rfl) hrow'

end Go.Proofs.Qxb6602711a
