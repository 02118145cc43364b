/-
  'inChain', 'place'.
-/
import Derived.Test.Qxb6604114aAnc
namespace Go.Proofs.Qxb6604114a
open Go.RowKit
set_option linter.unusedVariables false

/-- THE CHAINS IN MEMORY: the struct at hb, the day's control at cb, the three rows in the blocks from w0's end on. -/
structure PSt (w0 : World) (n : Nat) (ca : Option Addr) (cc hb cb : Nat) (pl : Nat → Bool) (pa de : Nat → Int) (w : World) : Prop where
  h0 : w.cell? ⟨hb, 0, none⟩ = some (.pointer (some ⟨cb, 0, none⟩))
  h1 : w.cell? ⟨hb, 1, none⟩ = some (.slice (some ⟨w0.heap.size, 0, none⟩) n n)
  h2 : w.cell? ⟨hb, 2, none⟩ = some (.slice (some ⟨w0.heap.size + 1, 0, none⟩) n n)
  h3 : w.cell? ⟨hb, 3, none⟩ = some (.slice (some ⟨w0.heap.size + 2, 0, none⟩) n n)
  hc : w.cell? ⟨cb, 0, none⟩ = some (.slice ca n cc)
  r1 : w.rowIs w0.heap.size 4 n (fun i => .bool (pl i))
  r2 : w.rowIs (w0.heap.size + 1) 3 n (fun i => .int .i64 (pa i))
  r3 : w.rowIs (w0.heap.size + 2) 3 n (fun i => .int .i64 (de i))
  below : Below w0.heap.size w0 w
  gh : w0.heap.size + 2 < hb
  gc : w0.heap.size + 2 < cb

section
variable {w0 w : World} {n cc hb cb : Nat} {ca : Option Addr} {pl : Nat → Bool} {pa de : Nat → Int}
theorem PSt.drewN (h : PSt w0 n ca cc hb cb pl pa de w) (k : Nat) : PSt w0 n ca cc hb cb pl pa de (w.drewN k) := ⟨h.h0, h.h1, h.h2, h.h3, h.hc, h.r1, h.r2, h.r3, Below.drewN' h.below k, h.gh, h.gc⟩
theorem PSt.drew (h : PSt w0 n ca cc hb cb pl pa de w) : PSt w0 n ca cc hb cb pl pa de w.drew := ⟨h.h0, h.h1, h.h2, h.h3, h.hc, h.r1, h.r2, h.r3, h.below.drew, h.gh, h.gc⟩
theorem PSt.size (h : PSt w0 n ca cc hb cb pl pa de w) : w0.heap.size ≤ w.heap.size := by have := World.block_lt_of_cell? _ _ h.h0; have := h.gh; simp at *; omega
theorem PSt.alloc (h : PSt w0 n ca cc hb cb pl pa de w) (o : Obj) : PSt w0 n ca cc hb cb pl pa de (w.alloc o) := by
  have e : ∀ {a : Addr} {v : Value}, w.cell? a = some v → (w.alloc o).cell? a = some v := fun {a v} q => by rw [World.cell?_alloc_lt _ _ _ (World.block_lt_of_cell? _ _ q)]; exact q
  exact ⟨e h.h0, e h.h1, e h.h2, e h.h3, e h.hc, h.r1.alloc o, h.r2.alloc o, h.r3.alloc o, h.below.alloc h.size o, h.gh, h.gc⟩
theorem PSt.setCells (h : PSt w0 n ca cc hb cb pl pa de w) {b j : Nat} (v : Value) (hb' : b ≤ w0.heap.size + 2) (hb0 : w0.heap.size ≤ b) {pl' : Nat → Bool} {pa' de' : Nat → Int}
    (r1 : (w.setCell ⟨b, j, none⟩ v).rowIs w0.heap.size 4 n (fun i => .bool (pl' i))) (r2 : (w.setCell ⟨b, j, none⟩ v).rowIs (w0.heap.size + 1) 3 n (fun i => .int .i64 (pa' i))) (r3 : (w.setCell ⟨b, j, none⟩ v).rowIs (w0.heap.size + 2) 3 n (fun i => .int .i64 (de' i))) :
    PSt w0 n ca cc hb cb pl' pa' de' (w.setCell ⟨b, j, none⟩ v) := by
  have g1 := h.gh
  have g2 := h.gc
  have e : ∀ {a : Addr} {u : Value}, w0.heap.size + 2 < a.block → w.cell? a = some u → (w.setCell ⟨b, j, none⟩ v).cell? a = some u := fun {a u} q1 q => by
    rw [World.cell?_setCell_other _ _ _ _ (by intro x; rw [← x] at q1; simp at q1; omega)]; exact q
  exact ⟨e g1 h.h0, e g1 h.h1, e g1 h.h2, e g1 h.h3, e g2 h.hc, r1, r2, r3, h.below.setCell (by exact hb0) _, h.gh, h.gc⟩
theorem PSt.setPl (h : PSt w0 n ca cc hb cb pl pa de w) (x : Nat) (y : Bool) : PSt w0 n ca cc hb cb (upd pl x y) pa de (w.setCell ⟨w0.heap.size, x, none⟩ (.bool y)) :=
  h.setCells _ (by omega) (Nat.le_refl _) ((h.r1.set x (.bool y)).congr (fun j _ => by unfold upd; split <;> rfl)) (h.r2.setOther (by simp) _) (h.r3.setOther (by simp) _)
theorem PSt.setPa (h : PSt w0 n ca cc hb cb pl pa de w) (x : Nat) (y : Int) : PSt w0 n ca cc hb cb pl (upd pa x y) de (w.setCell ⟨w0.heap.size + 1, x, none⟩ (.int .i64 y)) :=
  h.setCells _ (by omega) (by omega) (h.r1.setOther (by simp) _) ((h.r2.set x (.int .i64 y)).congr (fun j _ => by unfold upd; split <;> rfl)) (h.r3.setOther (by simp) _)
theorem PSt.setDe (h : PSt w0 n ca cc hb cb pl pa de w) (x : Nat) (y : Int) : PSt w0 n ca cc hb cb pl pa (upd de x y) (w.setCell ⟨w0.heap.size + 2, x, none⟩ (.int .i64 y)) :=
  h.setCells _ (by omega) (by omega) (h.r1.setOther (by simp) _) (h.r2.setOther (by simp) _) ((h.r3.set x (.int .i64 y)).congr (fun j _ => by unfold upd; split <;> rfl))
end

/-- A bool comes back that says whether P. -/
def BoolIff (P : Prop) (e : Ending) : Prop := ∃ r, e = .returned (.bool r) ∧ (r = true ↔ P)

set_option maxRecDepth 100000 in
set_option maxHeartbeats 2000000 in
theorem inChain_any {w0 : World} {n cc hb cb : Nat} {ca : Option Addr} {pl : Nat → Bool} {pa de : Nat → Int} {L : Nat → Nat} {e : Nat → Nat → Nat} {A : Nat → Nat → Bool} {rk : Nat → Nat} (hn : n ≤ 256) (hctl : Ctl n L e A rk) (hI : Inv n L e A pl pa de)
    (w : World) (hP : PSt w0 n ca cc hb cb pl pa de w) (a b : Nat) (ha : a < n) (hbn : b < n) (hpa : pl a = true) (hpb : pl b = true) (hle : cnt n A a ≤ cnt n A b) :
    Calls Try.prog 32 #[.pointer (some ⟨hb, 0, none⟩), .int .i64 a, .int .i64 b] w fun ed w' => BoolIff (a = b ∨ A b a = true) ed ∧ ∃ m, w' = w.drewN m := by
  have h2 := hP.h2
  have h3 := hP.h3
  have ga : w.cell? ⟨w0.heap.size + 2, a, none⟩ = some (.int .i64 (cnt n A a : Int)) := by rw [hP.r3.cell ha, hI.depth a ha hpa]
  have HP := hide hP
  have HI := hide hI
  have HC := hide hctl
  have hca : cnt n A a ≤ 256 := by have := countP_le_n (A a) n; unfold cnt; omega
  clear hP hI hctl
  have i1 : (0 : Int) ≤ (a : Int) := by omega
  have i2 : (a : Int) < (n : Int) := by omega
  go_enter Try.func32, Try.ntmps32
  go_wp2
  go_loopw [2] (fun v wr => ∃ (b' m : Nat), v = .int .i64 b' ∧ b' < n ∧ pl b' = true ∧ cnt n A a ≤ cnt n A b' ∧ ((a = b ∨ A b a = true) ↔ (a = b' ∨ A b' a = true)) ∧ wr = w.drewN m) (fun v _ => cnt n A (intOf v).toNat)
  case atStart => exact ⟨b, 0, rfl, hbn, hpb, hle, Iff.rfl, rfl⟩
  case round =>
    obtain ⟨b', m, rfl, hb', hpb', hle', hiff, rfl⟩ := hrel
    have HF := hide hiff
    clear hiff
    have gb : w.cell? ⟨w0.heap.size + 2, b', none⟩ = some (.int .i64 (cnt n A b' : Int)) := by rw [HP.out.r3.cell hb', HI.out.depth b' hb' hpb']
    have i3 : (0 : Int) ≤ (b' : Int) := by omega
    have i4 : (b' : Int) < (n : Int) := by omega
    by_cases hlt : cnt n A a < cnt n A b'
    · obtain ⟨k, hk, hpk, hplk, hck, hckb, hkiff⟩ := HI.out.up HC.out ha hb' hpb' hlt
      have gp : w.cell? ⟨w0.heap.size + 1, b', none⟩ = some (.int .i64 (k : Int)) := by rw [HP.out.r2.cell hb', hpk]
      have HK := hide hkiff
      have t1 : (cnt n A a : Int) < (cnt n A b' : Int) := by omega
      clear hkiff hpk
      go_wp2
      go_quiet (fail)
      go_wp2
      go_roundw
      case rel => exact ⟨k, _, rfl, hk, hplk, hck, HF.out.trans HK.out, rfl⟩
      case measure => simp [intOf]; omega
    · have t1 : ¬ (cnt n A a : Int) < (cnt n A b' : Int) := by omega
      have hnA : A b' a = false := by
        cases q : A b' a
        · rfl
        · have := HC.out.cnt_lt hb' ha q; omega
      have HnA := hide hnA
      clear hnA
      go_wp2
      go_quiet (fail)
      go_wp2
      go_ret
      refine ⟨⟨_, rfl, ?_⟩, _, rfl⟩
      rw [HF.out, HnA.out]
      simp
      omega

/-- What 'place' answers, and what it leaves. -/
def PlacePost (w0 : World) (n : Nat) (ca : Option Addr) (cc hb cb : Nat) (L : Nat → Nat) (e : Nat → Nat → Nat) (A : Nat → Nat → Bool) (pl : Nat → Bool) (pa de : Nat → Int) (x : Nat) (ed : Ending) (w' : World) : Prop :=
  ∃ pl' pa' de', PSt w0 n ca cc hb cb pl' pa' de' w' ∧ Res n L e A x pl pa de pl' pa' de' ∧
    ((ed = .returned (.pointer none) ∧ pl' x = true) ∨
      ∃ q f o t, ed = .returned (.pointer (some ⟨q, 0, none⟩)) ∧ w'.cell? ⟨q, 0, none⟩ = some (.int .i64 ((f : Nat) : Int)) ∧ w'.cell? ⟨q, 1, none⟩ = some (.int .i64 ((o : Nat) : Int)) ∧ w'.cell? ⟨q, 2, none⟩ = some (.int .i64 ((t : Nat) : Int)) ∧ Conf n L e A x pl' f o t)

/-- WHILE x's CONTROLLERS ARE PLACED: the first j are. -/
structure LS (w0 : World) (n : Nat) (ca : Option Addr) (cc hb cb : Nat) (L : Nat → Nat) (e : Nat → Nat → Nat) (A : Nat → Nat → Bool) (pl : Nat → Bool) (pa de : Nat → Int) (x j : Nat) (near : Int) (pl' : Nat → Bool) (pa' de' : Nat → Int) (wr : World) : Prop where
  st : PSt w0 n ca cc hb cb pl' pa' de' wr
  res : Res n L e A x pl pa de pl' pa' de'
  all : ∀ i, i < j → pl' (e x i) = true
  near : Near n L e A x j near
  un : pl' x = false

theorem Res.trans {n : Nat} {L : Nat → Nat} {e : Nat → Nat → Nat} {A : Nat → Nat → Bool} {x : Nat} {pl pl1 pl2 : Nat → Bool} {pa de pa1 de1 pa2 de2 : Nat → Int} (h1 : Res n L e A x pl pa de pl1 pa1 de1) (h2 : Res n L e A x pl1 pa1 de1 pl2 pa2 de2) : Res n L e A x pl pa de pl2 pa2 de2 := by
  refine ⟨h2.inv, fun v hv h3 => h2.mono v hv (h1.mono v hv h3), fun v hv h3 h4 => ?_, fun v hv h3 => ?_⟩
  · cases h5 : pl1 v
    · exact h2.new v hv h3 h5
    · exact h1.new v hv h5 h4
  · have h5 : pl1 v = pl v := by
      cases h6 : pl v
      · cases h7 : pl1 v
        · rfl
        · have := h2.mono v hv h7; rw [h3, h6] at this; cases this
      · exact h1.mono v hv h6
    have k1 := h1.keep v hv h5
    have k2 := h2.keep v hv (h3.trans h5.symm)
    exact ⟨k2.1.trans k1.1, k2.2.trans k1.2⟩

theorem Res.unx {n : Nat} {L : Nat → Nat} {e : Nat → Nat → Nat} {A : Nat → Nat → Bool} {rk : Nat → Nat} (h : Ctl n L e A rk) {x d : Nat} (hx : x < n) (hd : Dir L e x d) {pl pl' : Nat → Bool} {pa de pa' de' : Nat → Int} (hr : Res n L e A d pl pa de pl' pa' de') (hp : pl x = false) : pl' x = false := by
  cases q : pl' x
  · rfl
  · have hrk := h.rank x d hx hd
    rcases hr.new x hx q hp with h1 | h1
    · rw [← h1] at hrk; omega
    · have := h.lt_rank _ d x (Nat.le_refl _) (h.rng x d hx hd) hx h1; omega

set_option maxRecDepth 100000 in
set_option maxHeartbeats 8000000 in
theorem place_any {w0 : World} {n cc hb cb : Nat} {ca : Option Addr} {L : Nat → Nat} {e : Nat → Nat → Nat} {A : Nat → Nat → Bool} {rk : Nat → Nat} (hn : n ≤ 256) (hL : ∀ i, i < n → L i ≤ 1048576) (hctl : Ctl n L e A rk) (hR : Rows2 w0 ca n L (fun i j => (e i j : Int))) :
    ∀ (m x : Nat) (pl : Nat → Bool) (pa de : Nat → Int) (w : World), rk x < m → x < n → PSt w0 n ca cc hb cb pl pa de w → Inv n L e A pl pa de →
      Calls Try.prog 30 #[.pointer (some ⟨hb, 0, none⟩), .int .i64 x] w fun ed w' => PlacePost w0 n ca cc hb cb L e A pl pa de x ed w' := by
  intro m
  induction m with
  | zero => intro x _ _ _ _ h; omega
  | succ m ih =>
    intro x pl pa de w hrk hx hP hI
    obtain ⟨b0, o0, rfl, r0⟩ := hR (by omega)
    have IH := hide ih
    have HC := hide hctl
    have HL := hide hL
    have HP := hide hP
    have HI := hide hI
    obtain ⟨ai, ci, q0, gI, _⟩ := r0 x hx
    have GI := hide gI
    have hbx := World.block_lt_of_cell? _ _ q0
    have g0 : w.cell? ⟨b0, o0 + x, none⟩ = some (.slice ai (L x) ci) := (hP.below.cell hbx).trans q0
    have h0 := hP.h0
    have h1 := hP.h1
    have hc := hP.hc
    have p1 := hP.r1.cell hx
    have hLx := hL x hx
    have i1 : (0 : Int) ≤ (x : Int) := by omega
    have i2 : (x : Int) < (n : Int) := by omega
    have HQ0 := hide q0
    clear ih hctl hL hP hI r0 hR gI q0
    cases hpx : pl x
    · go_enter Try.func30, Try.ntmps30
      go_wp2
      go_loopw [5, 29] (fun v5 v29 wr => ∃ (j : Nat) (near : Int) (pl' : Nat → Bool) (pa' de' : Nat → Int), v29 = .int .i64 j ∧ v5 = .int .i64 near ∧ j ≤ L x ∧ LS w0 n (some ⟨b0, o0, none⟩) cc hb cb L e A pl pa de x j near pl' pa' de' wr) (fun _ v29 _ => L x - (intOf v29).toNat)
      case atStart => exact ⟨0, -1, pl, pa, de, rfl, rfl, Nat.zero_le _, HP.out, Res.refl HI.out, fun i hi => absurd hi (by omega), Near.start, hpx⟩
      case round =>
        clear h0 h1 hc p1 g0
        obtain ⟨j, near, pl1, pa1, de1, rfl, rfl, hj, hLS⟩ := hrel
        have HS := hide hLS
        clear hLS
        by_cases hlt : j < L x
        · obtain ⟨b', o', q, hc'⟩ := GI.out (by omega)
          cases q
          have q1 := hc' j hlt
          have g1 : wr.cell? ⟨b', o' + j, none⟩ = some (.int .i64 (e x j : Int)) := (HS.out.st.below.cell (World.block_lt_of_cell? _ _ q1)).trans q1
          have hdir : Dir L e x (e x j) := ⟨j, hlt, rfl⟩
          have hdn := HC.out.rng x _ hx hdir
          have hrd := HC.out.rank x _ hx hdir
          have HD := hide hdir
          clear hc' q1 hdir
          go_wp2_with fail
          refine (IH.out (e x j) pl1 pa1 de1 wr (by omega) hdn HS.out.st HS.out.res.inv).mono ?_
          rintro _ w2 ⟨pl2, pa2, de2, hP2, hR2, hres⟩
          have HR2 := hide (Res.then_ HC.out hx HD.out HS.out.res hR2)
          have hun2 := hide (hR2.unx HC.out hx HD.out HS.out.un)
          have HP2 := hide hP2
          rcases hres with ⟨rfl, hpd⟩ | ⟨q, f, o, t, rfl, k0, k1, k2, hconf⟩
          · have hall2 : Hid (∀ i, i < j + 1 → pl2 (e x i) = true) := fun i hi => by
              by_cases q : i = j
              · subst q; exact hpd
              · exact hR2.mono _ (HC.out.rng x _ hx ⟨i, by omega, rfl⟩) (HS.out.all i (by omega))
            have hNr := hide HS.out.near
            have c3 := hP2.h3
            have cd : w2.cell? ⟨w0.heap.size + 2, e x j, none⟩ = some (.int .i64 (cnt n A (e x j) : Int)) := by rw [hP2.r3.cell hdn, HR2.out.inv.depth _ hdn hpd]
            have i3 : (0 : Int) ≤ (e x j : Int) := by omega
            have i4 : (e x j : Int) < (n : Int) := by omega
            by_cases hj0 : j = 0
            · subst hj0
              obtain rfl := hNr.out.none rfl
              have RN := hide (hNr.out.take (.inl (by omega)))
              clear HS hP2 hR2 hpd
              go_wp2
              go_quiet (fail)
              go_wp2
              go_roundw
              case rel => exact ⟨0 + 1, _, pl2, pa2, de2, by go_num, rfl, by omega, HP2.out.drewN _, HR2.out, hall2.out, RN.out, hun2.out⟩
              case measure => simp [intOf]; omega
            · obtain ⟨i, hi, hnear, hmax⟩ := hNr.out.some (by omega)
              subst hnear
              have hkn := HC.out.rng x _ hx ⟨i, by omega, rfl⟩
              have hpk := hall2.out i (by omega)
              have ck : w2.cell? ⟨w0.heap.size + 2, e x i, none⟩ = some (.int .i64 (cnt n A (e x i) : Int)) := by rw [hP2.r3.cell hkn, HR2.out.inv.depth _ hkn hpk]
              have i5 : (0 : Int) ≤ (e x i : Int) := by omega
              have i6 : (e x i : Int) < (n : Int) := by omega
              have i7 : decide ((e x i : Int) < 0) = false := by rw [decide_eq_false_iff_not]; omega
              clear HS hP2 hR2 hpd hmax
              by_cases hgt : cnt n A (e x i) < cnt n A (e x j)
              · have RN := hide (hNr.out.take (.inr ⟨e x i, rfl, hgt⟩))
                have t1 : (cnt n A (e x i) : Int) < (cnt n A (e x j) : Int) := by omega
                go_wp2
                go_quiet (fail)
                go_wp2
                go_roundw
                case rel => exact ⟨j + 1, _, pl2, pa2, de2, by go_num, rfl, by omega, HP2.out.drewN _, HR2.out, hall2.out, RN.out, hun2.out⟩
                case measure => simp [intOf]; omega
              · have RN := hide (hNr.out.keep (e x i) rfl (by omega))
                have t1 : ¬ (cnt n A (e x i) : Int) < (cnt n A (e x j) : Int) := by omega
                go_wp2
                go_quiet (fail)
                go_wp2
                go_roundw
                case rel => exact ⟨j + 1, _, pl2, pa2, de2, by go_num, rfl, by omega, HP2.out.drewN _, HR2.out, hall2.out, RN.out, hun2.out⟩
                case measure => simp [intOf]; omega
          · have RC := hide (hconf.lift HC.out hx HD.out)
            have K := hide (And.intro k0 (And.intro k1 k2))
            clear HS hP2 hR2 hconf k0 k1 k2
            go_wp2
            go_ret
            exact ⟨pl2, pa2, de2, HP2.out, HR2.out, .inr ⟨q, f, o, t, rfl, K.out.1, K.out.2.1, K.out.2.2, RC.out⟩⟩
        · obtain rfl : L x = j := by omega
          have h0 := HS.out.st.h0
          have hc := HS.out.st.hc
          have g0 : wr.cell? ⟨b0, o0 + x, none⟩ = some (.slice ai (L x) ci) := (HS.out.st.below.cell hbx).trans HQ0.out
          obtain ⟨w1, rfl⟩ : ∃ w1 : World, w1 = wr := ⟨_, rfl⟩
          have hNr := hide HS.out.near
          have HR1 := hide HS.out.res
          have hall1 := hide HS.out.all
          have hun1 := hide HS.out.un
          go_wp2
          go_loopw [71] (fun v71 w3 => ∃ (j : Nat), v71 = .int .i64 j ∧ j ≤ L x ∧ PSt w0 n (some ⟨b0, o0, none⟩) cc hb cb pl1 pa1 de1 w3 ∧ ∀ i, i < j → ∀ k : Nat, near = (k : Int) → e x i = k ∨ A k (e x i) = true) (fun v71 _ => L x - (intOf v71).toNat)
          case atStart => exact ⟨0, rfl, Nat.zero_le _, HS.out.st, fun i hi => absurd hi (by omega)⟩
          case round =>
            clear h0 hc g0 HS
            obtain ⟨j, rfl, hj2, hP3, hch⟩ := hrel
            have HP3 := hide hP3
            have HCH := hide hch
            clear hP3 hch
            by_cases hlt2 : j < L x
            · obtain ⟨i, hi, hnear, hmax⟩ := hNr.out.some (by omega)
              have Hnear := hide hnear
              have hkn := HC.out.rng x _ hx ⟨i, hi, rfl⟩
              have hdn := HC.out.rng x _ hx ⟨j, hlt2, rfl⟩
              have hpk := hall1.out i hi
              have hpd := hall1.out j hlt2
              have hmx := hmax j hlt2
              obtain ⟨b', o', q, hc'⟩ := GI.out (by omega)
              cases q
              have q1 := hc' j hlt2
              have g1 : wr.cell? ⟨b', o' + j, none⟩ = some (.int .i64 (e x j : Int)) := (HP3.out.below.cell (World.block_lt_of_cell? _ _ q1)).trans q1
              subst hnear
              clear hc' q1 hmax
              go_wp2_with fail
              refine (inChain_any hn HC.out HR1.out.inv wr HP3.out (e x j) (e x i) hdn hkn hpd hpk hmx).mono ?_
              rintro _ w4 ⟨⟨r, rfl, hr⟩, m', hw4⟩
              have HP4 : Hid (PSt w0 n (some ⟨b0, o0, none⟩) cc hb cb pl1 pa1 de1 w4) := by rw [hw4]; exact HP3.out.drewN _
              clear hw4 g1
              cases r
              · have hno : ¬ (e x j = e x i ∨ A (e x i) (e x j) = true) := fun h => by have := hr.2 h; cases this
                have HCF : Hid (Conf n L e A x pl1 x (e x i) (e x j)) := by
                  refine ⟨hx, .inl rfl, hun1.out, fun q => hno (.inl q.symm), ⟨i, hi, rfl⟩, ⟨j, hlt2, rfl⟩, ?_, ?_⟩
                  · cases q : A (e x i) (e x j)
                    · rfl
                    · exact absurd (.inr q) hno
                  · cases q : A (e x j) (e x i)
                    · rfl
                    · have := HC.out.cnt_lt hdn hkn q; omega
                clear hr hno
                go_wp2
                go_ret
                exact ⟨pl1, pa1, de1, HP4.out.alloc _, HR1.out, .inr ⟨_, _, _, _, rfl, World.cell?_alloc_new _ _ _ _, World.cell?_alloc_new _ _ _ _, World.cell?_alloc_new _ _ _ _, HCF.out⟩⟩
              · have R : Hid (∀ i', i' < j + 1 → ∀ k : Nat, (e x i : Int) = (k : Int) → e x i' = k ∨ A k (e x i') = true) := fun i' hi' k hk => by
                  by_cases q : i' = j
                  · subst q
                    have : k = e x i := by omega
                    subst this
                    exact hr.1 rfl
                  · exact HCH.out i' (by omega) k hk
                clear hr
                go_wp2
                go_roundw
                case rel => exact ⟨j + 1, by go_num, by omega, HP4.out, R.out⟩
                case measure => simp [intOf]; omega
            · obtain rfl : L x = j := by omega
              have hplace := hide (HR1.out.inv.place HC.out hx hun1.out (fun d hd => by obtain ⟨i, hi, rfl⟩ := hd; exact hall1.out i hi) hNr.out (fun d k hd hk => by obtain ⟨i, hi, rfl⟩ := hd; exact HCH.out i hi k hk))
              have HRT := hide (HR1.out.trans hplace.out.2)
              have h1 := HP3.out.h1
              have h2 := HP3.out.h2
              have d2 := HP3.out.r2.cell hx
              have f2 := HP3.out.r2.frozen x
              have d1 := HP3.out.r1.cell hx
              have f1 := HP3.out.r1.frozen x
              have gh := HP3.out.gh
              have hne1 : ¬ hb = w0.heap.size := by omega
              have hne2 : ¬ hb = w0.heap.size + 1 := by omega
              have hne3 : ¬ hb = w0.heap.size + 2 := by omega
              clear hplace HCH
              by_cases hL0 : L x = 0
              · obtain rfl := hNr.out.none hL0
                have HF : Hid (PSt w0 n (some ⟨b0, o0, none⟩) cc hb cb (upd pl1 x true) (upd pa1 x (-1)) de1 ((wr.setCell ⟨w0.heap.size + 1, x, none⟩ (.int .i64 (-1))).setCell ⟨w0.heap.size, x, none⟩ (.bool true))) := (HP3.out.setPa x (-1)).setPl x true
                go_wp2
                go_ret
                exact ⟨_, _, _, HF.out, by have := HRT.out; rw [if_neg (by omega)] at this; exact this, .inl ⟨rfl, upd_same _ _ _⟩⟩
              · obtain ⟨i, hi, hnear, hmax⟩ := hNr.out.some (by omega)
                subst hnear
                have hkn := HC.out.rng x _ hx ⟨i, hi, rfl⟩
                have hpk := hall1.out i hi
                have hck : cnt n A (e x i) ≤ 256 := by have := countP_le_n (A (e x i)) n; unfold cnt; omega
                have hdk : de1 (e x i) = (cnt n A (e x i) : Int) := HR1.out.inv.depth _ hkn hpk
                have ck : wr.cell? ⟨w0.heap.size + 2, e x i, none⟩ = some (.int .i64 (cnt n A (e x i) : Int)) := by rw [HP3.out.r3.cell hkn, hdk]
                have HDK := hide hdk
                have h3 := HP3.out.h3
                have d3 := HP3.out.r3.cell hx
                have f3 := HP3.out.r3.frozen x
                have i5 : (0 : Int) ≤ (e x i : Int) := by omega
                have i6 : (e x i : Int) < (n : Int) := by omega
                have w1' : IntKind.i64.wrap ((cnt n A (e x i) : Int) + 1) = (cnt n A (e x i) : Int) + 1 := by rw [IntKind.wrap_i64]; omega
                clear hdk hmax
                go_wp2
                go_region
                all_goals (go_simp; go_wp2)
                all_goals
                  go_ret
                  refine ⟨_, _, _, (((HP3.out.setPa x _).setDe x _).setPl x true).drew, ?_, .inl ⟨rfl, upd_same _ _ _⟩⟩
                  have := HRT.out
                  rw [if_pos (by omega), Int.toNat_natCast, HDK.out] at this
                  exact this
    · go_enter Try.func30, Try.ntmps30
      go_wp2
      go_ret
      exact ⟨pl, pa, de, HP.out, Res.refl HI.out, .inl ⟨rfl, hpx⟩⟩

end Go.Proofs.Qxb6604114a
