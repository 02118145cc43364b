/-
  'copyMatch' AND 'wrote'.
-/
import Derived.Test.Qxb6602711aLeaf
import Derived.Deep.RegionHeld3
import Derived.Deep.RegionLaw
import Derived.RegionTactic
import Derived.BigRegion
import Derived.Deep.DrawnRows
import Derived.Deep.DeepCutAuto
import Derived.Deep.CutBlock
namespace Go.Proofs.Qxb6602711a
open Go.RowKit

set_option maxHeartbeats 400000 in
theorem wrote_any (z n : Nat) (L D : Int) (hn : n ≤ 1048576) (w : World) (h1 : w.cell? ⟨z, 1, none⟩ = some (.int .u64 L)) (h2 : w.cell? ⟨z, 2, none⟩ = some (.int .u64 D)) (f1 : w.frozen? ⟨z, 1, none⟩ = false) (f2 : w.frozen? ⟨z, 2, none⟩ = false) :
    Calls Try.prog 13 #[.pointer (some ⟨z, 0, none⟩), .int .i64 n] w fun e w' => e = .returned (.tuple #[]) ∧
      w' = (w.setCell ⟨z, 2, none⟩ (.int .u64 (IntKind.u64.wrap (D + n)))).setCell ⟨z, 1, none⟩ (.int .u64 (IntKind.u64.wrap (L - n))) := by
  go_enter Try.func13, Try.ntmps13
  go_wp2
  go_end0
  exact ⟨rfl, rfl⟩

/-- THE STATE OF A READER AND ITS ROW: the reader's block z, the row's block g, all else as in w0. -/
structure St (w0 : World) (z g c off : Nat) (L D M : Int) (e : Nat) (F : Nat → Int) (w : World) : Prop where
  reader : w.heap[z]? = some (.cells (zc L D (.slice (some ⟨g, 0, none⟩) e c) M off) 34 (0, 0))
  row : w.rowIs g 5 c (fun i => .int .u8 (F i))
  only : Only (fun k => k = z ∨ k = g) w0 w

theorem St.drewN {w0 w : World} {z g c off : Nat} {L D M : Int} {e : Nat} {F : Nat → Int} (h : St w0 z g c off L D M e F w) (k : Nat) : St w0 z g c off L D M e F (w.drewN k) := ⟨h.reader, h.row, h.only.drewN k⟩
theorem St.drew {w0 w : World} {z g c off : Nat} {L D M : Int} {e : Nat} {F : Nat → Int} (h : St w0 z g c off L D M e F w) : St w0 z g c off L D M e F w.drew := ⟨h.reader, h.row, h.only.drew⟩
theorem St.cells {w0 w : World} {z g c off : Nat} {L D M : Int} {e : Nat} {F : Nat → Int} (h : St w0 z g c off L D M e F w) :
    w.cell? ⟨z, 1, none⟩ = some (.int .u64 L) ∧ w.cell? ⟨z, 2, none⟩ = some (.int .u64 D) ∧ w.cell? ⟨z, 3, none⟩ = some (.slice (some ⟨g, 0, none⟩) e c) ∧ w.cell? ⟨z, 5, none⟩ = some (.int .u64 M) ∧ w.cell? ⟨z, 6, none⟩ = some (.int .i64 off) ∧
      w.frozen? ⟨z, 1, none⟩ = false ∧ w.frozen? ⟨z, 2, none⟩ = false ∧ w.frozen? ⟨z, 3, none⟩ = false ∧ w.frozen? ⟨z, 5, none⟩ = false :=
  ⟨cell_of_row w z 1 _ _ _ h.reader, cell_of_row w z 2 _ _ _ h.reader, cell_of_row w z 3 _ _ _ h.reader, cell_of_row w z 5 _ _ _ h.reader, cell_of_row w z 6 _ _ _ h.reader,
    frozen_of_row w z 1 _ _ h.reader, frozen_of_row w z 2 _ _ h.reader, frozen_of_row w z 3 _ _ h.reader, frozen_of_row w z 5 _ _ h.reader⟩
theorem St.set {w0 w : World} {z g c off : Nat} {L D M : Int} {e : Nat} {F : Nat → Int} (h : St w0 z g c off L D M e F w) (hzg : z ≠ g) (j : Nat) (v : Value) (L' D' M' : Int) (e' : Nat)
    (hv : (zc L D (.slice (some ⟨g, 0, none⟩) e c) M off).setIfInBounds j v = zc L' D' (.slice (some ⟨g, 0, none⟩) e' c) M' off) : St w0 z g c off L' D' M' e' F (w.setCell ⟨z, j, none⟩ v) :=
  ⟨by rw [heap_setCell_same w z j _ _ v h.reader, hv], h.row.setOther (fun q => hzg q.symm) v, h.only.setCell _ _ (.inl rfl)⟩
theorem St.copied {w0 w w' : World} {z g c off : Nat} {L D M : Int} {e : Nat} {F G : Nat → Int} (h : St w0 z g c off L D M e F w) (hzg : z ≠ g) (ho : Only (fun k => k = g) w w') (hr : w'.rowIs g 5 c (fun i => .int .u8 (G i))) : St w0 z g c off L D M e G w' :=
  ⟨(ho.block z hzg).trans h.reader, hr, h.only.trans (ho.mono fun _ q => .inr q)⟩

set_option maxRecDepth 100000 in
set_option maxHeartbeats 1000000 in
theorem copy_any (w : World) (z g e c off m n : Nat) (L D : Int) (f : Nat → Int) (hzg : z ≠ g) (hS : St w z g c off L D m e f w)
    (hc : c ≤ 1048576) (hec : e ≤ c) (ho1 : 1 ≤ off) (ho2 : off ≤ e) (hm : m ≤ 18446744073709551615) (hn : n = min m (c - e)) :
    Calls Try.prog 12 #[.pointer (some ⟨z, 0, none⟩)] w fun ed w' => ed = .returned (.tuple #[]) ∧
      St w z g c off (IntKind.u64.wrap (L - n)) (IntKind.u64.wrap (D + n)) ((m - n : Nat) : Int) (e + n) (lz f e off n) w' := by
  obtain ⟨c1, c2, c3, c5, c6, f1, f2, f3, f5⟩ := hS.cells
  have hnm : n ≤ m := by omega
  have hnc : e + n ≤ c := by omega
  have Hn : Hid (n = min m (c - e)) := hn
  clear hn
  go_enter Try.func12, Try.ntmps12
  go_wp2
  go_cut [2] from 6 to 23 (fun v w' => v = .int .i64 n ∧ ∃ k, w' = w.drewN k)
  case first =>
    by_cases hmc : (m : Int) ≤ (c : Int) - (e : Int)
    · go_quiet (fail)
      go_wp2
      go_meet
      case rel => exact ⟨by have := Hn.out; rw [Nat.min_eq_left (by omega)] at this; rw [this], _, rfl⟩
    · go_quiet (fail)
      go_wp2
      go_meet
      case rel => exact ⟨by have := Hn.out; rw [Nat.min_eq_right (by omega)] at this; rw [this]; go_num, _, rfl⟩
  case rest =>
    obtain ⟨rfl, k0, rfl⟩ := hcut
    have hS1 : St w z g c off L D m (e + n) f ((w.drewN k0).setCell ⟨z, 3, none⟩ (.slice (some ⟨g, 0, none⟩) (e + n) c)) := (hS.drewN k0).set hzg 3 _ L D m (e + n) rfl
    go_upto_region 3 with fail
    go_cut [4] from 24 to 45 (fun v w' => ∃ dp, v = .slice dp n (c - e) ∧ (0 < n → dp = some ⟨g, e, none⟩) ∧ St w z g c off L D m (e + n) f w')
    case first =>
      by_cases hE : (e : Int) = (c : Int)
      · obtain rfl : e = c := by omega
        obtain rfl : n = 0 := by omega
        go_wp2
        go_meet
        case rel => exact ⟨some ⟨g, 0, none⟩, by simp, fun h => absurd h (by omega), hS1⟩
      · have hE1 : ¬ e = c := by omega
        have hE2 : (e : Int) ≤ (c : Int) := by omega
        clear hE
        go_wp2
        go_meet
        case rel => exact ⟨some ⟨g, e, none⟩, by simp, fun _ => rfl, hS1⟩
    case rest =>
      clear hS1 c1 c2 c3 c5 c6 f1 f2 f3 f5
      obtain ⟨dp, rfl, hdp, hS1⟩ := hcut
      go_wp2
      obtain ⟨c1, c2, c3, c5, c6, f1, f2, f3, f5⟩ := hS1.cells
      have hz1 : IntKind.i64.wrap ((e : Int) - (off : Int)) = ((e - off : Nat) : Int) := by rw [IntKind.wrap_i64]; omega
      have hz2 : ((e - off : Nat) : Int) ≤ (e : Int) := by omega
      have hz3 : (0 : Int) ≤ ((e - off : Nat) : Int) := by omega
      have hz4 : ¬ c = e - off := by omega
      go_cut [5] from 46 to 59 (fun v w' => ∃ d, v = .int .i64 ((d : Nat) : Int) ∧ d = min off n ∧ St w z g c off L D m (e + n) (lz f e off d) w')
      case first =>
        have hmin : Hid (min off n = Nat.min (e - (e - off)) n) := by show min off n = min (e - (e - off)) n; rw [show e - (e - off) = off by omega]
        have hpos : Hid (0 < min off n → dp = some ⟨g, e, none⟩ ∧ some (⟨g, e - off, none⟩ : Addr) = some ⟨g, e - off, none⟩) := fun h => ⟨hdp (by omega), rfl⟩
        have hfd : e + min off n ≤ c := by omega
        have hfs : e - off + min off n ≤ c := by omega
        have hfin : ∀ w2, Only (fun k => k = g) wc w2 → w2.rowIs g 5 c (fun i => if e ≤ i ∧ i < e + min off n then (Value.int .u8 (f (e - off + (i - e)))) else .int .u8 (f i)) → St w z g c off L D m (e + n) (lz f e off (min off n)) w2 := fun w2 hO hR =>
          hS1.copied hzg hO (hR.congr fun i _ => by
            show _ = Value.int .u8 (lz f e off (min off n) i)
            rw [lz_first f e off _ i (by omega)]
            split <;> rfl)
        have HF := hide hfin
        clear hfin hdp
        go_region_law ((refine step_copy_row (by rfl) (.tmp 46) (.tmp 58) 22 22 (by rfl) 5 Try.underlying22 (by kernel_rfl) dp (some ⟨g, e - off, none⟩) n (c - e) (e - (e - off)) (c - (e - off)) (by rfl) (by rfl) g e (e - off) (min off n) c (fun i => .int .u8 (f i)) 5 hS1.row.drew hmin.out hpos.out hfd hfs (fun _ => rfl) ?_; intro w2 hO2 hR2))
        all_goals go_wp2
        all_goals
          go_meet
          case rel => exact ⟨min off n, rfl, rfl, HF.out w2 hO2.of_drew hR2⟩
      case rest =>
        clear hS1 c1 c2 c3 c5 c6 f1 f2 f3 f5 hz1 hz2 hz3 hz4 hS
        obtain ⟨d0, rfl, hd0, hS1⟩ := hcut
        go_wp2
        go_loopw [5] (fun v w' => ∃ d : Nat, v = .int .i64 d ∧ d ≤ n ∧ (d = n ∨ (d % off = 0 ∧ 0 < d)) ∧ St w z g c off L D m (e + n) (lz f e off d) w') (fun v _ => n - (intOf v).toNat)
        case atStart =>
          refine ⟨d0, rfl, by omega, ?_, hS1⟩
          rcases Nat.lt_or_ge off n with h | h
          · right; rw [Nat.min_eq_left (by omega)] at hd0; subst hd0; exact ⟨Nat.mod_self _, by omega⟩
          · left; omega
        case round =>
          clear hS1 hd0
          obtain ⟨d, rfl, hdn, hdd, hSd⟩ := hrel
          by_cases hlt : d < n
          · obtain ⟨hd1, hd2⟩ := hdd.resolve_left (by omega)
            obtain rfl := hdp (by omega)
            have Hd1 := hide hd1
            clear hd1 hdd hdp
            have hfin : ∀ w2, Only (fun k => k = g) wr w2 → w2.rowIs g 5 c (fun i => if e + d ≤ i ∧ i < e + d + min d (n - d) then (Value.int .u8 (lz f e off d (e + (i - (e + d))))) else .int .u8 (lz f e off d i)) → St w z g c off L D m (e + n) (lz f e off (d + min d (n - d))) w2 := fun w2 hO hR =>
              hSd.copied hzg hO (hR.congr fun i _ => by
                show _ = Value.int .u8 (lz f e off (d + min d (n - d)) i)
                rw [lz_more f e off d (min d (n - d)) i Hd1.out (by omega)]
                split <;> rfl)
            have HF := hide hfin
            have Hend : Hid (d + min d (n - d) = n ∨ ((d + min d (n - d)) % off = 0 ∧ 0 < d + min d (n - d))) := by
              rcases Nat.lt_or_ge d (n - d) with h | h
              · right; rw [Nat.min_eq_left (by omega)]; exact ⟨by rw [Nat.add_mod, Hd1.out]; simp, by omega⟩
              · left; rw [Nat.min_eq_right h]; omega
            have hfd : e + d + min d (n - d) ≤ c := by omega
            have hfs : e + min d (n - d) ≤ c := by omega
            have hz1 : (0 : Int) ≤ (d : Int) := by omega
            have hz2 : (d : Int) ≤ (n : Int) := by omega
            have hz3 : ¬ c - e = d := by omega
            have hz4 : (d : Int) ≤ ((c - e : Nat) : Int) := by omega
            have hz5 : IntKind.i64.wrap ((d : Int) + ((min d (n - d) : Nat) : Int)) = ((d + min d (n - d) : Nat) : Int) := by rw [IntKind.wrap_i64]; omega
            clear hfin
            go_wp2
            go_region_law ((refine step_copy_row (by rfl) (.tmp 66) (.tmp 69) 22 22 (by rfl) 5 Try.underlying22 (by kernel_rfl) (some ⟨g, e + d, none⟩) (some ⟨g, e, none⟩) (n - d) (c - e - d) d (c - e) (by go_simp) (by go_simp) g (e + d) e (min d (n - d)) c (fun i => .int .u8 (lz f e off d i)) 5 hSd.row.drew rfl (fun _ => ⟨rfl, rfl⟩) hfd hfs (fun _ => rfl) ?_; intro w2 hO2 hR2))
            all_goals (go_simp; go_wp2)
            all_goals
              go_roundw
              case rel => exact ⟨d + min d (n - d), by go_num, by omega, Hend.out, HF.out w2 hO2.of_drew hR2⟩
              case measure => simp [intOf]; omega
          · obtain rfl : d = n := by omega
            have hS2 : St w z g c off L D ((m - d : Nat) : Int) (e + d) (lz f e off d) (wr.setCell ⟨z, 5, none⟩ (.int .u64 ((m : Int) - (d : Int)))) := hSd.set hzg 5 _ L D _ (e + d) (by rw [show ((m : Int) - (d : Int)) = ((m - d : Nat) : Int) by omega]; rfl)
            obtain ⟨c1, c2, c3, c5, c6, f1, f2, f3, f5⟩ := hSd.cells
            obtain ⟨k1, k2, k3, k5, k6, g1, g2, g3, g5⟩ := hS2.cells
            have HS2 := hide hS2
            clear hdd hdp hS2 k3 k5 k6 g3 g5 c6 f3 hSd Hn
            have hm1 : (d : Int) ≤ (m : Int) := by omega
            have hm2 : (m : Int) ≤ 18446744073709551615 := by omega
            go_wp2_with (go_at_call 13; refine (wrote_any z d L D (by omega) _ k1 k2 g1 g2).mono ?_; rintro e' w' ⟨rfl, rfl⟩)
            go_end0
            exact ⟨rfl, (HS2.out.set hzg 2 _ L _ _ _ rfl).set hzg 1 _ _ _ _ _ rfl⟩

end Go.Proofs.Qxb6602711a
