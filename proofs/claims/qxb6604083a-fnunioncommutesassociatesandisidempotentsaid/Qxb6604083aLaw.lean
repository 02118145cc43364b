/-
  THE LAW's WALK.
-/
import Derived.Test.Qxb6604083aZZ
namespace Go.Proofs.Qxb6604083a
open Go.RowKit
set_option linter.unusedVariables false

theorem Ints.congr {w : World} {a : Option Addr} {n : Nat} {F F' : Nat → Int} (h : Ints w a n F) (e : ∀ i, i < n → F i = F' i) : Ints w a n F' := fun hn => by
  obtain ⟨b, o, e', hc⟩ := h hn
  exact ⟨b, o, e', fun i hi => by rw [← e i hi]; exact hc i hi⟩
theorem fF_mk (n : Nat) (F E : Nat → Int) (i : Nat) (h : i < n) : fF (mk n F E) i = F i := by
  unfold fF; rw [List.getD_eq_getElem?_getD, mk_get n F E i h]; rfl
theorem fE_mk (n : Nat) (F E : Nat → Int) (i : Nat) (h : i < n) : fE (mk n F E) i = E i := by
  unfold fE; rw [List.getD_eq_getElem?_getD, mk_get n F E i h]; rfl

set_option maxRecDepth 100000 in
set_option maxHeartbeats 2000000 in
theorem walk_true (a0 a1 a2 a3 a4 a5 : Option Addr) (n m l c0 c1 c2 c3 c4 c5 : Nat) (F0 F1 F2 F3 F4 F5 : Nat → Int) (w : World) (hn : n ≤ 16384) (hm : m ≤ 16384) (hl : l ≤ 16384)
    (z0 : a0 = none → n = 0) (z1 : a1 = none → n = 0) (z2 : a2 = none → m = 0) (z3 : a3 = none → m = 0) (z4 : a4 = none → l = 0) (z5 : a5 = none → l = 0)
    (h0 : Ints w a0 n F0) (h1 : Ints w a1 n F1) (h2 : Ints w a2 m F2) (h3 : Ints w a3 m F3) (h4 : Ints w a4 l F4) (h5 : Ints w a5 l F5) :
    Calls Try.prog 5 #[.slice a0 n c0, .slice a1 n c1, .slice a2 m c2, .slice a3 m c3, .slice a4 l c4, .slice a5 l c5] w fun e w' => e = .returned (.bool true) ∧ Below w.heap.size w w' := by
  have t1 : ((n : Int) != (n : Int)) = false := by simp
  have t2 : ((m : Int) != (m : Int)) = false := by simp
  have t3 : ((l : Int) != (l : Int)) = false := by simp
  have u1 : ¬ (16384 : Int) < (n : Int) := by omega
  have u2 : ¬ (16384 : Int) < (m : Int) := by omega
  have u3 : ¬ (16384 : Int) < (l : Int) := by omega
  go_enter Try.func5, Try.ntmps5
  go_wp2_with fail
  refine (bytes_yes _ _ _ _ _ _ n n m m l l c0 c1 c2 c3 c4 c5 hn hn hm hm hl hl _).mono ?_
  rintro _ w' ⟨rfl, hw⟩
  obtain rfl : w = w' := hw.symm
  go_wp2_with fail
  refine (wellFormed_any a0 a1 n c0 c1 F0 F1 (by omega) _ h0 h1).mono ?_
  rintro _ w1 ⟨⟨b1, rfl, hb1⟩, k1, hw1⟩
  have hB1 : Below w.heap.size w w1 := by rw [hw1]; exact Below.drewN' (Below.refl _ _) _
  clear hw1 hw
  cases b1
  · go_wp2
    go_ret
    exact ⟨rfl, hB1⟩
  have hf1 := hb1 rfl
  have wA := hide (WF_mk n F0 F1 hf1.1 hf1.2)
  clear hb1 hf1
  go_wp2_with fail
  refine (wellFormed_any a2 a3 m c2 c3 F2 F3 (by omega) _ (h2.below hB1) (h3.below hB1)).mono ?_
  rintro _ w2 ⟨⟨b2, rfl, hb2⟩, k2, hw2⟩
  have hB2 : Below w.heap.size w w2 := by rw [hw2]; exact Below.drewN' hB1 _
  clear hw2 hB1
  cases b2
  · go_wp2
    go_ret
    exact ⟨rfl, hB2⟩
  have hf2 := hb2 rfl
  have wB := hide (WF_mk m F2 F3 hf2.1 hf2.2)
  clear hb2 hf2
  go_wp2_with fail
  refine (wellFormed_any a4 a5 l c4 c5 F4 F5 (by omega) _ (h4.below hB2) (h5.below hB2)).mono ?_
  rintro _ w3 ⟨⟨b3, rfl, hb3⟩, k3, hw3⟩
  have hB3 : Below w.heap.size w w3 := by rw [hw3]; exact Below.drewN' hB2 _
  clear hw3 hB2
  cases b3
  · go_wp2
    go_ret
    exact ⟨rfl, hB3⟩
  have hf3 := hb3 rfl
  have wC := hide (WF_mk l F4 F5 hf3.1 hf3.2)
  clear hb3 hf3 t1 t2 t3 u1 u2 u3
  replace h0 := h0.below hB3
  replace h1 := h1.below hB3
  replace h2 := h2.below hB3
  replace h3 := h3.below hB3
  replace h4 := h4.below hB3
  replace h5 := h5.below hB3
  go_wp2_with fail
  refine (copy_any a0 n c0 F0 (by omega) _ z0 h0).mono ?_
  rintro _ w4 ⟨⟨p0, d0, rfl, i0, y0⟩, hb⟩
  replace h1 := h1.below hb
  replace h2 := h2.below hb
  replace h3 := h3.below hb
  replace h4 := h4.below hb
  replace h5 := h5.below hb
  have hB4 : Below w.heap.size w w4 := hB3.trans (hb.mono hB3.size)
  clear hb hB3 h0 z0
  go_wp2_with fail
  refine (copy_any a1 n c1 F1 (by omega) _ z1 h1).mono ?_
  rintro _ w5 ⟨⟨p1, d1, rfl, i1, y1⟩, hb⟩
  replace i0 := i0.below hb
  replace h2 := h2.below hb
  replace h3 := h3.below hb
  replace h4 := h4.below hb
  replace h5 := h5.below hb
  have hB5 : Below w.heap.size w w5 := hB4.trans (hb.mono hB4.size)
  clear hb hB4 h1 z1
  go_wp2_with fail
  refine (copy_any a2 m c2 F2 (by omega) _ z2 h2).mono ?_
  rintro _ w6 ⟨⟨p2, d2, rfl, i2, y2⟩, hb⟩
  replace i0 := i0.below hb
  replace i1 := i1.below hb
  replace h3 := h3.below hb
  replace h4 := h4.below hb
  replace h5 := h5.below hb
  have hB6 : Below w.heap.size w w6 := hB5.trans (hb.mono hB5.size)
  clear hb hB5 h2 z2
  go_wp2_with fail
  refine (copy_any a3 m c3 F3 (by omega) _ z3 h3).mono ?_
  rintro _ w7 ⟨⟨p3, d3, rfl, i3, y3⟩, hb⟩
  replace i0 := i0.below hb
  replace i1 := i1.below hb
  replace i2 := i2.below hb
  replace h4 := h4.below hb
  replace h5 := h5.below hb
  have hB7 : Below w.heap.size w w7 := hB6.trans (hb.mono hB6.size)
  clear hb hB6 h3 z3
  go_wp2_with fail
  refine (copy_any a4 l c4 F4 (by omega) _ z4 h4).mono ?_
  rintro _ w8 ⟨⟨p4, d4, rfl, i4, y4⟩, hb⟩
  replace i0 := i0.below hb
  replace i1 := i1.below hb
  replace i2 := i2.below hb
  replace i3 := i3.below hb
  replace h5 := h5.below hb
  have hB8 : Below w.heap.size w w8 := hB7.trans (hb.mono hB7.size)
  clear hb hB7 h4 z4
  go_wp2_with fail
  refine (copy_any a5 l c5 F5 (by omega) _ z5 h5).mono ?_
  rintro _ w9 ⟨⟨p5, d5, rfl, i5, y5⟩, hb⟩
  replace i0 := i0.below hb
  replace i1 := i1.below hb
  replace i2 := i2.below hb
  replace i3 := i3.below hb
  replace i4 := i4.below hb
  have hB9 : Below w.heap.size w w9 := hB8.trans (hb.mono hB8.size)
  clear hb hB8 h5 z5
  go_wp2_with fail
  refine (zz_any p0 p1 p2 p3 n m d0 d1 d2 d3 F0 F1 F2 F3 (by omega) (by omega) _ y0 y2 i0 i1 i2 i3 wA.out wB.out).mono ?_
  rintro _ w10 ⟨⟨fab, cfab, eab, ceab, Uab, rfl, ifab, ieab, zab, wfab, hsab, lnab⟩, hb⟩
  replace i0 := i0.below hb
  replace i1 := i1.below hb
  replace i2 := i2.below hb
  replace i3 := i3.below hb
  replace i4 := i4.below hb
  replace i5 := i5.below hb
  have hB10 : Below w.heap.size w w10 := hB9.trans (hb.mono hB9.size)
  clear hb hB9
  have Wab := hide wfab
  have Sab := hide hsab
  clear wfab hsab
  go_wp2_with fail
  refine (zz_any p2 p3 p0 p1 m n d2 d3 d0 d1 F2 F3 F0 F1 (by omega) (by omega) _ y2 y0 i2 i3 i0 i1 wB.out wA.out).mono ?_
  rintro _ w11 ⟨⟨fba, cfba, eba, ceba, Uba, rfl, ifba, ieba, zba, wfba, hsba, lnba⟩, hb⟩
  replace i0 := i0.below hb
  replace i1 := i1.below hb
  replace i2 := i2.below hb
  replace i3 := i3.below hb
  replace i4 := i4.below hb
  replace i5 := i5.below hb
  replace ifab := ifab.below hb
  replace ieab := ieab.below hb
  have hB11 : Below w.heap.size w w11 := hB10.trans (hb.mono hB10.size)
  clear hb hB10
  have Wba := hide wfba
  have Sba := hide hsba
  clear wfba hsba
  obtain rfl : Uba = Uab := WF.uniq Wba.out Wab.out (fun x => by rw [Sba.out x, Sab.out x, or_comm])
  go_wp2_with fail
  refine (same_any fab eab fba eba _ cfab ceab cfba ceba _ _ (by omega) _ ifab ieab ifba ieba).mono ?_
  rintro _ w12 ⟨rfl, k12, hw⟩
  have hb : Below w11.heap.size w11 w12 := by rw [hw]; exact Below.drewN' (Below.refl _ _) _
  clear hw
  replace i0 := i0.below hb
  replace i1 := i1.below hb
  replace i2 := i2.below hb
  replace i3 := i3.below hb
  replace i4 := i4.below hb
  replace i5 := i5.below hb
  replace ifab := ifab.below hb
  replace ieab := ieab.below hb
  have hB12 : Below w.heap.size w w12 := hB11.trans (hb.mono hB11.size)
  clear hb hB11
  clear ifba ieba zba lnba
  go_wp2_with fail
  refine (zz_any p2 p3 p4 p5 m l d2 d3 d4 d5 F2 F3 F4 F5 (by omega) (by omega) _ y2 y4 i2 i3 i4 i5 wB.out wC.out).mono ?_
  rintro _ w13 ⟨⟨fbc, cfbc, ebc, cebc, Ubc, rfl, ifbc, iebc, zbc, wfbc, hsbc, lnbc⟩, hb⟩
  replace i0 := i0.below hb
  replace i1 := i1.below hb
  replace i2 := i2.below hb
  replace i3 := i3.below hb
  replace i4 := i4.below hb
  replace i5 := i5.below hb
  replace ifab := ifab.below hb
  replace ieab := ieab.below hb
  have hB13 : Below w.heap.size w w13 := hB12.trans (hb.mono hB12.size)
  clear hb hB12
  have Wbc := hide wfbc
  have Sbc := hide hsbc
  clear wfbc hsbc
  go_wp2_with fail
  refine (zz_any fab eab p4 p5 _ l cfab ceab d4 d5 _ _ F4 F5 (by omega) (by omega) _ zab y4 ifab ieab i4 i5 (by rw [mk_self]; exact Wab.out) wC.out).mono ?_
  rintro _ w14 ⟨⟨fl, cfl, el, cel, Ul, rfl, ifl, iel, zl, wfl, hsl, lnl⟩, hb⟩
  replace i0 := i0.below hb
  replace i1 := i1.below hb
  replace i2 := i2.below hb
  replace i3 := i3.below hb
  replace i4 := i4.below hb
  replace i5 := i5.below hb
  replace ifbc := ifbc.below hb
  replace iebc := iebc.below hb
  have hB14 : Below w.heap.size w w14 := hB13.trans (hb.mono hB13.size)
  clear hb hB13
  have Wl := hide wfl
  have Sl := hide hsl
  clear wfl hsl
  go_wp2_with fail
  refine (zz_any p0 p1 fbc ebc n _ d0 d1 cfbc cebc F0 F1 _ _ (by omega) (by omega) _ y0 zbc i0 i1 ifbc iebc wA.out (by rw [mk_self]; exact Wbc.out)).mono ?_
  rintro _ w15 ⟨⟨fr, cfr, er, cer, Ur, rfl, ifr, ier, zr, wfr, hsr, lnr⟩, hb⟩
  replace i0 := i0.below hb
  replace i1 := i1.below hb
  replace i2 := i2.below hb
  replace i3 := i3.below hb
  replace i4 := i4.below hb
  replace i5 := i5.below hb
  replace ifl := ifl.below hb
  replace iel := iel.below hb
  have hB15 : Below w.heap.size w w15 := hB14.trans (hb.mono hB14.size)
  clear hb hB14
  have Wr := hide wfr
  have Sr := hide hsr
  clear wfr hsr
  obtain rfl : Ur = Ul := WF.uniq Wr.out Wl.out (fun x => by
    have h1 := Sr.out x
    have h2 := Sl.out x
    rw [mk_self] at h1 h2
    rw [h1, h2, Sab.out x, Sbc.out x, or_assoc])
  go_wp2_with fail
  refine (same_any fl el fr er _ cfl cel cfr cer _ _ (by omega) _ ifl iel ifr ier).mono ?_
  rintro _ w16 ⟨rfl, k16, hw⟩
  have hb : Below w15.heap.size w15 w16 := by rw [hw]; exact Below.drewN' (Below.refl _ _) _
  clear hw
  replace i0 := i0.below hb
  replace i1 := i1.below hb
  replace i2 := i2.below hb
  replace i3 := i3.below hb
  replace i4 := i4.below hb
  replace i5 := i5.below hb
  have hB16 : Below w.heap.size w w16 := hB15.trans (hb.mono hB15.size)
  clear hb hB15
  clear ifl iel ifr ier
  go_wp2_with fail
  refine (zz_any p0 p1 p0 p1 n n d0 d1 d0 d1 F0 F1 F0 F1 (by omega) (by omega) _ y0 y0 i0 i1 i0 i1 wA.out wA.out).mono ?_
  rintro _ w17 ⟨⟨faa, cfaa, eaa, ceaa, Uaa, rfl, ifaa, ieaa, zaa, wfaa, hsaa, lnaa⟩, hb⟩
  replace i0 := i0.below hb
  replace i1 := i1.below hb
  replace i2 := i2.below hb
  replace i3 := i3.below hb
  replace i4 := i4.below hb
  replace i5 := i5.below hb
  have hB17 : Below w.heap.size w w17 := hB16.trans (hb.mono hB16.size)
  clear hb hB16
  have Waa := hide wfaa
  have Saa := hide hsaa
  clear wfaa hsaa
  obtain rfl : Uaa = mk n F0 F1 := WF.uniq Waa.out wA.out (fun x => by rw [Saa.out x, or_self])
  rw [mk_length] at ifaa ieaa
  rw [mk_length]
  replace ifaa := ifaa.congr (F' := F0) (fun i hi => fF_mk n F0 F1 i hi)
  replace ieaa := ieaa.congr (F' := F1) (fun i hi => fE_mk n F0 F1 i hi)
  go_wp2_with fail
  refine (same_any faa eaa p0 p1 n cfaa ceaa d0 d1 F0 F1 (by omega) _ ifaa ieaa i0 i1).mono ?_
  rintro _ w18 ⟨rfl, k18, hw⟩
  have hb : Below w.heap.size w w18 := by rw [hw]; exact Below.drewN' hB17 _
  clear hw
  go_wp2
  go_ret
  exact ⟨rfl, hb⟩

end Go.Proofs.Qxb6604083a
