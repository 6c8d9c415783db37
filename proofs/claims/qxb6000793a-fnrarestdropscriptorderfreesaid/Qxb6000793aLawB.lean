/-
  The walk of FnRarestDropScriptOrderFree.
-/
import Derived.Test.Qxb6000793aRowsB
import Derived.Test.Qxb6000793aLawA
namespace Go.Proofs.Qxb6000793a
open Go.RowKit

set_option maxHeartbeats 16000000 in
set_option maxRecDepth 1000000 in
theorem lawB (a0 a1 a2 a3 a4 : Option Addr) (no c0 np c1 nf c2 nc c3 ni c4 : Nat) (o p f c ids : Nat → Int) (w : World)
    (h0 : no ≤ maxLen) (h1 : np ≤ maxLen) (h2 : nf ≤ maxLen) (h3 : nc ≤ maxLen) (h4 : ni ≤ maxLen)
    (r0 : Row w a0 no o) (r1 : Row w a1 np p) (r2 : Row w a2 nf f) (r3 : Row w a3 nc c) (r4 : Row w a4 ni ids)
    (k0 : a0 = none → no = 0 ∧ c0 = 0) (k1 : a1 = none → np = 0 ∧ c1 = 0) (k2 : a2 = none → nf = 0 ∧ c2 = 0) (k3 : a3 = none → nc = 0 ∧ c3 = 0) (k4 : a4 = none → ni = 0 ∧ c4 = 0) :
    Calls Try.prog 7 #[.slice a0 no c0, .slice a1 np c1, .slice a2 nf c2, .slice a3 nc c3, .slice a4 ni c4] w fun e w' => LEnd w e w' := by
  have H0 : Hid (a0 = none → no = 0 ∧ c0 = 0) := k0
  have H1 : Hid (a1 = none → np = 0 ∧ c1 = 0) := k1
  have H2 : Hid (a2 = none → nf = 0 ∧ c2 = 0) := k2
  have H3 : Hid (a3 = none → nc = 0 ∧ c3 = 0) := k3
  have H4 : Hid (a4 = none → ni = 0 ∧ c4 = 0) := k4
  clear k0 k1 k2 k3 k4
  go_enter Try.func7, Try.ntmps7
  go_wp2_with fail
  refine (bytes17 a0 a1 a2 a3 a4 no c0 np c1 nf c2 nc c3 ni c4 w h0 h1 h2 h3 h4).mono ?_
  rintro e w' ⟨bb, rfl, hS, rfl⟩
  rename World => w
  cases bb with
  | false =>
    go_wp2
    go_ret
    exact lend (Below.refl _ _)
  | true =>
  have hS0 := hS rfl
  clear hS h0 h1 h2 h3 h4
  by_cases hsum : no + np + nf + nc + ni ≤ 131072
  case neg =>
    have hd : (131072 : Int) < no + np + nf + nc + ni := by omega
    go_wp2
    go_ret
    exact lend (Below.refl _ _)
  have hd2 : decide ((131072 : Int) < no + np + nf + nc + ni) = false := decide_eq_false (by omega)
  by_cases hnf : nf ≤ 4096
  case neg =>
    have hd : (4096 : Int) < nf := by omega
    go_wp2
    go_ret
    exact lend (Below.refl _ _)
  have hd3 : decide ((4096 : Int) < nf) = false := decide_eq_false (by omega)
  go_wp2_with fail
  refine (valid_any a0 a1 a2 a3 no c0 np c1 nf c2 nc c3 o p f c w r0 r1 r2 r3 (by omega) (by omega) (by omega) (by omega)).mono ?_
  rintro e w1 ⟨bb, rfl, hV, hB1⟩
  cases bb with
  | false =>
    clear hV
    go_wp2
    go_ret
    exact lend hB1
  | true =>
  have HV : Valid no np nf nc o p f c := hV.1 rfl
  clear hV hd2 hd3
  have q0 := r0.below hB1 (Nat.le_refl _)
  have q1 := r1.below hB1 (Nat.le_refl _)
  have q2 := r2.below hB1 (Nat.le_refl _)
  have q3 := r3.below hB1 (Nat.le_refl _)
  have q4 := r4.below hB1 (Nat.le_refl _)
  clear r0 r1 r2 r3 r4
  have z1 := hB1.size
  have zo : no ≤ 1048576 := by omega
  have zp : np ≤ 1048576 := by omega
  have zf : nf ≤ 1048576 := by omega
  have zc : nc ≤ 1048576 := by omega
  have zi : ni ≤ 1048576 := by omega
  go_wp2_with fail
  refine (clone_any a0 no c0 o w1 q0 H0.out zo).mono ?_
  rintro e w2 ⟨A0, C0, rfl, e0, N0, hB2, M0⟩
  have N0 : Hid (A0 = none → no = 0 ∧ C0 = 0) := N0
  have z2 := hB2.size
  have q1 := q1.below hB2 (Nat.le_refl _)
  have q2 := q2.below hB2 (Nat.le_refl _)
  have q3 := q3.below hB2 (Nat.le_refl _)
  have q4 := q4.below hB2 (Nat.le_refl _)
  clear q0
  go_wp2_with fail
  refine (clone_any a1 np c1 p w2 q1 H1.out zp).mono ?_
  rintro e w3 ⟨A1, C1, rfl, e1, N1, hB3, M1⟩
  have N1 : Hid (A1 = none → np = 0 ∧ C1 = 0) := N1
  have z3 := hB3.size
  have q2 := q2.below hB3 (Nat.le_refl _)
  have q3 := q3.below hB3 (Nat.le_refl _)
  have q4 := q4.below hB3 (Nat.le_refl _)
  have M0 := M0.below hB3 (Nat.le_refl _)
  clear q1
  go_wp2_with fail
  refine (clone_any a2 nf c2 f w3 q2 H2.out zf).mono ?_
  rintro e w4 ⟨A2, C2, rfl, e2, N2, hB4, M2⟩
  have N2 : Hid (A2 = none → nf = 0 ∧ C2 = 0) := N2
  have z4 := hB4.size
  have q3 := q3.below hB4 (Nat.le_refl _)
  have q4 := q4.below hB4 (Nat.le_refl _)
  have M0 := M0.below hB4 z3
  have M1 := M1.below hB4 (Nat.le_refl _)
  clear q2
  go_wp2_with fail
  refine (clone_any a3 nc c3 c w4 q3 H3.out zc).mono ?_
  rintro e w5 ⟨A3, C3, rfl, e3, N3, hB5, M3⟩
  have z5 := hB5.size
  have q4 := q4.below hB5 (Nat.le_refl _)
  have M0 := M0.below hB5 (by omega)
  have M1 := M1.below hB5 z4
  have M2 := M2.below hB5 (Nat.le_refl _)
  clear q3 N3
  go_wp2_with fail
  refine (clone_any a4 ni c4 ids w5 q4 H4.out zi).mono ?_
  rintro e w6 ⟨A4, C4, rfl, e4, N4, hB6, M4⟩
  have z6 := hB6.size
  have M0 : Mine w6 0 w6.heap.size A0 no o := (M0.below hB6 (by omega)).wide (Nat.zero_le _) (by omega)
  have M1 : Mine w6 0 w6.heap.size A1 np p := (M1.below hB6 (by omega)).wide (Nat.zero_le _) (by omega)
  have M2 : Mine w6 0 w6.heap.size A2 nf f := (M2.below hB6 z5).wide (Nat.zero_le _) (by omega)
  have M3 : Mine w6 0 w6.heap.size A3 nc c := (M3.below hB6 (Nat.le_refl _)).wide (Nat.zero_le _) (by omega)
  have M4 : Mine w6 0 w6.heap.size A4 ni ids := M4.wide (Nat.zero_le _) (Nat.le_refl _)
  have HB : Below w.heap.size w w6 := ((((hB1.trans (hB2.mono z1)).trans (hB3.mono (by omega))).trans (hB4.mono (by omega))).trans (hB5.mono (by omega))).trans (hB6.mono (by omega))
  have Z : w.heap.size ≤ w6.heap.size := by omega
  clear hB1 hB2 hB3 hB4 hB5 hB6 q4 N4 z1 z2 z3 z4 z5 z6 H0 H1 H2 H3 H4
  go_wp2_with fail
  refine (clone_any A0 no C0 o w6 M0.row N0.out zo).mono ?_
  rintro e w7 ⟨ao, co, rfl, eo, No, hB7, Mo⟩
  have z7 := hB7.size
  clear No
  go_wp2_with fail
  refine (clone_any A1 np C1 p w7 (M1.below hB7 (Nat.le_refl _)).row N1.out zp).mono ?_
  rintro e w8 ⟨ap, cp, rfl, ep, Np, hB8, Mp⟩
  have z8 := hB8.size
  have Mo := Mo.below hB8 (Nat.le_refl _)
  clear Np
  go_wp2_with fail
  refine (clone_any A2 nf C2 f w8 ((M2.below hB7 (Nat.le_refl _)).below hB8 z7).row N2.out zf).mono ?_
  rintro e w9 ⟨af, cf, rfl, ef, Nf, hB9, Mf⟩
  have z9 := hB9.size
  have Mo := Mo.below hB9 z8
  have Mp := Mp.below hB9 (Nat.le_refl _)
  clear Nf
  have hB69 : Below w6.heap.size w6 w9 := (hB7.trans (hB8.mono z7)).trans (hB9.mono (by omega))
  have S0 : Sta w9 w6.heap.size w7.heap.size w8.heap.size w9.heap.size ao ap af no np nf nc c p (fun q => ∃ j, j < 0 ∧ ids j = q) no :=
    ⟨o, p, f, HV, fun q hq => ⟨fun h => Or.inl h, fun h => by rcases h with h | ⟨j, hj, _⟩; exact h; omega⟩, Nat.le_refl _, Mo, Mp, Mf⟩
  clear hB7 hB8 hB9 Mo Mp Mf
  go_wp2
  go_loopw [12, 13, 14, 15] (fun s12 s13 s14 s15 wr => ∃ k l : Nat, k ≤ ni ∧ s12 = .slice ao l co ∧ s13 = .slice ap np cp ∧ s14 = .slice af nf cf ∧ s15 = .int .i64 k ∧
      Sta wr w6.heap.size w7.heap.size w8.heap.size w9.heap.size ao ap af no np nf nc c p (fun q => ∃ j, j < k ∧ ids j = q) l ∧ Below w6.heap.size w9 wr) (fun _ _ _ s15 _ => ni - (intOf s15).toNat)
  case atStart => exact ⟨0, no, Nat.zero_le _, rfl, rfl, rfl, rfl, S0, Below.refl _ _⟩
  case round =>
    obtain ⟨k, l, hk, rfl, rfl, rfl, rfl, hSt, hBr⟩ := hrel
    rename World => x
    clear S0
    have hBx : Below w6.heap.size w6 x := hB69.trans hBr
    have zx := hBr.size
    by_cases hlt : k < ni
    · have hlt' : (k : Int) < ni := by omega
      obtain ⟨b4, rfl, u4, v4, O4⟩ := (M4.below hBx (Nat.le_refl _)).get (by omega)
      have ck := (O4 k hlt).1
      obtain ⟨y, hy⟩ : ∃ y, ids k = y := ⟨_, rfl⟩
      rw [hy] at ck
      have HY : Hid (ids k = y) := hy
      clear hy
      by_cases hin : 0 ≤ y ∧ y < np
      case neg =>
        have HS' : Hid (Sta x w6.heap.size w7.heap.size w8.heap.size w9.heap.size ao ap af no np nf nc c p (fun q => ∃ j, j < k + 1 ∧ ids j = q) l) := by
          refine hSt.congr (fun q hq => ⟨fun ⟨j, h1, h2⟩ => ⟨j, by omega, h2⟩, fun ⟨j, h1, h2⟩ => ⟨j, ?_, h2⟩⟩)
          by_cases e : j = k
          · subst e; rw [HY.out] at h2; omega
          · omega
        by_cases hy0 : 0 ≤ y
        · have hd0 : decide (y < 0) = false := decide_eq_false (by omega)
          have hd1 : decide ((np : Int) ≤ y) = true := decide_eq_true (by omega)
          clear hin
          go_wp2
          go_roundw
          case rel => exact ⟨k + 1, l, by omega, rfl, rfl, rfl, by go_num, HS'.out, hBr⟩
          case measure => simp [intOf]; omega
        · have hd0 : decide (y < 0) = true := decide_eq_true (by omega)
          clear hin
          go_wp2
          go_roundw
          case rel => exact ⟨k + 1, l, by omega, rfl, rfl, rfl, by go_num, HS'.out, hBr⟩
          case measure => simp [intOf]; omega
      obtain ⟨hy0, hy1⟩ := hin
      obtain ⟨Y, rfl⟩ := Int.eq_ofNat_of_zero_le hy0
      have hd0 : decide ((Y : Int) < 0) = false := decide_eq_false (by omega)
      have hd1 : decide (np ≤ Y) = false := decide_eq_false (by omega)
      have hlen : Hid (nc = np) := HV.len
      have hYc : (Y : Int) < nc := by have := hlen.out; omega
      obtain ⟨b3, rfl, u3, v3, O3⟩ := (M3.below hBx (Nat.le_refl _)).get (by omega)
      have cc := (O3 Y (by omega)).1
      obtain ⟨h, hh⟩ : ∃ h, c Y = h := ⟨_, rfl⟩
      rw [hh] at cc
      have HC : Hid (c Y = h) := hh
      clear hh
      go_wp2_with fail
      refine (zz_sta w6.heap.size w7.heap.size w8.heap.size w9.heap.size ao ap af no co np cp nf cf nc c p _ l Y h x hSt z7 eo zo zf (by omega) HC.out (by omega)).mono ?_
      rintro e x1 ⟨l1, rfl, hS1, hB1⟩
      have HS' : Hid (Sta x1 w6.heap.size w7.heap.size w8.heap.size w9.heap.size ao ap af no np nf nc c p (fun q => ∃ j, j < k + 1 ∧ ids j = q) l1) := by
        refine hS1.congr (fun q hq => ⟨?_, ?_⟩)
        · rintro (⟨j, h1, h2⟩ | rfl)
          · exact ⟨j, by omega, h2⟩
          · exact ⟨k, by omega, HY.out⟩
        · rintro ⟨j, h1, h2⟩
          by_cases e : j = k
          · subst e; rw [HY.out] at h2; right; omega
          · left; exact ⟨j, by omega, h2⟩
      clear hS1 hSt ck cc O4 O3
      go_wp2
      go_roundw
      case rel => exact ⟨k + 1, l1, by omega, rfl, rfl, rfl, by go_num, HS'.out, hBr.trans hB1⟩
      case measure => simp [intOf]; omega
    · have hge : ¬ (k : Int) < ni := by omega
      obtain rfl : ni = k := by omega
      clear hlt hk
      have M0 := M0.below hBx (Nat.le_refl _)
      have M1 := M1.below hBx (Nat.le_refl _)
      have M2 := M2.below hBx (Nat.le_refl _)
      have M3 := M3.below hBx (Nat.le_refl _)
      have M4 := M4.below hBx (Nat.le_refl _)
      have HBx := HB.trans (hBx.mono Z)
      go_wp2_with fail
      refine (clone_any A0 no C0 o x M0.row N0.out zo).mono ?_
      rintro e y1 ⟨bo, do_, rfl, fo, No, hC1, Po⟩
      have u1 := hC1.size
      clear No
      go_wp2_with fail
      refine (clone_any A1 np C1 p y1 (M1.below hC1 (by omega)).row N1.out zp).mono ?_
      rintro e y2 ⟨bp, dp, rfl, fp, Np, hC2, Pp⟩
      have u2 := hC2.size
      have Po := Po.below hC2 (Nat.le_refl _)
      clear Np
      go_wp2_with fail
      refine (clone_any A2 nf C2 f y2 ((M2.below hC1 (by omega)).below hC2 (by omega)).row N2.out zf).mono ?_
      rintro e y3 ⟨bf, df, rfl, ff, Nf, hC3, Pf⟩
      have u3 := hC3.size
      have Po := Po.below hC3 u2
      have Pp := Pp.below hC3 (Nat.le_refl _)
      clear Nf
      have hCx : Below x.heap.size x y3 := (hC1.trans (hC2.mono u1)).trans (hC3.mono (by omega))
      have T0 : Sta y3 x.heap.size y1.heap.size y2.heap.size y3.heap.size bo bp bf no np nf nc c p (fun q => ∃ j : Nat, (ni : Int) - 1 < j ∧ j < ni ∧ ids j = q) no :=
        ⟨o, p, f, HV, fun q hq => ⟨fun h => Or.inl h, fun h => by rcases h with h | ⟨j, h1, h2, _⟩; exact h; omega⟩, Nat.le_refl _, Po, Pp, Pf⟩
      have hSt := hSt.below hCx (by omega) (by omega) (by omega)
      have M1 := M1.below hCx (by omega)
      have M3 := M3.below hCx (by omega)
      have M4 := M4.below hCx (by omega)
      have HBy := HBx.trans (hCx.mono (by omega))
      clear hC1 hC2 hC3 Po Pp Pf M0 M2 N0 N1 N2 hBx hBr HBx hB69 HB
      go_wp2
      go_loopw [17, 18, 19, 20] (fun s17 s18 s19 s20 wr => ∃ (z : Int) (m : Nat), -1 ≤ z ∧ z < ni ∧ s17 = .slice bo m do_ ∧ s18 = .slice bp np dp ∧ s19 = .slice bf nf df ∧ s20 = .int .i64 z ∧
          Sta wr x.heap.size y1.heap.size y2.heap.size y3.heap.size bo bp bf no np nf nc c p (fun q => ∃ j : Nat, z < j ∧ j < ni ∧ ids j = q) m ∧ Below x.heap.size y3 wr) (fun _ _ _ s20 _ => (intOf s20 + 1).toNat)
      case atStart => exact ⟨(ni : Int) - 1, no, by omega, by omega, rfl, rfl, rfl, by go_num, T0, Below.refl _ _⟩
      case round =>
        obtain ⟨z, m, hz0, hz1, rfl, rfl, rfl, rfl, hTt, hBr⟩ := hrel
        rename World => y
        clear T0
        have zy := hBr.size
        have M1 := M1.below hBr (by omega)
        have M3 := M3.below hBr (by omega)
        have M4 := M4.below hBr (by omega)
        have hSt := hSt.below hBr (by omega) (by omega) (by omega)
        by_cases hzn : 0 ≤ z
        · obtain ⟨k, rfl⟩ := Int.eq_ofNat_of_zero_le hzn
          obtain ⟨b4, rfl, u4, v4, O4⟩ := M4.get (by omega)
          have ck := (O4 k (by omega)).1
          obtain ⟨t, ht⟩ : ∃ t, ids k = t := ⟨_, rfl⟩
          rw [ht] at ck
          have HY : Hid (ids k = t) := ht
          clear ht
          by_cases hin : 0 ≤ t ∧ t < np
          case neg =>
            have HS' : Hid (Sta y x.heap.size y1.heap.size y2.heap.size y3.heap.size bo bp bf no np nf nc c p (fun q => ∃ j : Nat, (k : Int) - 1 < j ∧ j < ni ∧ ids j = q) m) := by
              refine hTt.congr (fun q hq => ⟨fun ⟨j, h1, h2, h3⟩ => ⟨j, by omega, h2, h3⟩, fun ⟨j, h1, h2, h3⟩ => ⟨j, ?_, h2, h3⟩⟩)
              by_cases e : j = k
              · subst e; rw [HY.out] at h3; omega
              · omega
            by_cases hy0 : 0 ≤ t
            · have hd0 : decide (t < 0) = false := decide_eq_false (by omega)
              have hd1 : decide ((np : Int) ≤ t) = true := decide_eq_true (by omega)
              clear hin hTt
              go_wp2
              go_roundw
              case rel => exact ⟨(k : Int) - 1, m, by omega, by omega, rfl, rfl, rfl, by go_num, HS'.out, hBr⟩
              case measure => simp [intOf]
            · have hd0 : decide (t < 0) = true := decide_eq_true (by omega)
              clear hin hTt
              go_wp2
              go_roundw
              case rel => exact ⟨(k : Int) - 1, m, by omega, by omega, rfl, rfl, rfl, by go_num, HS'.out, hBr⟩
              case measure => simp [intOf]
          obtain ⟨hy0, hy1⟩ := hin
          obtain ⟨Y, rfl⟩ := Int.eq_ofNat_of_zero_le hy0
          have hd0 : decide ((Y : Int) < 0) = false := decide_eq_false (by omega)
          have hd1 : decide (np ≤ Y) = false := decide_eq_false (by omega)
          have hlen : Hid (nc = np) := HV.len
          have hYc : (Y : Int) < nc := by have := hlen.out; omega
          obtain ⟨b3, rfl, u3, v3, O3⟩ := M3.get (by omega)
          have cc := (O3 Y (by omega)).1
          obtain ⟨h, hh⟩ : ∃ h, c Y = h := ⟨_, rfl⟩
          rw [hh] at cc
          have HC : Hid (c Y = h) := hh
          clear hh
          go_wp2_with fail
          refine (zz_sta x.heap.size y1.heap.size y2.heap.size y3.heap.size bo bp bf no do_ np dp nf df nc c p _ m Y h y hTt u1 fo zo zf (by omega) HC.out (by omega)).mono ?_
          rintro e x1 ⟨l1, rfl, hS1, hB1⟩
          have HS' : Hid (Sta x1 x.heap.size y1.heap.size y2.heap.size y3.heap.size bo bp bf no np nf nc c p (fun q => ∃ j : Nat, (k : Int) - 1 < j ∧ j < ni ∧ ids j = q) l1) := by
            refine hS1.congr (fun q hq => ⟨?_, ?_⟩)
            · rintro (⟨j, h1, h2, h3⟩ | rfl)
              · exact ⟨j, by omega, h2, h3⟩
              · exact ⟨k, by omega, by omega, HY.out⟩
            · rintro ⟨j, h1, h2, h3⟩
              by_cases e : j = k
              · subst e; rw [HY.out] at h3; right; omega
              · left; exact ⟨j, by omega, h2, h3⟩
          clear hS1 hSt hTt ck cc O4 O3
          go_wp2
          go_roundw
          case rel => exact ⟨(k : Int) - 1, l1, by omega, by omega, rfl, rfl, rfl, by go_num, HS'.out, hBr.trans hB1⟩
          case measure => simp [intOf]
        · have hzd : decide (0 ≤ z) = false := decide_eq_false hzn
          have HBz := HBy.trans (hBr.mono (by omega))
          obtain ⟨oA, pA, fA, VA, gA, lA, mA0, mA1, mA2⟩ := hSt
          obtain ⟨oB, pB, fB, VB, gB, lB, mB0, mB1, mB2⟩ := hTt
          have gA : Hid (∀ q, q < np → (pA q = -1 ↔ p q = -1 ∨ ∃ j, j < ni ∧ ids j = q)) := gA
          have gB : Hid (∀ q, q < np → (pB q = -1 ↔ p q = -1 ∨ ∃ j, j < ni ∧ ids j = q)) := fun q hq => by
            rw [gB q hq]
            exact ⟨fun h => by rcases h with h | ⟨j, _, h2, h3⟩; exact Or.inl h; exact Or.inr ⟨j, h2, h3⟩, fun h => by rcases h with h | ⟨j, h2, h3⟩; exact Or.inl h; exact Or.inr ⟨j, by omega, h2, h3⟩⟩
          obtain ⟨hlm, hfe⟩ := VA.agree VB (fun q hq => by rw [gA.out q hq, gB.out q hq])
          have HFE : Hid (∀ g, g < nf → fA g = fB g) := hfe
          subst hlm
          have M4' : Hid (Mine y 0 w6.heap.size A4 ni ids) := M4
          clear hfe hBr HBy hzn M4
          go_wp2_with fail
          refine (valid_any ao ap af A3 l co np cp nf cf nc C3 oA pA fA c y mA0.row mA1.row mA2.row M3.row (by omega) zp zf zc).mono ?_
          rintro e y4 ⟨bb, rfl, hV, hD1⟩
          have hbb : bb = true := hV.2 VA
          subst hbb
          clear hV
          have v1 := hD1.size
          go_wp2_with fail
          refine (valid_any bo bp bf A3 l do_ np dp nf df nc C3 oB pB fB c y4 (mB0.row.below hD1 (Nat.le_refl _)) (mB1.row.below hD1 (Nat.le_refl _)) (mB2.row.below hD1 (Nat.le_refl _)) (M3.row.below hD1 (Nat.le_refl _)) (by omega) zp zf zc).mono ?_
          rintro e y5 ⟨bb, rfl, hV, hD2⟩
          have hbb : bb = true := hV.2 VB
          subst hbb
          clear hV
          have v2 := hD2.size
          have hD12 : Below y.heap.size y y5 := hD1.trans (hD2.mono v1)
          have hll : ((l : Int) != l) = false := by simp
          go_wp2_with fail
          refine (equal_yes af bf nf cf df fA fB y5 (mA2.row.below hD12 (Nat.le_refl _)) (mB2.row.below hD12 (Nat.le_refl _)) zf HFE.out).mono ?_
          rintro e y6 ⟨rfl, qq, hqq⟩
          have hD3 : Below y5.heap.size y5 y6 := by rw [hqq]; exact below_drewN (Below.refl _ _)
          clear hqq
          have v3 := hD3.size
          have hD : Below y.heap.size y y6 := hD12.trans (hD3.mono (by omega))
          have HB6 := HBz.trans (hD.mono (by omega))
          have K1 : Mine y6 0 w6.heap.size A1 np p := M1.below hD (by omega)
          have K4 : Mine y6 0 w6.heap.size A4 ni ids := M4'.out.below hD (by omega)
          have KA : Mine y6 w7.heap.size w8.heap.size ap np pA := mA1.below hD (by omega)
          have KB : Mine y6 y1.heap.size y2.heap.size bp np pB := mB1.below hD (by omega)
          have hmk := run_make_bools np zp
          clear hD1 hD2 hD3 hD12 hD mA0 mA1 mA2 mB0 mB1 mB2 M1 M3 HBz
          go_wp2
          clear hmk
          go_loopw [23] (fun s23 wr => ∃ k : Nat, k ≤ ni ∧ s23 = .int .i64 k ∧ OwnB wr y6.heap.size np (gn ids k) ∧ Below y6.heap.size y6 wr) (fun s23 _ => ni - (intOf s23).toNat)
          case atStart => exact ⟨0, Nat.zero_le _, rfl, (ownB_made y6 np).congr (fun _ _ => rfl), (Below.refl _ _).alloc (Nat.le_refl _) _⟩
          case round =>
            obtain ⟨k, hk, rfl, hO, hBw⟩ := hrel
            rename World => x5
            by_cases hlt : k < ni
            · have hlt' : (k : Int) < ni := by omega
              obtain ⟨b4, rfl, u4, v4, O4⟩ := (K4.below hBw (by omega)).get (by omega)
              have ck := (O4 k hlt).1
              obtain ⟨t, ht⟩ : ∃ t, ids k = t := ⟨_, rfl⟩
              rw [ht] at ck
              have HY : Hid (ids k = t) := ht
              clear ht
              by_cases hin : 0 ≤ t ∧ t < np
              case neg =>
                have HO' : Hid (OwnB x5 y6.heap.size np (gn ids (k + 1))) := by
                  refine hO.congr (fun j hj => ?_)
                  simp only [gn]
                  rw [HY.out, show (t == (j : Int)) = false by rw [beq_eq_false_iff_ne]; omega, Bool.or_false]
                by_cases hy0 : 0 ≤ t
                · have hd0 : decide (0 ≤ t) = true := decide_eq_true hy0
                  have hd1 : decide (t < (np : Int)) = false := decide_eq_false (by omega)
                  clear hin
                  go_wp2
                  go_roundw
                  case rel => exact ⟨k + 1, by omega, by go_num, HO'.out, hBw⟩
                  case measure => simp [intOf]; omega
                · have hd0 : decide (0 ≤ t) = false := decide_eq_false hy0
                  clear hin
                  go_wp2
                  go_roundw
                  case rel => exact ⟨k + 1, by omega, by go_num, HO'.out, hBw⟩
                  case measure => simp [intOf]; omega
              obtain ⟨hy0, hy1⟩ := hin
              obtain ⟨Y, rfl⟩ := Int.eq_ofNat_of_zero_le hy0
              obtain ⟨cg, fg⟩ := hO Y (by omega)
              obtain ⟨gv, hgv⟩ : ∃ gv, gn ids k Y = gv := ⟨_, rfl⟩
              rw [hgv] at cg
              clear hgv
              have hd0 : decide ((0 : Int) ≤ Y) = true := decide_eq_true (by omega)
              have hd1 : decide (Y < np) = true := decide_eq_true (by omega)
              go_wp2
              go_roundw
              case rel =>
                refine ⟨k + 1, by omega, by go_num, (hO.set (i := Y) (by omega) true).congr (fun j hj => ?_), hBw.setCell (Nat.le_refl _) _⟩
                simp only [gn]
                rw [HY.out]
                by_cases e : j = Y
                · subst e; simp
                · rw [if_neg e, show ((Y : Int) == (j : Int)) = false by rw [beq_eq_false_iff_ne]; omega, Bool.or_false]
              case measure => simp [intOf]; omega
            · have hge3 : ¬ (k : Int) < ni := by omega
              obtain rfl : ni = k := by omega
              clear hlt hk
              have K1 := K1.below hBw (by omega)
              have KA := KA.below hBw (by omega)
              have KB := KB.below hBw (by omega)
              have HB7 := HB6.trans (hBw.mono (by omega))
              clear K4 HB6 hBw
              go_wp2
              go_loop [25] (fun s25 => ∃ q : Nat, q ≤ np ∧ s25 = .int .i64 q) (fun s25 => np - (intOf s25).toNat)
              case atStart => exact ⟨0, Nat.zero_le _, rfl⟩
              case round =>
                obtain ⟨q, hq, rfl⟩ := hrel
                by_cases hlt : q < np
                · have hlt' : (q : Int) < np := by omega
                  obtain ⟨b1, rfl, _, _, O1⟩ := K1.get (by omega)
                  obtain ⟨bA, rfl, _, _, OA⟩ := KA.get (by omega)
                  obtain ⟨bB, rfl, _, _, OB⟩ := KB.get (by omega)
                  have c1 := (O1 q hlt).1
                  have cA := (OA q hlt).1
                  have cB := (OB q hlt).1
                  have cG := (hO q hlt).1
                  have iA := gA.out q hlt
                  have iB := gB.out q hlt
                  rw [← gn_iff ids q ni] at iA iB
                  have tA := VA.bij.two q hlt
                  have tB := VB.bij.two q hlt
                  have t1 := HV.bij.two q hlt
                  obtain ⟨x1, e1⟩ : ∃ t, p q = t := ⟨_, rfl⟩
                  obtain ⟨xA, eA⟩ : ∃ t, pA q = t := ⟨_, rfl⟩
                  obtain ⟨xB, eB⟩ : ∃ t, pB q = t := ⟨_, rfl⟩
                  obtain ⟨g, eg⟩ : ∃ t, gn ids ni q = t := ⟨_, rfl⟩
                  rw [e1] at c1 iA iB t1
                  rw [eA] at cA iA tA
                  rw [eB] at cB iB tB
                  rw [eg] at cG iA iB
                  have h1 : 0 ≤ x1 ∨ x1 = -1 := by omega
                  have hA : 0 ≤ xA ∨ xA = -1 := by omega
                  have hB : 0 ≤ xB ∨ xB = -1 := by omega
                  clear e1 eA eB eg tA tB t1 O1 OA OB
                  by_cases n1 : 0 ≤ x1
                  · have d1 : decide (0 ≤ x1) = true := decide_eq_true n1
                    cases g with
                    | true =>
                      have nA : ¬ 0 ≤ xA := by have := iA.2 (Or.inr rfl); omega
                      have nB : ¬ 0 ≤ xB := by have := iB.2 (Or.inr rfl); omega
                      have dA : decide (0 ≤ xA) = false := decide_eq_false nA
                      have dB : decide (0 ≤ xB) = false := decide_eq_false nB
                      clear iA iB h1 hA hB n1 nA nB
                      go_wp2
                      go_round
                      case rel => exact ⟨q + 1, by omega, by go_num⟩
                      case measure => simp [intOf]; omega
                    | false =>
                      have nA : 0 ≤ xA := by
                        rcases hA with h | h
                        · exact h
                        · rcases iA.1 h with h | h
                          · omega
                          · cases h
                      have nB : 0 ≤ xB := by
                        rcases hB with h | h
                        · exact h
                        · rcases iB.1 h with h | h
                          · omega
                          · cases h
                      have dA : decide (0 ≤ xA) = true := decide_eq_true nA
                      have dB : decide (0 ≤ xB) = true := decide_eq_true nB
                      clear iA iB h1 hA hB n1 nA nB
                      go_wp2
                      go_round
                      case rel => exact ⟨q + 1, by omega, by go_num⟩
                      case measure => simp [intOf]; omega
                  · have d1 : decide (0 ≤ x1) = false := decide_eq_false n1
                    have nA : ¬ 0 ≤ xA := by have := iA.2 (Or.inl (by omega)); omega
                    have nB : ¬ 0 ≤ xB := by have := iB.2 (Or.inl (by omega)); omega
                    have dA : decide (0 ≤ xA) = false := decide_eq_false nA
                    have dB : decide (0 ≤ xB) = false := decide_eq_false nB
                    clear iA iB h1 hA hB n1 nA nB
                    go_wp2
                    go_round
                    case rel => exact ⟨q + 1, by omega, by go_num⟩
                    case measure => simp [intOf]; omega
                · have hge4 : ¬ (q : Int) < np := by omega
                  go_wp2
                  go_ret
                  exact lend HB7
end Go.Proofs.Qxb6000793a
