/-
  The walk of FnRarestDropTakesOutJustThePiece.
-/
import Derived.Test.Qxb6000793aZz
import Derived.Test.Qxb6000793aValid
import Derived.Test.Qxb6000793aBytes
import Derived.Deep.RegionHeld
namespace Go.Proofs.Qxb6000793a
open Go.RowKit

theorem keep1 {B b i : Nat} {v : Value} {w w' : World} (hB : Below B w w') (hb : b < B) (h : w.cell? ⟨b, i, none⟩ = some v) : w'.cell? ⟨b, i, none⟩ = some v :=
  (hB.cell (p := ⟨b, i, none⟩) hb).trans h

/-- The end of a law: it answers yes, and nothing old has turned. -/
def LEnd (w : World) (e : Ending) (w' : World) : Prop := e = .returned (.bool true) ∧ Below w.heap.size w w'
theorem lend {w w' : World} (hb : Below w.heap.size w w') : LEnd w (.returned (.bool true)) w' := ⟨rfl, hb⟩

set_option maxHeartbeats 8000000 in
set_option maxRecDepth 1000000 in
theorem lawA (a0 a1 a2 a3 : Option Addr) (no c0 np c1 nf c2 nc c3 : Nat) (o p f c : Nat → Int) (i : Int) (w : World)
    (h0 : no ≤ maxLen) (h1 : np ≤ maxLen) (h2 : nf ≤ maxLen) (h3 : nc ≤ maxLen)
    (r0 : Row w a0 no o) (r1 : Row w a1 np p) (r2 : Row w a2 nf f) (r3 : Row w a3 nc c) :
    Calls Try.prog 6 #[.slice a0 no c0, .slice a1 np c1, .slice a2 nf c2, .slice a3 nc c3, .int .i64 i] w fun e w' => LEnd w e w' := by
  go_enter Try.func6, Try.ntmps6
  go_wp2_with fail
  refine (bytes13 a0 a1 a2 a3 no c0 np c1 nf c2 nc c3 i w h0 h1 h2 h3).mono ?_
  rintro e w' ⟨bb, rfl, hS, rfl⟩
  cases bb with
  | false =>
    go_wp2
    go_ret
    exact lend (Below.refl _ _)
  | true =>
  have hS := hS rfl
  clear h0 h1 h2 h3
  by_cases hsum : no + np + nf + nc ≤ 131072
  case neg =>
    have hd : (131072 : Int) < no + np + nf + nc := by omega
    go_wp2
    go_ret
    exact lend (Below.refl _ _)
  by_cases hi0 : 0 ≤ i
  case neg =>
    have hd : decide (i < 0) = true := decide_eq_true (by omega)
    go_wp2
    go_ret
    exact lend (Below.refl _ _)
  by_cases hi1 : i < np
  case neg =>
    have hd : decide (i < 0) = false := decide_eq_false (by omega)
    have hd1 : decide ((np : Int) ≤ i) = true := decide_eq_true (by omega)
    go_wp2
    go_ret
    exact lend (Below.refl _ _)
  obtain ⟨I, rfl⟩ := Int.eq_ofNat_of_zero_le hi0
  have hd : decide ((I : Int) < 0) = false := decide_eq_false (by omega)
  have hd1 : decide (np ≤ I) = false := decide_eq_false (by omega)
  have hd2 : decide ((131072 : Int) < no + np + nf + nc) = false := decide_eq_false (by omega)
  rename World => w
  go_wp2_with fail
  refine (valid_any a0 a1 a2 a3 no c0 np c1 nf c2 nc c3 o p f c w r0 r1 r2 r3 (by omega) (by omega) (by omega) (by omega)).mono ?_
  rintro e w1 ⟨bb, rfl, hV, hB1⟩
  have r0 := r0.below hB1 (Nat.le_refl _)
  have r1 := r1.below hB1 (Nat.le_refl _)
  have r2 := r2.below hB1 (Nat.le_refl _)
  have r3 := r3.below hB1 (Nat.le_refl _)
  cases bb with
  | false =>
    clear hV
    go_wp2
    go_ret
    exact lend hB1
  | true =>
  have HV : Valid no np nf nc o p f c := hV.1 rfl
  clear hV hd1 hd hd2
  obtain ⟨b1, f1, rfl, R1⟩ := r1.get (by omega)
  have cI := R1 I (by omega)
  obtain ⟨k, hk⟩ : ∃ k, p I = k := ⟨_, rfl⟩
  rw [hk] at cI
  have HK : Hid (p I = k) := hk
  clear hk
  by_cases hk0 : 0 ≤ k
  case neg =>
    have hd3 : decide (k < 0) = true := decide_eq_true (by omega)
    go_wp2
    go_ret
    exact lend hB1
  have hd3 : decide (k < 0) = false := decide_eq_false (by omega)
  obtain ⟨K, rfl⟩ := Int.eq_ofNat_of_zero_le hk0
  have hKn : K < no ∧ o K = I := by
    rcases HV.bij.two I (by omega) with h | h
    · have := HK.out; omega
    · rw [HK.out, Int.toNat_natCast] at h; omega
  have hcI := HV.rng K hKn.1
  rw [hKn.2, Int.toNat_natCast] at hcI
  obtain ⟨h, hh⟩ := Int.eq_ofNat_of_zero_le hcI.1
  rw [hh] at hcI
  have hKn1 := hKn.1
  have HC : Hid (c I = h) := hh
  have HO : Hid (o K = I) := hKn.2
  have hcI1 := hcI.2
  have hlen : Hid (nc = np) := HV.len
  have hnc : 0 < nc := by have := hlen.out; omega
  clear hh hKn hcI
  obtain ⟨b0, f0, rfl, R0⟩ := r0.get (by omega)
  obtain ⟨b2, f2, rfl, R2⟩ := r2.get (by omega)
  obtain ⟨b3, f3, rfl, R3⟩ := r3.get (by omega)
  clear r0 r1 r2 r3
  go_wp2_with fail
  clear cI
  refine (clone_new b0 f0 no c0 o w1 R0 (by omega) (fun h => R0.lt h)).mono ?_
  rintro e w2 ⟨b4, rfl, l4, g4, O0, hB2⟩
  have R1 := R1.below hB2 (R1.lt (by omega))
  have R2 := R2.below hB2 (R2.lt (by omega))
  have R3 := R3.below hB2 (R3.lt (by omega))
  clear R0
  go_wp2_with fail
  refine (clone_new b1 f1 np c1 p w2 R1 (by omega) (fun h => R1.lt h)).mono ?_
  rintro e w3 ⟨b5, rfl, l5, g5, O1, hB3⟩
  have R2 := R2.below hB3 (R2.lt (by omega))
  have R3 := R3.below hB3 (R3.lt (by omega))
  have O0 := O0.below hB3 g4
  clear R1
  go_wp2_with fail
  refine (clone_new b2 f2 nf c2 f w3 R2 (by omega) (fun h => R2.lt h)).mono ?_
  rintro e w4 ⟨b6, rfl, l6, g6, O2, hB4⟩
  have R3 := R3.below hB4 (R3.lt (by omega))
  have z3 := hB3.size
  have O0 := O0.below hB4 (by omega)
  have O1 := O1.below hB4 (by omega)
  clear R2
  go_wp2_with fail
  refine (clone_new b3 f3 nc c3 c w4 R3 (by omega) (fun h => R3.lt h)).mono ?_
  rintro e w5 ⟨b7, rfl, l7, g7, O3, hB5⟩
  have z4 := hB4.size
  have z5 := hB5.size
  have z1 := hB1.size
  have z2 := hB2.size
  have O0 := O0.below hB5 (by omega)
  have O1 := O1.below hB5 (by omega)
  have O2 := O2.below hB5 (by omega)
  clear R3
  have HB : Below w.heap.size w w5 := (((hB1.trans (hB2.mono z1)).trans (hB3.mono (by omega))).trans (hB4.mono (by omega))).trans (hB5.mono (by omega))
  clear hB1 hB2 hB3 hB4 hB5
  go_wp2_with fail
  have hInc : (I : Int) < nc := by have := hlen.out; omega
  have hInn : (0 : Int) ≤ I := by omega
  have cI : w5.cell? ⟨b7, I, none⟩ = some (.int .i64 h) := by rw [(O3 I (by omega)).1, HC.out]
  have WY : Hid (Way no np nf c p I K (h + 1) o p f) := Way.start HV.bij HV.grp hKn1 HO.out HC.out
  have hno : no ≤ 1048576 := by omega
  have hnp : np ≤ 1048576 := by omega
  have hnf : nf ≤ 1048576 := by omega
  have hb4 : b4 < w5.heap.size := by omega
  have hb5 : b5 < w5.heap.size := by omega
  have hb6 : b6 < w5.heap.size := by omega
  have hIp : I < np := by omega
  have hhf : h < nf := by omega
  go_region_held (fun w' => w'.cell? ⟨b7, I, none⟩ = some (.int .i64 h)) (first | exact cI | exact s9 | exact s8 | exact s7 | exact s6)
    (first
      | (go_at_call_of 15 (Value.slice (some ⟨b4, 0, none⟩) no no); refine (clone_new b4 0 no no o _ ?_ hno ?_).mono ?_; (exact O0.reads); (exact fun _ => hb4); rintro e w6 ⟨b8, rfl, l8, g8, N0, hB6⟩; have s6 := keep1 hB6 g7 cI; have z6 := hB6.size)
      | (go_at_call_of 15 (Value.slice (some ⟨b5, 0, none⟩) np np); refine (clone_new b5 0 np np p _ (O1.drew.below hB6 hb5).reads hnp (fun _ => Nat.lt_of_lt_of_le hb5 z6)).mono ?_; rintro e w7 ⟨b9, rfl, l9, g9, N1, hB7⟩; have s7 := keep1 hB7 (Nat.lt_of_lt_of_le g7 z6) s6; have z7 := hB7.size; have N0 := N0.below hB7 g8)
      | (go_at_call_of 15 (Value.slice (some ⟨b6, 0, none⟩) nf nf); refine (clone_new b6 0 nf nf f _ ((O2.drew.below hB6 hb6).below hB7 (Nat.lt_of_lt_of_le hb6 z6)).reads hnf (fun _ => Nat.lt_of_lt_of_le hb6 (Nat.le_trans z6 z7))).mono ?_; rintro e w8 ⟨b10, rfl, l10, g10, N2, hB8⟩; have s8 := keep1 hB8 (Nat.lt_of_lt_of_le g7 (Nat.le_trans z6 z7)) s7; have z8 := hB8.size; have N1 := N1.below hB8 g9; have N0 := N0.below hB8 (Nat.lt_of_lt_of_le g8 z7))
      | (go_at_call 16; refine (zz_in b8 b9 b10 no no np np nf nf o p f c I h K _ w5.heap.size N0 N1 N2 ?_ ?_ ?_ (Nat.le_refl _) hno hnf l8 ?_ ?_ hIp HK.out WY.out hhf).mono ?_; (exact Nat.ne_of_lt (Nat.lt_of_lt_of_le g8 l9)); (exact (Nat.ne_of_lt (Nat.lt_of_lt_of_le (Nat.lt_of_lt_of_le g8 z7) l10)).symm); (exact (Nat.ne_of_lt (Nat.lt_of_lt_of_le g9 l10)).symm); (exact Nat.le_trans z6 l9); (exact Nat.le_trans (Nat.le_trans z6 z7) l10); rintro e w9 ⟨l, o', p', f', rfl, hl, hOut, M0, M1, M2, hB9⟩; have s9 := keep1 hB9 g7 s8; have z9 := hB9.size))
  have z6' : w5.heap.size ≤ w6.heap.size := z6
  have BB : Below w.heap.size w w9 := HB.trans ((((((Below.refl w.heap.size w5).drew).trans (hB6.mono (Nat.le_trans (Nat.le_trans (Nat.le_trans (Nat.le_trans z1 z2) z3) z4) z5))).trans (hB7.mono (by omega))).trans (hB8.mono (by omega))).trans (hB9.mono (by omega)))
  have P5 : Own w9 b5 np p := (((O1.drew.below hB6 hb5).below hB7 (by omega)).below hB8 (by omega)).below hB9 hb5
  have C7 : Own w9 b7 nc c := (((O3.drew.below hB6 g7).below hB7 (by omega)).below hB8 (by omega)).below hB9 g7
  have HV' : Hid (Valid l np nf nc o' p' f' c) := hOut.valid HV
  have hl1 : ((l : Int) != (no : Int) - 1) = false := by rw [bne_eq_false_iff_eq]; omega
  have cI9 : w9.cell? ⟨b9, I, none⟩ = some (.int .i64 (-1)) := by rw [(M1 I hIp).1, hOut.gone]
  have hSm : ∀ q, q < np → q ≠ I → (p' q = -1 ↔ p q = -1) := hOut.same
  have hD : Hid (∀ q, q < np → q ≠ I → (0 ≤ p' q ↔ 0 ≤ p q)) := by
    intro q hq hne
    have h1 := hOut.same q hq hne
    rcases hOut.bij.two q hq with h2 | h2 <;> rcases HV.bij.two q hq with h3 | h3 <;> omega
  have hIp' : (I : Int) < np := by omega
  have hll : l ≤ 1048576 := by omega
  have hnc' : nc ≤ 1048576 := by omega
  clear s6 s7 s8 s9 hSm hB6 hB7 hB8 hB9 N0 N1 N2 O0 O1 O2 O3 cI WY HO HC HK hOut HV R1 R2 R3 r0 r1 r2 r3 HB
  go_wp2
  go_loopw [14] (fun sq wr => ∃ q n : Nat, q ≤ np ∧ sq = .int .i64 q ∧ wr = w9.drewN n) (fun sq _ => np - (intOf sq).toNat)
  case atStart => exact ⟨0, 0, Nat.zero_le _, rfl, rfl⟩
  case round =>
    obtain ⟨q, n, hq, rfl, rfl⟩ := hrel
    by_cases hlt : q < np
    · have hlt' : (q : Int) < np := by omega
      by_cases hqI : q = I
      · have hd4 : ((q : Int) == I) = true := by rw [beq_iff_eq]; omega
        clear hqI
        go_wp2
        go_roundw
        case rel => exact ⟨q + 1, n, by omega, by go_num, rfl⟩
        case measure => simp [intOf]; omega
      · have hd4 : ((q : Int) == I) = false := by rw [beq_eq_false_iff_ne]; omega
        have c1 := (M1 q hlt).1
        have c2 := (P5 q hlt).1
        have hh := hD.out q hlt hqI
        obtain ⟨x, hx⟩ : ∃ x, p' q = x := ⟨_, rfl⟩
        obtain ⟨y, hy⟩ : ∃ y, p q = y := ⟨_, rfl⟩
        rw [hx] at c1 hh
        rw [hy] at c2 hh
        clear hx hy hqI
        by_cases hx0 : 0 ≤ x
        · have hy0 : 0 ≤ y := hh.1 hx0
          have e1 : decide (0 ≤ x) = true := decide_eq_true hx0
          have e2 : decide (0 ≤ y) = true := decide_eq_true hy0
          clear hh
          go_wp2_with fail
          go_quiet (fail)
          go_wp2
          go_roundw
          case rel => exact ⟨q + 1, _, by omega, by go_num, rfl⟩
          case measure => simp [intOf]; omega
        · have hy0 : ¬ 0 ≤ y := fun h => hx0 (hh.2 h)
          have e1 : decide (0 ≤ x) = false := decide_eq_false hx0
          have e2 : decide (0 ≤ y) = false := decide_eq_false hy0
          clear hh
          go_wp2_with fail
          go_quiet (fail)
          go_wp2
          go_roundw
          case rel => exact ⟨q + 1, _, by omega, by go_num, rfl⟩
          case measure => simp [intOf]; omega
    · have hge : ¬ (q : Int) < np := by omega
      go_wp2_with fail
      refine (valid_any (some ⟨b8, 0, none⟩) (some ⟨b9, 0, none⟩) (some ⟨b10, 0, none⟩) (some ⟨b7, 0, none⟩) l no np np nf nf nc nc o' p' f' c _ (Or.inr ⟨_, _, rfl, (M0.drewN n).reads⟩) (Or.inr ⟨_, _, rfl, (M1.drewN n).reads⟩) (Or.inr ⟨_, _, rfl, (M2.drewN n).reads⟩) (Or.inr ⟨_, _, rfl, (C7.drewN n).reads⟩) hll hnp hnf hnc').mono ?_
      rintro e w10 ⟨bb, rfl, hV, hB10⟩
      have hbb : bb = true := hV.2 HV'.out
      subst hbb
      clear hV
      go_wp2
      go_ret
      exact lend ((below_drewN BB).trans (hB10.mono BB.size))
end Go.Proofs.Qxb6000793a
