/-
  The walk of rarestValidSessB1.
-/
import Derived.Test.Qxb6000793aClone
namespace Go.Proofs.Qxb6000793a
open Go.RowKit

/-- A slice of n numbers that can be read: G 0, G 1, ... (nil where there is none) -/
def Row (w : World) (a : Option Addr) (n : Nat) (G : Nat → Int) : Prop := n = 0 ∨ ∃ b off, a = some ⟨b, off, none⟩ ∧ Reads w b off n G
theorem Row.get {w : World} {a : Option Addr} {n : Nat} {G : Nat → Int} (h : Row w a n G) (hn : 0 < n) : ∃ b off, a = some ⟨b, off, none⟩ ∧ Reads w b off n G := by
  rcases h with h | h
  · omega
  · exact h
theorem Row.below {B : Nat} {w w' : World} {a : Option Addr} {n : Nat} {G : Nat → Int} (h : Row w a n G) (hc : Below B w w') (hB : w.heap.size ≤ B) : Row w' a n G := by
  rcases h with h | ⟨b, off, e, h⟩
  · exact Or.inl h
  · by_cases hn : n = 0
    · exact Or.inl hn
    · exact Or.inr ⟨b, off, e, h.below hc (by have := h.lt (by omega); omega)⟩

/-- The first loop up to k. -/
def L1 (np nf : Nat) (o p c : Nat → Int) (k : Nat) : Prop :=
  ∀ j, j < k → 0 ≤ o j ∧ o j < np ∧ p (o j).toNat = j ∧ 0 ≤ c (o j).toNat ∧ c (o j).toNat < nf ∧ (0 < j → c (o (j - 1)).toNat ≤ c (o j).toNat)
/-- The second loop up to q. -/
def L2 (no : Nat) (o p : Nat → Int) (q : Nat) : Prop := ∀ j, j < q → p j = -1 ∨ (0 ≤ p j ∧ p j < no ∧ o (p j).toNat = j)
/-- The fourth loop up to g. -/
def L4 (no : Nat) (o f c : Nat → Int) (g : Nat) : Prop := ∀ j, j < g → f j = cntLt (fun k => c (o k).toNat) j no

theorem L1.next {np nf : Nat} {o p c : Nat → Int} {k : Nat} (h : L1 np nf o p c k) (h1 : 0 ≤ o k) (h2 : o k < np) (h3 : p (o k).toNat = k) (h4 : 0 ≤ c (o k).toNat) (h5 : c (o k).toNat < nf) (h6 : 0 < k → c (o (k - 1)).toNat ≤ c (o k).toNat) : L1 np nf o p c (k + 1) := by
  intro j hj
  by_cases e : j = k
  · subst e; exact ⟨h1, h2, h3, h4, h5, h6⟩
  · exact h j (by omega)
theorem L2.next {no : Nat} {o p : Nat → Int} {q : Nat} (h : L2 no o p q) (h1 : p q = -1 ∨ (0 ≤ p q ∧ p q < no ∧ o (p q).toNat = q)) : L2 no o p (q + 1) := by
  intro j hj
  by_cases e : j = q
  · subst e; exact h1
  · exact h j (by omega)
theorem L4.next {no : Nat} {o f c : Nat → Int} {g : Nat} (h : L4 no o f c g) (h1 : f g = cntLt (fun k => c (o k).toNat) g no) : L4 no o f c (g + 1) := by
  intro j hj
  by_cases e : j = g
  · subst e; exact h1
  · exact h j (by omega)
theorem valid_of {no np nf nc : Nat} {o p f c : Nat → Int} (hl : nc = np) (h1 : L1 np nf o p c no) (h2 : L2 no o p np) (h4 : L4 no o f c nf) : Valid no np nf nc o p f c :=
  ⟨hl, ⟨fun k hk => ⟨(h1 k hk).1, (h1 k hk).2.1, (h1 k hk).2.2.1⟩, h2⟩, fun k hk => ⟨(h1 k hk).2.2.2.1, (h1 k hk).2.2.2.2.1⟩, fun k hk h0 => (h1 k hk).2.2.2.2.2 h0, h4⟩

/-- The end of the call: it answers whether V, and nothing old has turned. -/
def VEnd (V : Prop) (w : World) (e : Ending) (w' : World) : Prop := ∃ bb, e = .returned (.bool bb) ∧ (bb = true ↔ V) ∧ Below w.heap.size w w'
theorem end_false {V : Prop} {w w' : World} (h : ¬ V) (hb : Below w.heap.size w w') : VEnd V w (.returned (.bool false)) w' :=
  ⟨false, rfl, ⟨fun e => (by cases e), fun e => absurd e h⟩, hb⟩
theorem end_true {V : Prop} {w w' : World} (h : V) (hb : Below w.heap.size w w') : VEnd V w (.returned (.bool true)) w' :=
  ⟨true, rfl, ⟨fun _ => h, fun _ => rfl⟩, hb⟩

set_option maxHeartbeats 8000000 in
set_option maxRecDepth 1000000 in
theorem valid_any (a0 a1 a2 a3 : Option Addr) (no c0 np c1 nf c2 nc c3 : Nat) (o p f c : Nat → Int) (w : World)
    (r0 : Row w a0 no o) (r1 : Row w a1 np p) (r2 : Row w a2 nf f) (r3 : Row w a3 nc c) (z0 : no ≤ 1048576) (z1 : np ≤ 1048576) (z2 : nf ≤ 1048576) (z3 : nc ≤ 1048576) :
    Calls Try.prog 14 #[.slice a0 no c0, .slice a1 np c1, .slice a2 nf c2, .slice a3 nc c3] w fun e w' => VEnd (Valid no np nf nc o p f c) w e w' := by
  by_cases hl : nc = np
  case neg =>
    have NV : Hid (¬ Valid no np nf nc o p f c) := fun h => hl h.len
    have hl' : ((nc : Int) != np) = true := by rw [bne_iff_ne]; omega
    go_enter Try.func14, Try.ntmps14
    go_wp2
    go_ret
    exact end_false NV.out (Below.refl _ _)
  subst hl
  have hl' : ((nc : Int) != nc) = false := by simp
  go_enter Try.func14, Try.ntmps14
  go_wp2
  go_loop [11] (fun sk => ∃ k : Nat, k ≤ no ∧ sk = .int .i64 k ∧ L1 nc nf o p c k) (fun sk => no - (intOf sk).toNat)
  case atStart => exact ⟨0, Nat.zero_le _, rfl, fun j hj => by omega⟩
  case round =>
    obtain ⟨k, hk, rfl, hL1⟩ := hrel
    by_cases hlt : k < no
    · obtain ⟨b0, f0, rfl, R0⟩ := r0.get (by omega)
      have hlt' : (k : Int) < no := by omega
      have ck := R0 k hlt
      obtain ⟨x, hx⟩ : ∃ x, o k = x := ⟨_, rfl⟩
      rw [hx] at ck
      have HX : Hid (o k = x) := hx
      clear hx
      by_cases hx0 : 0 ≤ x
      case neg =>
        have NV : Hid (¬ Valid no nc nf nc o p f c) := fun h => by have := (h.bij.one k hlt).1; have := HX.out; omega
        have hd : decide (x < 0) = true := decide_eq_true (by omega)
        go_wp2
        go_ret
        exact end_false NV.out (Below.refl _ _)
      by_cases hx1 : x < nc
      case neg =>
        have NV : Hid (¬ Valid no nc nf nc o p f c) := fun h => by have := (h.bij.one k hlt).2.1; have := HX.out; omega
        have hd : decide (x < 0) = false := decide_eq_false (by omega)
        have hd1 : decide ((nc : Int) ≤ x) = true := decide_eq_true (by omega)
        go_wp2
        go_ret
        exact end_false NV.out (Below.refl _ _)
      obtain ⟨X, rfl⟩ := Int.eq_ofNat_of_zero_le hx0
      obtain ⟨b1, f1, rfl, R1⟩ := r1.get (by omega)
      have cp := R1 X (by omega)
      obtain ⟨y, hy⟩ : ∃ y, p X = y := ⟨_, rfl⟩
      rw [hy] at cp
      have HY : Hid (p X = y) := hy
      clear hy
      have hd0 : decide ((X : Int) < 0) = false := decide_eq_false (by omega)
      have hd1 : decide ((nc : Int) ≤ X) = false := decide_eq_false (by omega)
      by_cases hyk : y = k
      case neg =>
        have NV : Hid (¬ Valid no nc nf nc o p f c) := fun h => by have := (h.bij.one k hlt).2.2; rw [HX.out, Int.toNat_natCast, HY.out] at this; exact hyk this
        have hd : (y != (k : Int)) = true := by rw [bne_iff_ne]; exact hyk
        clear hyk
        go_wp2
        go_ret
        exact end_false NV.out (Below.refl _ _)
      subst hyk
      have hdk : ((k : Int) != (k : Int)) = false := by simp
      obtain ⟨b3, f3, rfl, R3⟩ := r3.get (by omega)
      have cc := R3 X (by omega)
      obtain ⟨z, hz⟩ : ∃ z, c X = z := ⟨_, rfl⟩
      rw [hz] at cc
      have HZ : Hid (c X = z) := hz
      clear hz
      by_cases hz0 : 0 ≤ z
      case neg =>
        have NV : Hid (¬ Valid no nc nf nc o p f c) := fun h => by have := (h.rng k hlt).1; rw [HX.out, Int.toNat_natCast, HZ.out] at this; omega
        have hd : decide (z < 0) = true := decide_eq_true (by omega)
        go_wp2
        go_ret
        exact end_false NV.out (Below.refl _ _)
      have hd2 : decide (z < 0) = false := decide_eq_false (by omega)
      by_cases hz1 : z < nf
      case neg =>
        have NV : Hid (¬ Valid no nc nf nc o p f c) := fun h => by have := (h.rng k hlt).2; rw [HX.out, Int.toNat_natCast, HZ.out] at this; omega
        have hd : decide ((nf : Int) ≤ z) = true := decide_eq_true (by omega)
        go_wp2
        go_ret
        exact end_false NV.out (Below.refl _ _)
      have hd3 : decide ((nf : Int) ≤ z) = false := decide_eq_false (by omega)
      by_cases hk0 : 0 < k
      case neg =>
        have hd4 : decide (0 < (k : Int)) = false := decide_eq_false (by omega)
        have HN : Hid (L1 nc nf o p c (k + 1)) := hL1.next (by rw [HX.out]; omega) (by rw [HX.out]; omega) (by rw [HX.out, Int.toNat_natCast]; exact HY.out) (by rw [HX.out, Int.toNat_natCast, HZ.out]; omega) (by rw [HX.out, Int.toNat_natCast, HZ.out]; omega) (by omega)
        go_wp2
        go_round
        case rel => exact ⟨k + 1, by omega, by go_num, HN.out⟩
        case measure => simp [intOf]; omega
      have hd4 : decide (0 < (k : Int)) = true := decide_eq_true (by omega)
      obtain ⟨m, rfl⟩ : ∃ m, k = m + 1 := ⟨k - 1, by omega⟩
      have hm := hL1 m (by omega)
      obtain ⟨Y, hY⟩ := Int.eq_ofNat_of_zero_le hm.1
      have cm := R0 m (by omega)
      rw [hY] at cm
      have hY1 : (Y : Int) < nc := by omega
      have cy := R3 Y (by omega)
      obtain ⟨u, hu⟩ : ∃ u, c Y = u := ⟨_, rfl⟩
      rw [hu] at cy
      have HU : Hid (c (o m).toNat = u) := by show c (o m).toNat = u; rw [hY]; exact hu
      clear hu hY hm
      by_cases hzu : z < u
      case pos =>
        have NV : Hid (¬ Valid no nc nf nc o p f c) := fun h => by
          have := h.asc (m + 1) hlt hk0
          rw [Nat.add_sub_cancel, HX.out, Int.toNat_natCast, HZ.out, HU.out] at this; omega
        have hd : decide (z < u) = true := decide_eq_true (by omega)
        go_wp2
        go_ret
        exact end_false NV.out (Below.refl _ _)
      have hd5 : decide (z < u) = false := decide_eq_false (by omega)
      have HN : Hid (L1 nc nf o p c (m + 1 + 1)) := hL1.next (by rw [HX.out]; omega) (by rw [HX.out]; omega) (by rw [HX.out, Int.toNat_natCast]; exact HY.out) (by rw [HX.out, Int.toNat_natCast, HZ.out]; omega) (by rw [HX.out, Int.toNat_natCast, HZ.out]; omega) (by intro _; rw [Nat.add_sub_cancel, HX.out, Int.toNat_natCast, HZ.out, HU.out]; omega)
      go_wp2
      go_round
      case rel => exact ⟨m + 1 + 1, by omega, by go_num, HN.out⟩
      case measure => simp [intOf]; omega
    · have hge : ¬ (k : Int) < no := by omega
      obtain rfl : no = k := by omega
      clear hlt hk
      go_wp2
      go_loop [14] (fun sk => ∃ q : Nat, q ≤ nc ∧ sk = .int .i64 q ∧ L2 no o p q) (fun sk => nc - (intOf sk).toNat)
      case atStart => exact ⟨0, Nat.zero_le _, rfl, fun j hj => by omega⟩
      case round =>
        obtain ⟨q, hq, rfl, hL2⟩ := hrel
        by_cases hlt : q < nc
        · obtain ⟨b1, f1, rfl, R1⟩ := r1.get (by omega)
          have hlt' : (q : Int) < nc := by omega
          have cq := R1 q hlt
          obtain ⟨y, hy⟩ : ∃ y, p q = y := ⟨_, rfl⟩
          rw [hy] at cq
          have HY : Hid (p q = y) := hy
          clear hy
          by_cases hym : y = -1
          case pos =>
            have HN : Hid (L2 no o p (q + 1)) := hL2.next (Or.inl (HY.out.trans hym))
            have hd : (y == (-1 : Int)) = true := by rw [beq_iff_eq]; exact hym
            clear hym
            go_wp2
            go_round
            case rel => exact ⟨q + 1, by omega, by go_num, HN.out⟩
            case measure => simp [intOf]; omega
          have hd0 : (y == (-1 : Int)) = false := by rw [beq_eq_false_iff_ne]; exact hym
          have HYM : Hid (y ≠ -1) := hym
          clear hym
          by_cases hy0 : 0 ≤ y
          case neg =>
            have NV : Hid (¬ Valid no nc nf nc o p f c) := fun h => by
              rcases h.bij.two q hlt with h1 | h1
              · exact HYM.out (HY.out.symm.trans h1)
              · rw [HY.out] at h1; omega
            have hd1 : decide (y < 0) = true := decide_eq_true (by omega)
            go_wp2
            go_ret
            exact end_false NV.out (Below.refl _ _)
          have hd1 : decide (y < 0) = false := decide_eq_false (by omega)
          by_cases hy1 : y < no
          case neg =>
            have NV : Hid (¬ Valid no nc nf nc o p f c) := fun h => by
              rcases h.bij.two q hlt with h1 | h1
              · exact HYM.out (HY.out.symm.trans h1)
              · rw [HY.out] at h1; omega
            have hd2 : decide ((no : Int) ≤ y) = true := decide_eq_true (by omega)
            go_wp2
            go_ret
            exact end_false NV.out (Below.refl _ _)
          have hd2 : decide ((no : Int) ≤ y) = false := decide_eq_false (by omega)
          obtain ⟨Y, rfl⟩ := Int.eq_ofNat_of_zero_le hy0
          obtain ⟨b0, f0, rfl, R0⟩ := r0.get (by omega)
          have co := R0 Y (by omega)
          obtain ⟨z, hz⟩ : ∃ z, o Y = z := ⟨_, rfl⟩
          rw [hz] at co
          have HZ : Hid (o Y = z) := hz
          clear hz
          by_cases hzq : z = q
          case neg =>
            have NV : Hid (¬ Valid no nc nf nc o p f c) := fun h => by
              rcases h.bij.two q hlt with h1 | h1
              · exact HYM.out (HY.out.symm.trans h1)
              · rw [HY.out, Int.toNat_natCast, HZ.out] at h1; exact hzq h1.2.2
            have hd3 : (z != (q : Int)) = true := by rw [bne_iff_ne]; exact hzq
            clear hzq
            go_wp2
            go_ret
            exact end_false NV.out (Below.refl _ _)
          have hd3 : (z != (q : Int)) = false := by rw [bne_eq_false_iff_eq]; exact hzq
          have HN : Hid (L2 no o p (q + 1)) := hL2.next (Or.inr (by rw [HY.out, Int.toNat_natCast, HZ.out]; omega))
          clear hzq
          go_wp2
          go_round
          case rel => exact ⟨q + 1, by omega, by go_num, HN.out⟩
          case measure => simp [intOf]; omega
        · have hge2 : ¬ (q : Int) < nc := by omega
          obtain rfl : nc = q := by omega
          clear hlt hq
          have hmk := run_make_ints nf z2
          go_wp2
          clear hmk
          go_loopw [17] (fun sk wr => ∃ k : Nat, k ≤ no ∧ sk = .int .i64 k ∧ Own wr w.heap.size nf (fun g => cntEq (fun k => c (o k).toNat) g k) ∧ Below w.heap.size w wr) (fun sk _ => no - (intOf sk).toNat)
          case atStart => exact ⟨0, Nat.zero_le _, rfl, (own_made w nf).congr (fun _ _ => rfl), below_made w nf⟩
          case round =>
            obtain ⟨k, hk, rfl, hO, hB⟩ := hrel
            rename World => wr
            have r0' := r0.below hB (Nat.le_refl _)
            have r3' := r3.below hB (Nat.le_refl _)
            have r2' := r2.below hB (Nat.le_refl _)
            clear r0 r1 r2 r3
            by_cases hlt : k < no
            · obtain ⟨b0, f0, rfl, R0⟩ := r0'.get (by omega)
              have hlt' : (k : Int) < no := by omega
              have hm := hL1 k hlt
              obtain ⟨X, hX⟩ := Int.eq_ofNat_of_zero_le hm.1
              have ck := R0 k hlt
              rw [hX] at ck
              have hX1 : (X : Int) < nc := by omega
              obtain ⟨b3, f3, rfl, R3⟩ := r3'.get (by omega)
              have cx := R3 X (by omega)
              have hm4 := hm.2.2.2.1
              have hm5 := hm.2.2.2.2.1
              rw [hX, Int.toNat_natCast] at hm4 hm5
              obtain ⟨Z, hZ⟩ := Int.eq_ofNat_of_zero_le hm4
              rw [hZ] at cx hm5
              have hcnt : cntEq (fun k => c (o k).toNat) Z k ≤ k := cntEq_le _ _ _
              have HE : Hid (c (o k).toNat = Z) := by show c (o k).toNat = Z; rw [hX, Int.toNat_natCast]; exact hZ
              obtain ⟨N, hN⟩ : ∃ N, cntEq (fun k => c (o k).toNat) Z k = N := ⟨_, rfl⟩
              obtain ⟨ch, fh⟩ := hO Z (by omega)
              simp only [hN] at ch
              rw [hN] at hcnt
              have HN : Hid (cntEq (fun k => c (o k).toNat) Z k = N) := hN
              clear hN hm hX hm4 hZ r2' r0' r3'
              go_wp2
              go_roundw
              case rel =>
                refine ⟨k + 1, by omega, by go_num, (hO.set (by omega) _).congr ?_, hB.setCell (Nat.le_refl _) _⟩
                intro j hj
                simp only [cntEq]
                by_cases e : j = Z
                · subst e; rw [upd_same, HN.out, if_pos HE.out]; simp
                · rw [upd_other _ _ _ _ e, if_neg (by rw [HE.out]; omega)]; simp
              case measure => simp [intOf]; omega
            · have hge3 : ¬ (k : Int) < no := by omega
              obtain rfl : no = k := by omega
              clear hlt hk
              go_wp2
              go_loop [18, 19] (fun sb sg => ∃ g : Nat, g ≤ nf ∧ sg = .int .i64 g ∧ sb = .int .i64 (cntLt (fun k => c (o k).toNat) g no) ∧ L4 no o f c g) (fun _ sg => nf - (intOf sg).toNat)
              case atStart => exact ⟨0, Nat.zero_le _, rfl, by rw [cntLt_zero]; rfl, fun j hj => by omega⟩
              case round =>
                obtain ⟨g, hg, rfl, rfl, hL4⟩ := hrel
                by_cases hlt : g < nf
                · obtain ⟨b2, f2, rfl, R2⟩ := r2'.get (by omega)
                  have hlt' : (g : Int) < nf := by omega
                  have cg := R2 g hlt
                  obtain ⟨y, hy⟩ : ∃ y, f g = y := ⟨_, rfl⟩
                  rw [hy] at cg
                  have HY : Hid (f g = y) := hy
                  clear hy
                  obtain ⟨ch, fh⟩ := hO g hlt
                  have hs := cntLt_succ (fun k => c (o k).toNat) g no
                  have hle := cntLt_le (fun k => c (o k).toNat) (g + 1) no
                  obtain ⟨N, hN⟩ : ∃ N, cntEq (fun k => c (o k).toNat) g no = N := ⟨_, rfl⟩
                  obtain ⟨M, hM⟩ : ∃ M, cntLt (fun k => c (o k).toNat) g no = M := ⟨_, rfl⟩
                  simp only [hN] at ch
                  rw [hN, hM] at hs
                  rw [hs] at hle
                  rw [hM]
                  have HM : Hid (cntLt (fun k => c (o k).toNat) g no = M) := hM
                  have HS : Hid (cntLt (fun k => c (o k).toNat) (g + 1) no = M + N) := hs
                  clear hN hM hs r2' r0' r3'
                  by_cases hym : y = M
                  case neg =>
                    have NV : Hid (¬ Valid no nc nf nc o p f c) := fun h => by
                      have := h.cnt g hlt
                      rw [HY.out, HM.out] at this; exact hym this
                    have hd3 : (y != (M : Int)) = true := by rw [bne_iff_ne]; exact hym
                    clear hym
                    go_wp2
                    go_ret
                    exact end_false NV.out hB
                  have hd3 : (y != (M : Int)) = false := by rw [bne_eq_false_iff_eq]; exact hym
                  have HN4 : Hid (L4 no o f c (g + 1)) := hL4.next (by rw [HY.out, HM.out]; exact hym)
                  clear hym
                  go_wp2
                  go_round
                  case rel => exact ⟨g + 1, by omega, by go_num, by rw [HS.out]; go_num, HN4.out⟩
                  case measure => simp [intOf]; omega
                · have hge4 : ¬ (g : Int) < nf := by omega
                  obtain rfl : nf = g := by omega
                  have HV : Hid (Valid no nc nf nc o p f c) := valid_of rfl hL1 hL2 hL4
                  go_wp2
                  go_ret
                  exact end_true HV.out hB
end Go.Proofs.Qxb6000793a
