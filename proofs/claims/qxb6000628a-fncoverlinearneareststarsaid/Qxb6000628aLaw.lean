/-
  The walk of FnCoverLinearNearestStar.
-/
import Derived.Test.Qxb6000628aZz
namespace Go.Proofs.Qxb6000628a
open Go.RowKit

/-- The end of a law: it answers yes, and nothing old has turned. -/
def LEnd (w : World) (e : Ending) (w' : World) : Prop := e = .returned (.bool true) ∧ Below w.heap.size w w'
theorem lend {w w' : World} (hb : Below w.heap.size w w') : LEnd w (.returned (.bool true)) w' := ⟨rfl, hb⟩
/-- New rows of slices and of bools. -/
def mk55 (W : World) (n : Nat) : World := W.alloc (.cells (madeCells #[.slice none 0 0] n) 54)
def mk48 (W : World) (n : Nat) : World := W.alloc (.cells (madeCells #[.bool false] n) 4)
theorem mk55_size (W : World) (n : Nat) : (mk55 W n).heap.size = W.heap.size + 1 := by simp [mk55]
theorem mk48_size (W : World) (n : Nat) : (mk48 W n).heap.size = W.heap.size + 1 := by simp [mk48]
theorem mk55_own (W : World) (n : Nat) : Own (mk55 W n) W.heap.size n (fun _ => .slice none 0 0) := made_own W _ _ n
theorem mk48_own (W : World) (n : Nat) : Own (mk48 W n) W.heap.size n (fun _ => .bool false) := made_own W _ _ n
theorem mk55_below (W : World) (n : Nat) : Below W.heap.size W (mk55 W n) := below_alloc W _
theorem mk48_below (W : World) (n : Nat) : Below W.heap.size W (mk48 W n) := below_alloc W _

theorem sl_exists (n m : Nat) (op arg : Nat → Int) (L : Nat → Nat) (G : Nat → Nat → Int) (h : ∀ i, i < n → op i = 1 → 0 ≤ arg i ∧ arg i < m) : ∃ sl, SlOk n m op arg L G sl := by
  refine ⟨fun i => if op i = 0 then arg i == 47 else if op i = 1 then @decide (HasSl (G (arg i).toNat) (L (arg i).toNat)) (Classical.propDecidable _) else false, ?_, ?_, ?_⟩
  · intro i hi h0
    simp only [h0, if_true]
  · intro i hi h1
    refine ⟨(h i hi h1).1, (h i hi h1).2, ?_⟩
    simp only [h1, show ¬ (1 : Int) = 0 by omega, if_false, if_true]
    exact @decide_eq_true_iff _ (Classical.propDecidable _)
  · intro i hi h0 h1
    simp only [h0, h1, if_false]

set_option maxHeartbeats 16000000 in
set_option maxRecDepth 1000000 in
theorem lawC (a0 a1 a2 : Option Addr) (n0 c0 n1 c1 n2 c2 : Nat) (op arg : Nat → Int) (A : Nat → Option Addr) (L C : Nat → Nat) (G : Nat → Nat → Int) (w : World)
    (h0 : n0 ≤ maxLen) (h1 : n1 ≤ maxLen) (h2 : n2 ≤ maxLen) (r0 : Row w a0 n0 (nums .u8 op)) (r1 : Row w a1 n1 (nums .i32 arg)) (hC : Cls w a2 n2 A L C G) (hL : ∀ r, r < n2 → L r ≤ maxLen)
    (hG : ∀ j, j < n1 → -2147483648 ≤ arg j ∧ arg j ≤ 2147483647) (k0 : a0 = none → n0 = 0 ∧ c0 = 0) (k1 : a1 = none → n1 = 0 ∧ c1 = 0) (k2 : a2 = none → n2 = 0 ∧ c2 = 0) :
    Calls Try.prog 7 #[.slice a0 n0 c0, .slice a1 n1 c1, .slice a2 n2 c2] w fun e w' => LEnd w e w' := by
  have HL : Hid (∀ r, r < n2 → L r ≤ maxLen) := hL
  have HG : Hid (∀ j, j < n1 → -2147483648 ≤ arg j ∧ arg j ≤ 2147483647) := hG
  have K0 : Hid (a0 = none → n0 = 0 ∧ c0 = 0) := k0
  have K1 : Hid (a1 = none → n1 = 0 ∧ c1 = 0) := k1
  have K2 : Hid (a2 = none → n2 = 0 ∧ c2 = 0) := k2
  clear hL hG k0 k1 k2
  go_enter Try.func7, Try.ntmps7
  go_wp2_with fail
  refine (bytes_any a0 a1 a2 n0 c0 n1 c1 n2 c2 A L C w h0 h1 h2 hC.outer HL.out).mono ?_
  rintro e w' ⟨bb, rfl, hS, rfl⟩
  rename World => w
  cases bb with
  | false =>
    clear hS
    go_wp2
    go_ret
    exact lend (Below.refl _ _)
  | true =>
  obtain ⟨s0, s1, s2, s3⟩ := hS rfl
  have HL : Hid (∀ r, r < n2 → L r ≤ 1048576) := s3
  clear hS h0 h1 h2 s3
  by_cases b0 : n0 ≤ 65536
  case neg =>
    have d0 : decide ((65536 : Int) < n0) = true := decide_eq_true (by omega)
    go_wp2
    go_ret
    exact lend (Below.refl _ _)
  have d0 : decide ((65536 : Int) < n0) = false := decide_eq_false (by omega)
  by_cases b1 : n1 ≤ 65536
  case neg =>
    have d1 : decide ((65536 : Int) < n1) = true := decide_eq_true (by omega)
    go_wp2
    go_ret
    exact lend (Below.refl _ _)
  have d1 : decide ((65536 : Int) < n1) = false := decide_eq_false (by omega)
  by_cases b2 : n2 ≤ 65536
  case neg =>
    have d2 : decide ((65536 : Int) < n2) = true := decide_eq_true (by omega)
    go_wp2
    go_ret
    exact lend (Below.refl _ _)
  have d2 : decide ((65536 : Int) < n2) = false := decide_eq_false (by omega)
  go_wp2_with fail
  refine (cbytes_any a2 n2 c2 A L C w s2 hC.outer HL.out).mono ?_
  rintro e w' ⟨t, rfl, ht, rfl⟩
  rename World => w
  by_cases b3 : n0 + 4 * n1 + t ≤ 1048576
  case neg =>
    have d3 : decide ((1048576 : Int) < n0 + 4 * n1 + t) = true := decide_eq_true (by omega)
    go_wp2
    go_ret
    exact lend (Below.refl _ _)
  have d3 : decide ((1048576 : Int) < n0 + 4 * n1 + t) = false := decide_eq_false (by omega)
  go_wp2_with fail
  refine (prem_any a0 a1 a2 n0 c0 n1 c1 n2 c2 op arg A L C G w s0 s1 s2 r0 r1 hC HL.out HG.out).mono ?_
  rintro e w1 ⟨bb, rfl, hP, q, hq⟩
  have hB1 : Below w.heap.size w w1 := by rw [hq]; exact below_drewN (Below.refl _ _)
  clear hq d0 d1 d2 d3
  cases bb with
  | false =>
    clear hP
    go_wp2
    go_ret
    exact lend hB1
  | true =>
  have HP : Prem n0 n1 n2 op arg L G := hP rfl
  clear hP
  have hlen := HP.len
  subst hlen
  have q0 := r0.below hB1 (Nat.le_refl _)
  have q1 := r1.below hB1 (Nat.le_refl _)
  have qC := hC.below hB1 (Nat.le_refl _)
  have z1 := hB1.size
  clear r0 r1 hC
  go_wp2_with fail
  refine (clone23_any a0 n1 c0 op w1 q0 K0.out s1).mono ?_
  rintro e w2 ⟨A0, C0, rfl, e0, N0, hB2, M0⟩
  have z2 := hB2.size
  have q1 := q1.below hB2 (Nat.le_refl _)
  have qC := qC.below hB2 (Nat.le_refl _)
  clear N0 e0
  go_wp2_with fail
  refine (clone35_any a1 n1 c1 arg w2 q1 K1.out s1).mono ?_
  rintro e w3 ⟨A1, C1, rfl, e1, N1, hB3, M1⟩
  have z3 := hB3.size
  have qC := qC.below hB3 (Nat.le_refl _)
  have R0 := (M0.below hB3 (Nat.le_refl _)).row
  clear N1 e1
  go_wp2_with fail
  refine (sets_any a2 n2 c2 A L C G w3 qC K2.out s2 HL.out).mono ?_
  rintro e w4 ⟨A2, C2, A', C', rfl, hB4, QC⟩
  have z4 := hB4.size
  have R0 := R0.below hB4 (Nat.le_refl _)
  have R1 := (M1.below hB4 (Nat.le_refl _)).row
  have HB : Below w.heap.size w w4 := ((hB1.trans (hB2.mono z1)).trans (hB3.mono (by omega))).trans (hB4.mono (by omega))
  obtain ⟨sl, hSl⟩ := sl_exists n1 n2 op arg L G (fun i hi h => by rcases HP.ops i hi with h' | h'; omega; exact h'.2)
  have HWF : Hid (∀ r, r < n2 → WF (G r) (L r)) := HP.wf
  have HOP : Hid (∀ i, i < n1 → op i = 0 ∨ op i = 1 ∨ op i = 2 ∨ op i = 3 ∨ op i = 6) := fun i hi => by have := HP.ops i hi; omega
  clear hB1 hB2 hB3 hB4 M0 M1 qC HP
  have m55 : ∀ W, (Instr.makeSlice 55 (.int .i64 (n1 : Int)) (.int .i64 (n1 : Int))).run Try.prog W = .ok (.slice (some ⟨W.heap.size, 0, none⟩) n1 n1) (mk55 W n1) := make55 n1 (by omega)
  have BA := mk55_below w4 n1
  have OA := mk55_own w4 n1
  have ZA := mk55_size w4 n1
  go_wp2_with fail
  have W5 : ∃ w5, mk55 w4 n1 = w5 := ⟨_, rfl⟩
  obtain ⟨w5, hw5⟩ := W5
  rw [hw5] at BA OA ZA ⊢
  clear hw5 m55
  have R0 := R0.below BA (Nat.le_refl _)
  have R1 := R1.below BA (Nat.le_refl _)
  have QC := QC.below BA (Nat.le_refl _)
  have RA : Row w5 (some ⟨w4.heap.size, 0, none⟩) n1 (fun _ => .slice none 0 0) := Or.inr ⟨_, _, rfl, OA.reads⟩
  have HB5 := HB.trans (BA.mono (by omega))
  refine (zz_any A0 A1 (some ⟨w4.heap.size, 0, none⟩) A2 n1 C0 C1 n1 n2 C2 op arg A' L C' G sl w5 b0 b2 R0 R1 RA QC HL.out HWF.out hSl HOP.out).mono ?_
  rintro e w6 ⟨cb, rfl, CV, hB6, hcb⟩
  have z6 := hB6.size
  have R0 := R0.below hB6 (Nat.le_refl _)
  have R1 := R1.below hB6 (Nat.le_refl _)
  have QC := QC.below hB6 (Nat.le_refl _)
  have HB6 := HB5.trans (hB6.mono (by omega))
  have m48 : ∀ W, (Instr.makeSlice 48 (.int .i64 (n1 : Int)) (.int .i64 (n1 : Int))).run Try.prog W = .ok (.slice (some ⟨W.heap.size, 0, none⟩) n1 n1) (mk48 W n1) := make48 n1 (by omega)
  have hdn : ((n1 : Int) != n1) = false := by simp
  have OB := mk48_own w6 n1
  have BB := mk48_below w6 n1
  have ZB := mk48_size w6 n1
  clear RA OA BA hB6 HB5 HB
  go_wp2
  clear m48 hdn
  go_loopw [11] (fun s11 wr => ∃ k : Nat, k ≤ n1 ∧ s11 = .int .i64 k ∧ Own wr w6.heap.size n1 (fun j => if j < k then .bool (sl j) else .bool false) ∧ Below w6.heap.size w6 wr) (fun s11 _ => n1 - (intOf s11).toNat)
  case atStart => exact ⟨0, Nat.zero_le _, rfl, OB.congr (fun j hj => by rw [if_neg (by omega)]), BB⟩
  case round =>
    obtain ⟨k, hk, rfl, hO, hBr⟩ := hrel
    rename World => x
    clear OB BB ZB
    have R0 := R0.below hBr (Nat.le_refl _)
    have R1 := R1.below hBr (Nat.le_refl _)
    have QC := QC.below hBr (Nat.le_refl _)
    by_cases hlt : k < n1
    · have hlt' : (k : Int) < n1 := by omega
      obtain ⟨bO, oO, rfl, RO⟩ := R0.get (by omega)
      obtain ⟨bA, oA, rfl, RR⟩ := R1.get (by omega)
      have co := RO k hlt
      have ca := RR k hlt
      rw [nums_at] at co ca
      obtain ⟨o0, fo⟩ := hO k hlt
      have o1 : x.cell? ⟨w6.heap.size, k, none⟩ = some (.bool false) := by rw [o0]; simp
      have ops := HOP.out k hlt
      obtain ⟨y, hy⟩ : ∃ y, op k = y := ⟨_, rfl⟩
      have HY : Hid (op k = y) := hy
      rw [hy] at co ops
      clear hy o0
      have NX : ∀ v : Value, v = .bool (sl k) → Own (x.setCell ⟨w6.heap.size, k, none⟩ v) w6.heap.size n1 (fun j => if j < k + 1 then .bool (sl j) else .bool false) := fun v hv => by
        refine (hO.set hlt v).congr ?_
        intro j hj
        by_cases e : j = k
        · subst e; rw [upd_same, if_pos (by omega), hv]
        · rw [upd_other _ _ _ _ e]
          by_cases e2 : j < k
          · rw [if_pos e2, if_pos (by omega)]
          · rw [if_neg e2, if_neg (by omega)]
      have NX : Hid (∀ v : Value, v = .bool (sl k) → Own (x.setCell ⟨w6.heap.size, k, none⟩ v) w6.heap.size n1 (fun j => if j < k + 1 then .bool (sl j) else .bool false)) := NX
      by_cases y0 : y = 0
      · subst y0
        have hs := hSl.char k hlt HY.out
        obtain ⟨g, hg⟩ : ∃ g, arg k = g := ⟨_, rfl⟩
        rw [hg] at ca hs
        have HS : Hid (sl k = (g == 47)) := hs
        clear hg hs ops
        go_wp2
        go_roundw
        case rel => exact ⟨k + 1, by omega, by go_num, NX.out _ (by rw [HS.out]), hBr.setCell (Nat.le_refl _) _⟩
        case measure => simp [intOf]; omega
      · have e0 : (y == 0) = false := by rw [beq_eq_false_iff_ne]; exact y0
        by_cases y1 : y = 1
        · obtain ⟨g0, g1, g2⟩ := hSl.cls k hlt (by rw [HY.out]; exact y1)
          subst y1
          obtain ⟨r, hr⟩ := Int.eq_ofNat_of_zero_le g0
          rw [hr] at ca g1
          rw [hr, Int.toNat_natCast] at g2
          have hrm : r < n2 := by omega
          obtain ⟨bC, oC, rfl, RC⟩ := QC.outer.get (by omega)
          have cr := RC r hrm
          rw [sls_at] at cr
          have G2 : Hid (sl k = true ↔ HasSl (G r) (L r)) := g2
          have hll := HL.out r hrm
          clear g2 g0 hr ops y0 e0
          go_wp2_with fail
          refine (slash_any (A' r) (L r) (C' r) (G r) x (QC.inner r hrm) hll).mono ?_
          rintro e w' ⟨bb, rfl, hbb, rfl⟩
          rename World => x
          have HS : Hid (bb = sl k) := by show bb = sl k; rw [Bool.eq_iff_iff, hbb, G2.out]
          clear hbb
          go_wp2
          go_roundw
          case rel => exact ⟨k + 1, by omega, by go_num, NX.out _ (by rw [HS.out]), hBr.setCell (Nat.le_refl _) _⟩
          case measure => simp [intOf]; omega
        · have e1 : (y == 1) = false := by rw [beq_eq_false_iff_ne]; exact y1
          have hs := hSl.rest k hlt (by rw [HY.out]; exact y0) (by rw [HY.out]; exact y1)
          have HS : Hid (sl k = false) := hs
          clear hs y0 y1 ops
          go_wp2
          go_roundw
          case rel =>
            refine ⟨k + 1, by omega, by go_num, hO.congr ?_, hBr⟩
            intro j hj
            by_cases e : j = k
            · subst e; rw [if_neg (by omega), if_pos (by omega), HS.out]
            · by_cases e2 : j < k
              · rw [if_pos e2, if_pos (by omega)]
              · rw [if_neg e2, if_neg (by omega)]
          case measure => simp [intOf]; omega
    · have hge : ¬ (k : Int) < n1 := by omega
      have SL : Own x w6.heap.size n1 (fun j => .bool (sl j)) := hO.congr (fun j hj => by rw [if_pos (by omega)])
      have CX := CV.below hBr hcb
      have HBX := HB6.trans (hBr.mono (by omega))
      clear hO hBr CV HB6 QC hlt hk HL HWF HG
      go_wp2
      go_loop [12] (fun s12 => ∃ i : Nat, i ≤ n1 ∧ s12 = .int .i64 i) (fun s12 => n1 - (intOf s12).toNat)
      case atStart => exact ⟨0, Nat.zero_le _, rfl⟩
      case round =>
        obtain ⟨i, hi, rfl⟩ := hrel
        by_cases hlt : i < n1
        · have hlt' : (i : Int) < n1 := by omega
          obtain ⟨bO, oO, rfl, RO⟩ := R0.get (by omega)
          have co := RO i hlt
          have cc := (CX i hlt).1
          rw [nums_at] at co cc
          obtain ⟨y, hy⟩ : ∃ y, op i = y := ⟨_, rfl⟩
          have HY : Hid (op i = y) := hy
          rw [hy] at co
          obtain ⟨g, hg⟩ : ∃ g, cov op sl n1 i = g := ⟨_, rfl⟩
          have HCV : Hid (cov op sl n1 i = g) := hg
          rw [hg] at cc
          clear hy hg
          by_cases y2 : y = 2
          · have E2 : Hid (g = st op sl n1 (i + 1)) := by
              show g = _
              rw [← HCV.out]; unfold cov; rw [if_pos (by rw [HY.out]; exact y2)]
            subst y2
            go_wp2
            go_loop [13, 14] (fun s13 s14 => ∃ j : Nat, i + 1 ≤ j ∧ j ≤ n1 ∧ s13 = .int .i32 (-1) ∧ s14 = .int .i64 j ∧ Hid (g = st op sl n1 j)) (fun _ s14 => n1 - (intOf s14).toNat)
            case atStart => exact ⟨i + 1, by omega, by omega, rfl, by go_num, E2⟩
            case round =>
              obtain ⟨j, hj1, hj2, rfl, rfl, hE⟩ := hrel
              by_cases hjl : j < n1
              · have hjl' : (j : Int) < n1 := by omega
                have cj := RO j hjl
                have cs := (SL j hjl).1
                rw [nums_at] at cj
                obtain ⟨v, hv⟩ : ∃ v, op j = v := ⟨_, rfl⟩
                have HV : Hid (op j = v) := hv
                rw [hv] at cj
                clear hv
                by_cases v2 : v = 2
                · have HG2 : Hid (g = j) := by show g = j; rw [hE.out, st_star op sl n1 j hjl (Or.inl (by rw [HV.out]; exact v2))]
                  have hd : (g != (j : Int)) = false := by rw [bne_eq_false_iff_eq]; exact HG2.out
                  subst v2
                  go_wp2
                  go_round
                  case rel => exact ⟨i + 1, by omega, by go_num⟩
                  case measure => simp [intOf]; omega
                · have e2 : (v == 2) = false := by rw [beq_eq_false_iff_ne]; exact v2
                  by_cases v3 : v = 3
                  · have HG2 : Hid (g = j) := by show g = j; rw [hE.out, st_star op sl n1 j hjl (Or.inr (by rw [HV.out]; exact v3))]
                    have hd : (g != (j : Int)) = false := by rw [bne_eq_false_iff_eq]; exact HG2.out
                    subst v3
                    clear v2
                    go_wp2
                    go_round
                    case rel => exact ⟨i + 1, by omega, by go_num⟩
                    case measure => simp [intOf]; omega
                  · have e3 : (v == 3) = false := by rw [beq_eq_false_iff_ne]; exact v3
                    cases hsl : sl j with
                    | true =>
                      have HG2 : Hid (g = -1) := by show g = -1; rw [hE.out, st_slash op sl n1 j hjl (by rw [HV.out]; exact v2) (by rw [HV.out]; exact v3) hsl]
                      have hd : (g != (-1 : Int)) = false := by rw [bne_eq_false_iff_eq]; exact HG2.out
                      have cs1 : x.cell? ⟨w6.heap.size, j, none⟩ = some (.bool true) := by rw [cs]; simp only [hsl]
                      clear cs hsl v2 v3
                      go_wp2
                      go_round
                      case rel => exact ⟨i + 1, by omega, by go_num⟩
                      case measure => simp [intOf]; omega
                    | false =>
                      have HE : Hid (g = st op sl n1 (j + 1)) := by show g = _; rw [hE.out, st_next op sl n1 j hjl (by rw [HV.out]; exact v2) (by rw [HV.out]; exact v3) hsl]
                      have cs1 : x.cell? ⟨w6.heap.size, j, none⟩ = some (.bool false) := by rw [cs]; simp only [hsl]
                      clear cs hsl v2 v3
                      go_wp2
                      go_round
                      case rel => exact ⟨j + 1, by omega, by omega, rfl, by go_num, HE⟩
                      case measure => simp [intOf]; omega
              · have hge3 : ¬ (j : Int) < n1 := by omega
                obtain rfl : n1 = j := by omega
                have HG2 : Hid (g = -1) := by show g = -1; rw [hE.out, st_end]
                have hd : (g != (-1 : Int)) = false := by rw [bne_eq_false_iff_eq]; exact HG2.out
                go_wp2
                go_round
                case rel => exact ⟨i + 1, by omega, by go_num⟩
                case measure => simp [intOf]; omega
          · have e2 : (y == 2) = false := by rw [beq_eq_false_iff_ne]; exact y2
            by_cases y3 : y = 3
            · have E3 : Hid (g = ds op n1 (i + 1)) := by
                show g = _
                rw [← HCV.out]; unfold cov; rw [if_neg (by rw [HY.out]; exact y2), if_pos (by rw [HY.out]; exact y3)]
              subst y3
              clear y2
              go_wp2
              go_loop [13, 15] (fun s13 s15 => ∃ j : Nat, i + 1 ≤ j ∧ j ≤ n1 ∧ s13 = .int .i32 (-1) ∧ s15 = .int .i64 j ∧ Hid (g = ds op n1 j)) (fun _ s15 => n1 - (intOf s15).toNat)
              case atStart => exact ⟨i + 1, by omega, by omega, rfl, by go_num, E3⟩
              case round =>
                obtain ⟨j, hj1, hj2, rfl, rfl, hE⟩ := hrel
                by_cases hjl : j < n1
                · have hjl' : (j : Int) < n1 := by omega
                  have cj := RO j hjl
                  rw [nums_at] at cj
                  obtain ⟨v, hv⟩ : ∃ v, op j = v := ⟨_, rfl⟩
                  have HV : Hid (op j = v) := hv
                  rw [hv] at cj
                  clear hv
                  by_cases v3 : v = 3
                  · have HG2 : Hid (g = j) := by show g = j; rw [hE.out, ds_star op n1 j hjl (by rw [HV.out]; exact v3)]
                    have hd : (g != (j : Int)) = false := by rw [bne_eq_false_iff_eq]; exact HG2.out
                    subst v3
                    go_wp2
                    go_round
                    case rel => exact ⟨i + 1, by omega, by go_num⟩
                    case measure => simp [intOf]; omega
                  · have e3 : (v == 3) = false := by rw [beq_eq_false_iff_ne]; exact v3
                    have HE : Hid (g = ds op n1 (j + 1)) := by show g = _; rw [hE.out, ds_next op n1 j hjl (by rw [HV.out]; exact v3)]
                    clear v3
                    go_wp2
                    go_round
                    case rel => exact ⟨j + 1, by omega, by omega, rfl, by go_num, HE⟩
                    case measure => simp [intOf]; omega
                · have hge3 : ¬ (j : Int) < n1 := by omega
                  obtain rfl : n1 = j := by omega
                  have HG2 : Hid (g = -1) := by show g = -1; rw [hE.out, ds_end]
                  have hd : (g != (-1 : Int)) = false := by rw [bne_eq_false_iff_eq]; exact HG2.out
                  go_wp2
                  go_round
                  case rel => exact ⟨i + 1, by omega, by go_num⟩
                  case measure => simp [intOf]; omega
            · have e3 : (y == 3) = false := by rw [beq_eq_false_iff_ne]; exact y3
              have HG2 : Hid (g = -1) := by
                show g = -1
                rw [← HCV.out]; unfold cov; rw [if_neg (by rw [HY.out]; exact y2), if_neg (by rw [HY.out]; exact y3)]
              have hd : (g != (-1 : Int)) = false := by rw [bne_eq_false_iff_eq]; exact HG2.out
              clear y2 y3
              go_wp2
              go_round
              case rel => exact ⟨i + 1, by omega, by go_num⟩
              case measure => simp [intOf]; omega
        · have hge2 : ¬ (i : Int) < n1 := by omega
          go_wp2
          go_ret
          exact lend HBX
end Go.Proofs.Qxb6000628a
