/-
  The walks of the bound on total length, of zzClassBytes and of zzCoverLinearPremise.
-/
import Derived.Test.Qxb6000628aWell
namespace Go.Proofs.Qxb6000628a
open Go.RowKit

/-- Slices, as values. -/
def sls (A : Nat → Option Addr) (L C : Nat → Nat) : Nat → Value := fun r => .slice (A r) (L r) (C r)
theorem sls_at (A : Nat → Option Addr) (L C : Nat → Nat) (r : Nat) : sls A L C r = .slice (A r) (L r) (C r) := rfl

/-- A slice of slices of runes that can be read. -/
structure Cls (w : World) (a : Option Addr) (m : Nat) (A : Nat → Option Addr) (L C : Nat → Nat) (G : Nat → Nat → Int) : Prop where
  outer : Row w a m (sls A L C)
  inner : ∀ r, r < m → Row w (A r) (L r) (nums .i32 (G r))
  bare : ∀ r, r < m → A r = none → L r = 0 ∧ C r = 0
  rng : ∀ r, r < m → ∀ j, j < L r → -2147483648 ≤ G r j ∧ G r j ≤ 2147483647
theorem Cls.below {B : Nat} {w w' : World} {a : Option Addr} {m : Nat} {A : Nat → Option Addr} {L C : Nat → Nat} {G : Nat → Nat → Int} (h : Cls w a m A L C G) (hc : Below B w w') (hB : w.heap.size ≤ B) : Cls w' a m A L C G :=
  ⟨h.outer.below hc hB, fun r hr => (h.inner r hr).below hc hB, h.bare, h.rng⟩
theorem Cls.drewN {w : World} {a : Option Addr} {m : Nat} {A : Nat → Option Addr} {L C : Nat → Nat} {G : Nat → Nat → Int} (h : Cls w a m A L C G) (q : Nat) : Cls (w.drewN q) a m A L C G :=
  ⟨h.outer, h.inner, h.bare, h.rng⟩

/-- It answers; if yes, then S; nothing has turned. -/
def BEnd (S : Prop) (w : World) (e : Ending) (w' : World) : Prop := ∃ bb, e = .returned (.bool bb) ∧ (bb = true → S) ∧ w' = w
theorem bend_false {S : Prop} {w : World} : BEnd S w (.returned (.bool false)) w := ⟨false, rfl, fun e => (by cases e), rfl⟩
theorem bend_true {S : Prop} {w : World} (h : S) : BEnd S w (.returned (.bool true)) w := ⟨true, rfl, fun _ => h, rfl⟩

set_option maxHeartbeats 2000000 in
theorem bytes_any (a0 a1 a2 : Option Addr) (n0 c0 n1 c1 n2 c2 : Nat) (A : Nat → Option Addr) (L C : Nat → Nat) (w : World) (h0 : n0 ≤ maxLen) (h1 : n1 ≤ maxLen) (h2 : n2 ≤ maxLen)
    (hR : Row w a2 n2 (sls A L C)) (hL : ∀ r, r < n2 → L r ≤ maxLen) :
    Calls Try.prog 32 #[.slice a0 n0 c0, .slice a1 n1 c1, .slice a2 n2 c2] w fun e w' => BEnd (n0 ≤ 1048576 ∧ n1 ≤ 1048576 ∧ n2 ≤ 1048576 ∧ ∀ r, r < n2 → L r ≤ 1048576) w e w' := by
  unfold maxLen at h0 h1 h2
  have HL : Hid (∀ r, r < n2 → L r ≤ maxLen) := hL
  clear hL
  by_cases hs : n0 + n1 + n2 ≤ 1048576
  case neg =>
    go_enter Try.func32, Try.ntmps32
    go_wp2
    all_goals first | (go_ret; exact bend_false) | (exfalso; omega)
  have d1 : decide ((1048576 : Int) < n0) = false := decide_eq_false (by omega)
  have d2 : decide ((1048576 : Int) < n1) = false := decide_eq_false (by omega)
  have d3 : decide ((1048576 : Int) < n2) = false := decide_eq_false (by omega)
  have d4 : decide ((1048576 : Int) < (n0 : Int) + n1) = false := decide_eq_false (by omega)
  have d5 : decide ((1048576 : Int) < (n0 : Int) + n1 + n2) = false := decide_eq_false (by omega)
  go_enter Try.func32, Try.ntmps32
  go_wp2
  go_loop [7, 8] (fun s7 s8 => ∃ k t : Nat, k ≤ n2 ∧ t ≤ 1048576 ∧ s7 = .int .i64 t ∧ s8 = .int .i64 k ∧ Hid (∀ r, r < k → L r ≤ 1048576)) (fun _ s8 => n2 - (intOf s8).toNat)
  case atStart => exact ⟨0, n0 + n1 + n2, Nat.zero_le _, hs, by go_num, rfl, fun r hr => by omega⟩
  case round =>
    obtain ⟨k, t, hk, ht, rfl, rfl, hA⟩ := hrel
    clear d1 d2 d3 d4 d5
    by_cases hlt : k < n2
    · have hlt' : (k : Int) < n2 := by omega
      obtain ⟨b, off, rfl, R⟩ := hR.get (by omega)
      have ck := R k hlt
      rw [sls_at] at ck
      have hl := HL.out k hlt
      unfold maxLen at hl
      obtain ⟨l, hl0⟩ : ∃ l, L k = l := ⟨_, rfl⟩
      obtain ⟨x, hx⟩ : ∃ x, A k = x := ⟨_, rfl⟩
      obtain ⟨y, hy⟩ : ∃ y, C k = y := ⟨_, rfl⟩
      rw [hl0, hx, hy] at ck
      rw [hl0] at hl
      have HK : Hid (L k = l) := hl0
      clear hl0 hx hy
      by_cases hb : l ≤ 1048576
      · have d1 : decide ((1048576 : Int) < l) = false := decide_eq_false (by omega)
        by_cases hs2 : t + l ≤ 1048576
        · have d2 : decide ((1048576 : Int) < (t : Int) + l) = false := decide_eq_false (by omega)
          have HA : Hid (∀ r, r < k + 1 → L r ≤ 1048576) := fun r hr => by
            by_cases e : r = k
            · subst e; rw [HK.out]; exact hb
            · exact hA.out r (by omega)
          go_wp2
          go_round
          case rel => exact ⟨k + 1, t + l, by omega, hs2, by go_num, by go_num, HA⟩
          case measure => simp [intOf]; omega
        · have d2 : decide ((1048576 : Int) < (t : Int) + l) = true := decide_eq_true (by omega)
          go_wp2
          go_ret
          exact bend_false
      · have d1 : decide ((1048576 : Int) < l) = true := decide_eq_true (by omega)
        go_wp2
        go_ret
        exact bend_false
    · have hge : ¬ (k : Int) < n2 := by omega
      go_wp2
      go_ret
      exact bend_true ⟨by omega, by omega, by omega, fun r hr => hA.out r (by omega)⟩

/-- A number between 0 and 40 millions; nothing has turned. -/
def NEnd (w : World) (e : Ending) (w' : World) : Prop := ∃ t : Nat, e = .returned (.int .i64 t) ∧ t ≤ 40000000 ∧ w' = w
theorem nend {w : World} {t : Nat} {x : Int} (h : x = t) (ht : t ≤ 40000000) : NEnd w (.returned (.int .i64 x)) w := ⟨t, by rw [h], ht, rfl⟩

set_option maxHeartbeats 2000000 in
theorem cbytes_any (a2 : Option Addr) (n2 c2 : Nat) (A : Nat → Option Addr) (L C : Nat → Nat) (w : World) (h2 : n2 ≤ 1048576)
    (hR : Row w a2 n2 (sls A L C)) (hL : ∀ r, r < n2 → L r ≤ 1048576) :
    Calls Try.prog 33 #[.slice a2 n2 c2] w fun e w' => NEnd w e w' := by
  have HL : Hid (∀ r, r < n2 → L r ≤ 1048576) := hL
  clear hL
  go_enter Try.func33, Try.ntmps33
  go_wp2
  go_loop [3, 4] (fun s3 s4 => ∃ k t : Nat, k ≤ n2 ∧ t ≤ 25165824 ∧ s3 = .int .i64 t ∧ s4 = .int .i64 k) (fun _ s4 => n2 - (intOf s4).toNat)
  case atStart => exact ⟨0, 24 * n2, Nat.zero_le _, by omega, by go_num, rfl⟩
  case round =>
    obtain ⟨k, t, hk, ht, rfl, rfl⟩ := hrel
    by_cases hlt : k < n2
    · have hlt' : (k : Int) < n2 := by omega
      obtain ⟨b, off, rfl, R⟩ := hR.get (by omega)
      have ck := R k hlt
      rw [sls_at] at ck
      have hl := HL.out k hlt
      obtain ⟨l, hl0⟩ : ∃ l, L k = l := ⟨_, rfl⟩
      obtain ⟨x, hx⟩ : ∃ x, A k = x := ⟨_, rfl⟩
      obtain ⟨y, hy⟩ : ∃ y, C k = y := ⟨_, rfl⟩
      rw [hl0, hx, hy] at ck
      rw [hl0] at hl
      clear hl0 hx hy
      by_cases hb : t + 4 * l ≤ 1048576
      · have d1 : decide ((1048576 : Int) < (t : Int) + 4 * l) = false := decide_eq_false (by omega)
        go_wp2
        go_round
        case rel => exact ⟨k + 1, t + 4 * l, by omega, by omega, by go_num, by go_num⟩
        case measure => simp [intOf]; omega
      · have d1 : decide ((1048576 : Int) < (t : Int) + 4 * l) = true := decide_eq_true (by omega)
        go_wp2
        go_ret
        exact nend (t := t + 4 * l) (by omega) (by omega)
    · have hge : ¬ (k : Int) < n2 := by omega
      go_wp2
      go_ret
      exact nend (t := t) rfl (by omega)

/-- What the premise asks for. -/
structure Prem (n0 n1 n2 : Nat) (op arg : Nat → Int) (L : Nat → Nat) (G : Nat → Nat → Int) : Prop where
  len : n1 = n0
  wf : ∀ r, r < n2 → WF (G r) (L r)
  ops : ∀ i, i < n0 → (op i = 0 ∨ op i = 2 ∨ op i = 3 ∨ op i = 6) ∨ (op i = 1 ∧ 0 ≤ arg i ∧ arg i < n2)

set_option maxHeartbeats 4000000 in
set_option maxRecDepth 1000000 in
theorem prem_any (a0 a1 a2 : Option Addr) (n0 c0 n1 c1 n2 c2 : Nat) (op arg : Nat → Int) (A : Nat → Option Addr) (L C : Nat → Nat) (G : Nat → Nat → Int) (w : World) (h0 : n0 ≤ 1048576) (h1 : n1 ≤ 1048576) (h2 : n2 ≤ 1048576)
    (r0 : Row w a0 n0 (nums .u8 op)) (r1 : Row w a1 n1 (nums .i32 arg)) (hC : Cls w a2 n2 A L C G) (hL : ∀ r, r < n2 → L r ≤ 1048576) (hG : ∀ j, j < n1 → -2147483648 ≤ arg j ∧ arg j ≤ 2147483647) :
    Calls Try.prog 34 #[.slice a0 n0 c0, .slice a1 n1 c1, .slice a2 n2 c2] w fun e w' => DEnd (Prem n0 n1 n2 op arg L G) w e w' := by
  have HL : Hid (∀ r, r < n2 → L r ≤ 1048576) := hL
  have HG : Hid (∀ j, j < n1 → -2147483648 ≤ arg j ∧ arg j ≤ 2147483647) := hG
  clear hL hG
  by_cases hl : n1 = n0
  case neg =>
    have hd : ((n1 : Int) != n0) = true := by rw [bne_iff_ne]; omega
    go_enter Try.func34, Try.ntmps34
    go_wp2
    go_ret
    exact dend_false (dw_refl _)
  subst hl
  have hd : ((n1 : Int) != n1) = false := by simp
  go_enter Try.func34, Try.ntmps34
  go_wp2
  go_loopw [7] (fun s7 wr => ∃ k q : Nat, k ≤ n2 ∧ s7 = .int .i64 k ∧ wr = w.drewN q ∧ Hid (∀ r, r < k → WF (G r) (L r))) (fun s7 _ => n2 - (intOf s7).toNat)
  case atStart => exact ⟨0, 0, Nat.zero_le _, rfl, rfl, fun r hr => by omega⟩
  case round =>
    obtain ⟨k, q, hk, rfl, rfl, hA⟩ := hrel
    by_cases hlt : k < n2
    · have hlt' : (k : Int) < n2 := by omega
      obtain ⟨b, off, rfl, R⟩ := hC.outer.get (by omega)
      have ck := R k hlt
      rw [sls_at] at ck
      have hl := HL.out k hlt
      go_wp2_with fail
      refine (well_any (A k) (L k) (C k) (G k) _ ((hC.inner k hlt).drewN q) hl (hC.rng k hlt)).mono ?_
      rintro e w' ⟨bb, rfl, hV, q', rfl⟩
      cases bb with
      | false =>
        clear hV
        go_wp2
        go_ret
        exact dend_false (by repeat (first | exact dw_refl _ | refine dw_drewN ?_ _))
      | true =>
        have HA : Hid (∀ r, r < k + 1 → WF (G r) (L r)) := fun r hr => by
          by_cases e : r = k
          · subst e; exact hV rfl
          · exact hA.out r (by omega)
        clear hV
        go_wp2
        go_roundw
        case rel => exact ⟨k + 1, q + q', by omega, by go_num, by first | rfl | rw [World.drewN_drewN], HA⟩
        case measure => simp [intOf]; omega
    · have hge : ¬ (k : Int) < n2 := by omega
      obtain rfl : n2 = k := by omega
      clear hlt hk
      go_wp2
      go_loop [8] (fun s8 => ∃ i : Nat, i ≤ n1 ∧ s8 = .int .i64 i ∧ Hid (∀ j, j < i → (op j = 0 ∨ op j = 2 ∨ op j = 3 ∨ op j = 6) ∨ (op j = 1 ∧ 0 ≤ arg j ∧ arg j < n2))) (fun s8 => n1 - (intOf s8).toNat)
      case atStart => exact ⟨0, Nat.zero_le _, rfl, fun j hj => by omega⟩
      case round =>
        obtain ⟨i, hi, rfl, hB⟩ := hrel
        by_cases hlt : i < n1
        · have hlt' : (i : Int) < n1 := by omega
          obtain ⟨b0, o0, rfl, R0⟩ := r0.get (by omega)
          obtain ⟨b1, o1, rfl, R1⟩ := r1.get (by omega)
          have ck := R0 i hlt
          have ca := R1 i hlt
          rw [nums_at] at ck ca
          have ga := HG.out i hlt
          obtain ⟨x, hx⟩ : ∃ x, op i = x := ⟨_, rfl⟩
          obtain ⟨y, hy⟩ : ∃ y, arg i = y := ⟨_, rfl⟩
          rw [hx] at ck
          rw [hy] at ca ga
          obtain ⟨ga1, ga2⟩ := ga
          have next : Hid ((x = 0 ∨ x = 2 ∨ x = 3 ∨ x = 6) ∨ (x = 1 ∧ 0 ≤ y ∧ y < n2) → ∀ j, j < i + 1 → (op j = 0 ∨ op j = 2 ∨ op j = 3 ∨ op j = 6) ∨ (op j = 1 ∧ 0 ≤ arg j ∧ arg j < n2)) := fun h j hj => by
            by_cases e : j = i
            · subst e; rw [hx, hy]; exact h
            · exact hB.out j (by omega)
          clear hx hy
          by_cases x0 : x = 0
          · have HB : Hid (∀ j, j < i + 1 → (op j = 0 ∨ op j = 2 ∨ op j = 3 ∨ op j = 6) ∨ (op j = 1 ∧ 0 ≤ arg j ∧ arg j < n2)) := next.out (by omega)
            subst x0
            clear next
            go_wp2
            go_round
            case rel => exact ⟨i + 1, by omega, by go_num, HB⟩
            case measure => simp [intOf]; omega
          by_cases x2 : x = 2
          · have HB : Hid (∀ j, j < i + 1 → (op j = 0 ∨ op j = 2 ∨ op j = 3 ∨ op j = 6) ∨ (op j = 1 ∧ 0 ≤ arg j ∧ arg j < n2)) := next.out (by omega)
            subst x2
            clear next
            go_wp2
            go_round
            case rel => exact ⟨i + 1, by omega, by go_num, HB⟩
            case measure => simp [intOf]; omega
          by_cases x3 : x = 3
          · have HB : Hid (∀ j, j < i + 1 → (op j = 0 ∨ op j = 2 ∨ op j = 3 ∨ op j = 6) ∨ (op j = 1 ∧ 0 ≤ arg j ∧ arg j < n2)) := next.out (by omega)
            subst x3
            clear next
            go_wp2
            go_round
            case rel => exact ⟨i + 1, by omega, by go_num, HB⟩
            case measure => simp [intOf]; omega
          by_cases x6 : x = 6
          · have HB : Hid (∀ j, j < i + 1 → (op j = 0 ∨ op j = 2 ∨ op j = 3 ∨ op j = 6) ∨ (op j = 1 ∧ 0 ≤ arg j ∧ arg j < n2)) := next.out (by omega)
            subst x6
            clear next
            go_wp2
            go_round
            case rel => exact ⟨i + 1, by omega, by go_num, HB⟩
            case measure => simp [intOf]; omega
          by_cases x1 : x = 1
          · by_cases y0 : 0 ≤ y
            · have dy : decide (y < 0) = false := decide_eq_false (by omega)
              by_cases y1 : y < n2
              · have dz : decide ((n2 : Int) ≤ y) = false := decide_eq_false (by omega)
                have HB : Hid (∀ j, j < i + 1 → (op j = 0 ∨ op j = 2 ∨ op j = 3 ∨ op j = 6) ∨ (op j = 1 ∧ 0 ≤ arg j ∧ arg j < n2)) := next.out (by omega)
                subst x1
                clear next x0 x2 x3 x6
                go_wp2
                go_round
                case rel => exact ⟨i + 1, by omega, by go_num, HB⟩
                case measure => simp [intOf]; omega
              · have dz : decide ((n2 : Int) ≤ y) = true := decide_eq_true (by omega)
                subst x1
                clear next x0 x2 x3 x6
                go_wp2
                go_ret
                exact dend_false (by repeat (first | exact dw_refl _ | refine dw_drewN ?_ _))
            · have dy : decide (y < 0) = true := decide_eq_true (by omega)
              subst x1
              clear next x0 x2 x3 x6
              go_wp2
              go_ret
              exact dend_false (by repeat (first | exact dw_refl _ | refine dw_drewN ?_ _))
          · have b0 : (x == 0) = false := by rw [beq_eq_false_iff_ne]; exact x0
            have b1 : (x == 1) = false := by rw [beq_eq_false_iff_ne]; exact x1
            have b2 : (x == 2) = false := by rw [beq_eq_false_iff_ne]; exact x2
            have b3 : (x == 3) = false := by rw [beq_eq_false_iff_ne]; exact x3
            have b6 : (x == 6) = false := by rw [beq_eq_false_iff_ne]; exact x6
            clear next x0 x1 x2 x3 x6
            go_wp2
            go_ret
            exact dend_false (by repeat (first | exact dw_refl _ | refine dw_drewN ?_ _))
        · have hge2 : ¬ (i : Int) < n1 := by omega
          have HP : Hid (Prem n1 n1 n2 op arg L G) := ⟨rfl, hA.out, fun j hj => hB.out j (by omega)⟩
          go_wp2
          go_ret
          exact dend_true (by repeat (first | exact dw_refl _ | refine dw_drewN ?_ _)) HP.out
end Go.Proofs.Qxb6000628a
