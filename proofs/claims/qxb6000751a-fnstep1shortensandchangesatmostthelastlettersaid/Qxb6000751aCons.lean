/-
  The walks of consonant, hasVowel, measure, doubleConsonant, cvc.
-/
import Derived.Test.Qxb6000751aBase
import Derived.Deep.DeepCutAuto
import Derived.Deep.CutBlock
namespace Go.Proofs.Qxb6000751a
open Go.RowKit

theorem vow_no {x : Int} (h : isVow x = false) : (x == 97) = false ∧ (x == 101) = false ∧ (x == 105) = false ∧ (x == 111) = false ∧ (x == 117) = false := by
  unfold isVow at h
  simp only [Bool.or_eq_false_iff] at h
  exact ⟨h.1.1.1.1, h.1.1.1.2, h.1.1.2, h.1.2, h.2⟩
theorem vow_yes {x : Int} (h : isVow x = true) : x = 97 ∨ x = 101 ∨ x = 105 ∨ x = 111 ∨ x = 117 := by
  unfold isVow at h
  simp only [Bool.or_eq_true, beq_iff_eq] at h
  omega

set_option maxHeartbeats 2000000 in
theorem cons_vow (sb bb l cap : Nat) (i : Nat) (x : Int) (w : World) (_hl : l ≤ 4096) (fld : w.cell? ⟨sb, 0, none⟩ = some (.slice (some ⟨bb, 0, none⟩) l cap)) (hi : i < l) (hc : w.cell? ⟨bb, i, none⟩ = some (.int .u8 x)) (hv : isVow x = true) :
    Calls Try.prog 36 #[.pointer (some ⟨sb, 0, none⟩), .int .i64 i] w fun e w' => e = .returned (.bool false) ∧ w' = w := by
  have hi' : (i : Int) < l := by omega
  rcases vow_yes hv with rfl | rfl | rfl | rfl | rfl
  all_goals
    clear hv
    go_enter Try.func36, Try.ntmps36
    go_wp2
    go_ret
    exact ⟨rfl, rfl⟩

set_option maxHeartbeats 2000000 in
theorem cons_plain (sb bb l cap : Nat) (i : Nat) (x : Int) (w : World) (_hl : l ≤ 4096) (fld : w.cell? ⟨sb, 0, none⟩ = some (.slice (some ⟨bb, 0, none⟩) l cap)) (hi : i < l) (hc : w.cell? ⟨bb, i, none⟩ = some (.int .u8 x)) (hv : isVow x = false) (hy : x ≠ 121) :
    Calls Try.prog 36 #[.pointer (some ⟨sb, 0, none⟩), .int .i64 i] w fun e w' => e = .returned (.bool true) ∧ w' = w := by
  have hi' : (i : Int) < l := by omega
  obtain ⟨v1, v2, v3, v4, v5⟩ := vow_no hv
  have v6 : (x == 121) = false := by rw [beq_eq_false_iff_ne]; exact hy
  clear hv hy
  go_enter Try.func36, Try.ntmps36
  go_wp2
  go_ret
  exact ⟨rfl, rfl⟩

set_option maxHeartbeats 2000000 in
theorem cons_y0 (sb bb l cap : Nat) (w : World) (hl : l ≤ 4096) (fld : w.cell? ⟨sb, 0, none⟩ = some (.slice (some ⟨bb, 0, none⟩) l cap)) (hi : 0 < l) (hc : w.cell? ⟨bb, 0, none⟩ = some (.int .u8 121)) :
    Calls Try.prog 36 #[.pointer (some ⟨sb, 0, none⟩), .int .i64 0] w fun e w' => e = .returned (.bool true) ∧ w' = w := by
  have hi' : (0 : Int) < l := by omega
  go_enter Try.func36, Try.ntmps36
  go_wp2
  go_ret
  exact ⟨rfl, rfl⟩

set_option maxHeartbeats 2000000 in
theorem cons_y (sb bb l cap : Nat) (i : Nat) (v : Bool) (w : World) (hl : l ≤ 4096) (fld : w.cell? ⟨sb, 0, none⟩ = some (.slice (some ⟨bb, 0, none⟩) l cap)) (hi : i + 1 < l) (hc : w.cell? ⟨bb, i + 1, none⟩ = some (.int .u8 121))
    (ih : Calls Try.prog 36 #[.pointer (some ⟨sb, 0, none⟩), .int .i64 i] w fun e w' => e = .returned (.bool v) ∧ w' = w) :
    Calls Try.prog 36 #[.pointer (some ⟨sb, 0, none⟩), .int .i64 ((i + 1 : Nat) : Int)] w fun e w' => e = .returned (.bool !v) ∧ w' = w := by
  have IH : Hid (Calls Try.prog 36 #[.pointer (some ⟨sb, 0, none⟩), .int .i64 i] w fun e w' => e = .returned (.bool v) ∧ w' = w) := ih
  clear ih
  have hi' : (i : Int) + 1 < l := by omega
  have h0 : ((i : Int) + 1 == 0) = false := by rw [beq_eq_false_iff_ne]; omega
  go_enter Try.func36, Try.ntmps36
  go_wp2_with fail
  refine IH.out.mono ?_
  rintro e w' ⟨rfl, rfl⟩
  go_wp2
  go_ret
  exact ⟨rfl, rfl⟩

/-- What consonant answers. -/
theorem cons_any (sb bb l cap : Nat) (V : Nat → Int) (w : World) (h : Stm w sb bb l cap V) : ∀ i, i < l →
    Calls Try.prog 36 #[.pointer (some ⟨sb, 0, none⟩), .int .i64 i] w fun e w' => e = .returned (.bool (cons V i)) ∧ w' = w := by
  have hl : l ≤ 4096 := Nat.le_trans h.le h.cap_le
  intro i
  induction i with
  | zero =>
    intro hi
    have hc := (h.row 0 (by have := h.le; omega)).1
    rw [nums_at] at hc
    cases hv : isVow (V 0) with
    | true =>
      simp only [cons, hv, Bool.not_true]
      exact cons_vow sb bb l cap 0 (V 0) w hl h.fld hi hc hv
    | false =>
      simp only [cons, hv, Bool.not_false]
      by_cases hy : V 0 = 121
      · rw [hy] at hc
        exact cons_y0 sb bb l cap w hl h.fld hi hc
      · exact cons_plain sb bb l cap 0 (V 0) w hl h.fld hi hc hv hy
  | succ i ih =>
    intro hi
    have hc := (h.row (i + 1) (by have := h.le; omega)).1
    rw [nums_at] at hc
    cases hv : isVow (V (i + 1)) with
    | true =>
      simp only [cons, hv, if_true]
      exact cons_vow sb bb l cap (i + 1) (V (i + 1)) w hl h.fld hi hc hv
    | false =>
      by_cases hy : V (i + 1) = 121
      · simp only [cons]
        rw [if_neg (by simp [hv]), if_pos hy]
        rw [hy] at hc
        exact cons_y sb bb l cap i (cons V i) w hl h.fld hi hc (ih (by omega))
      · simp only [cons]
        rw [if_neg (by simp [hv]), if_neg hy]
        exact cons_plain sb bb l cap (i + 1) (V (i + 1)) w hl h.fld hi hc hv hy

/-- Some bool; nothing has turned. -/
def REnd (w : World) (e : Ending) (w' : World) : Prop := ∃ bb, e = .returned (.bool bb) ∧ w' = w
theorem rend {w : World} (b : Bool) : REnd w (.returned (.bool b)) w := ⟨b, rfl, rfl⟩

set_option maxHeartbeats 2000000 in
theorem vowel_any (sb bb l cap n : Nat) (V : Nat → Int) (w : World) (h : Stm w sb bb l cap V) (hn : n ≤ l) :
    Calls Try.prog 43 #[.pointer (some ⟨sb, 0, none⟩), .int .i64 n] w fun e w' => REnd w e w' := by
  have hl : l ≤ 4096 := Nat.le_trans h.le h.cap_le
  go_enter Try.func43, Try.ntmps43
  go_wp2
  go_loop [7] (fun s7 => ∃ k : Nat, k ≤ n ∧ s7 = .int .i64 k) (fun s7 => n - (intOf s7).toNat)
  case atStart => exact ⟨0, Nat.zero_le _, rfl⟩
  case round =>
    obtain ⟨k, hk, rfl⟩ := hrel
    by_cases hlt : k < n
    · have hlt' : (k : Int) < n := by omega
      go_wp2_with fail
      refine (cons_any sb bb l cap V w h k (by omega)).mono ?_
      rintro e w' ⟨rfl, rfl⟩
      cases hc : cons V k with
      | true =>
        clear hc
        go_wp2
        go_round
        case rel => exact ⟨k + 1, by omega, by go_num⟩
        case measure => simp [intOf]; omega
      | false =>
        clear hc
        go_wp2
        go_ret
        exact rend _
    · have hge : ¬ (k : Int) < n := by omega
      go_wp2
      go_ret
      exact rend _

/-- Some number up to n; nothing has turned. -/
def MEnd (n : Nat) (w : World) (e : Ending) (w' : World) : Prop := ∃ m : Nat, e = .returned (.int .i64 m) ∧ m ≤ n ∧ w' = w

set_option maxHeartbeats 4000000 in
theorem measure_any (sb bb l cap n : Nat) (V : Nat → Int) (w : World) (h : Stm w sb bb l cap V) (hn : n ≤ l) :
    Calls Try.prog 33 #[.pointer (some ⟨sb, 0, none⟩), .int .i64 n] w fun e w' => MEnd n w e w' := by
  have hl : l ≤ 4096 := Nat.le_trans h.le h.cap_le
  go_enter Try.func33, Try.ntmps33
  go_upto_block 0 with fail
  go_cut [6] (fun s6 wc => ∃ k : Nat, k ≤ n ∧ s6 = .int .i64 k ∧ wc = w)
  case first =>
    go_wp2_with fail
    go_loop [6] (fun s6 => ∃ k : Nat, k ≤ n ∧ s6 = .int .i64 k) (fun s6 => n - (intOf s6).toNat)
    case atStart => exact ⟨0, Nat.zero_le _, rfl⟩
    case round =>
      obtain ⟨k, hk, rfl⟩ := hrel
      by_cases hlt : k < n
      · have hlt' : decide (k < n) = true := decide_eq_true hlt
        go_wp2_with fail
        refine (cons_any sb bb l cap V w h k (by omega)).mono ?_
        rintro e w' ⟨rfl, rfl⟩
        cases hc : cons V k with
        | true =>
          clear hc
          go_wp2
          go_round
          case rel => exact ⟨k + 1, by omega, by go_num⟩
          case measure => simp [intOf]; omega
        | false =>
          clear hc
          go_wp2
          go_meet
          case rel => exact ⟨k, hk, rfl, rfl⟩
      · have hlt' : decide (k < n) = false := decide_eq_false hlt
        go_wp2
        go_meet
        case rel => exact ⟨k, hk, rfl, rfl⟩
  case rest =>
    obtain ⟨k0, hk0, rfl, rfl⟩ := hcut
    rename World => w
    go_wp2
    go_loop [5, 6] (fun s5 s6 => ∃ m k : Nat, k ≤ n ∧ m ≤ k ∧ s5 = .int .i64 m ∧ s6 = .int .i64 k) (fun _ s6 => n - (intOf s6).toNat)
    case atStart => exact ⟨0, k0, hk0, Nat.zero_le _, rfl, rfl⟩
    case round =>
      obtain ⟨m, k, hk, hm, rfl, rfl⟩ := hrel
      by_cases hlt : k < n
      · have hlt' : decide (k < n) = true := decide_eq_true hlt
        go_upto_block 4 with fail
        go_cut [6] (fun s6 wc => ∃ j : Nat, k ≤ j ∧ j ≤ n ∧ s6 = .int .i64 j ∧ wc = w ∧ Hid (j < n → cons V j = true))
        case first =>
          go_wp2_with fail
          go_loop [6] (fun s6 => ∃ j : Nat, k ≤ j ∧ j ≤ n ∧ s6 = .int .i64 j) (fun s6 => n - (intOf s6).toNat)
          case atStart => exact ⟨k, Nat.le_refl _, hk, rfl⟩
          case round =>
            obtain ⟨j, hj1, hj2, rfl⟩ := hrel
            by_cases hjl : j < n
            · have hjl' : decide (j < n) = true := decide_eq_true hjl
              go_wp2_with fail
              refine (cons_any sb bb l cap V w h j (by omega)).mono ?_
              rintro e w' ⟨rfl, rfl⟩
              cases hc : cons V j with
              | true =>
                have HC : Hid (j < n → cons V j = true) := fun _ => hc
                clear hc
                go_wp2
                go_meet
                case rel => exact ⟨j, hj1, hj2, rfl, rfl, HC⟩
              | false =>
                clear hc
                go_wp2
                go_round
                case rel => exact ⟨j + 1, by omega, by omega, by go_num⟩
                case measure => simp [intOf]; omega
            · have hjl' : decide (j < n) = false := decide_eq_false hjl
              have HC : Hid (j < n → cons V j = true) := fun h => absurd h hjl
              go_wp2
              go_meet
              case rel => exact ⟨j, hj1, hj2, rfl, rfl, HC⟩
        case rest =>
          obtain ⟨j, hj1, hj2, rfl, rfl, HC⟩ := hcut
          rename World => w
          by_cases hjn : j = n
          · have hd : ((j : Int) == n) = true := by rw [beq_iff_eq]; omega
            clear hjn
            go_wp2
            go_ret
            exact ⟨m, rfl, by omega, rfl⟩
          · have hd : ((j : Int) == n) = false := by rw [beq_eq_false_iff_ne]; omega
            have hjl : j < n := by omega
            clear hjn
            go_upto_block 6 with fail
            go_cut [6] (fun s6 wc => ∃ i : Nat, j < i ∧ i ≤ n ∧ s6 = .int .i64 i ∧ wc = w)
            case first =>
              go_wp2_with fail
              go_loop [6] (fun s6 => ∃ i : Nat, j ≤ i ∧ i ≤ n ∧ s6 = .int .i64 i) (fun s6 => n - (intOf s6).toNat)
              case atStart => exact ⟨j, Nat.le_refl _, hj2, rfl⟩
              case round =>
                obtain ⟨i, hi1, hi2, rfl⟩ := hrel
                by_cases hil : i < n
                · have hil' : decide (i < n) = true := decide_eq_true hil
                  go_wp2_with fail
                  refine (cons_any sb bb l cap V w h i (by omega)).mono ?_
                  rintro e w' ⟨rfl, rfl⟩
                  cases hc : cons V i with
                  | true =>
                    clear hc
                    go_wp2
                    go_round
                    case rel => exact ⟨i + 1, by omega, by omega, by go_num⟩
                    case measure => simp [intOf]; omega
                  | false =>
                    have hlt2 : j < i := by
                      rcases Nat.lt_or_ge j i with e | e
                      · exact e
                      · have : i = j := by omega
                        subst this
                        rw [HC.out hil] at hc
                        cases hc
                    clear hc
                    go_wp2
                    go_meet
                    case rel => exact ⟨i, hlt2, hi2, rfl, rfl⟩
                · have hil' : decide (i < n) = false := decide_eq_false hil
                  go_wp2
                  go_meet
                  case rel => exact ⟨i, by omega, hi2, rfl, rfl⟩
            case rest =>
              obtain ⟨i, hi1, hi2, rfl, rfl⟩ := hcut
              go_wp2
              go_round
              case rel => exact ⟨m + 1, i, hi2, by omega, by go_num, rfl⟩
              case measure => simp [intOf]; omega
      · have hlt' : decide (k < n) = false := decide_eq_false hlt
        go_wp2
        go_ret
        exact ⟨m, rfl, by omega, rfl⟩

set_option maxHeartbeats 4000000 in
theorem cvc_any (sb bb l cap n : Nat) (V : Nat → Int) (w : World) (h : Stm w sb bb l cap V) (hn : n ≤ l) :
    Calls Try.prog 42 #[.pointer (some ⟨sb, 0, none⟩), .int .i64 n] w fun e w' => REnd w e w' := by
  have hl : l ≤ 4096 := Nat.le_trans h.le h.cap_le
  by_cases h3 : n < 3
  · have hd : decide ((n : Int) < 3) = true := decide_eq_true (by omega)
    go_enter Try.func42, Try.ntmps42
    go_wp2
    go_ret
    exact rend _
  have hd : decide ((n : Int) < 3) = false := decide_eq_false (by omega)
  obtain ⟨k, rfl⟩ : ∃ k, n = k + 3 := ⟨n - 3, by omega⟩
  have e1 : ((k + 3 : Nat) : Int) - 1 = ((k + 2 : Nat) : Int) := by omega
  have hc := (h.row (k + 2) (by have := h.le; omega)).1
  rw [nums_at] at hc
  have fld := h.fld
  have hk : (k : Int) + 2 < l := by omega
  clear e1
  go_enter Try.func42, Try.ntmps42
  go_wp2_with fail
  rw [show ((k : Int) + 3 - 1) = ((k + 2 : Nat) : Int) from by omega]
  refine (cons_any sb bb l cap V w h (k + 2) (by omega)).mono ?_
  rintro e w' ⟨rfl, rfl⟩
  cases h1 : cons V (k + 2) with
  | false =>
    clear h1
    go_wp2
    go_ret
    exact rend _
  | true =>
  clear h1
  go_wp2_with fail
  rw [show ((k : Int) + 3 - 2) = ((k + 1 : Nat) : Int) from by omega]
  refine (cons_any sb bb l cap V _ h (k + 1) (by omega)).mono ?_
  rintro e w' ⟨rfl, rfl⟩
  cases h1 : cons V (k + 1) with
  | true =>
    clear h1
    go_wp2
    go_ret
    exact rend _
  | false =>
  clear h1
  go_wp2_with fail
  refine (cons_any sb bb l cap V _ h k (by omega)).mono ?_
  rintro e w' ⟨rfl, rfl⟩
  cases h1 : cons V k with
  | false =>
    clear h1
    go_wp2
    go_ret
    exact rend _
  | true =>
  clear h1
  obtain ⟨x, hx⟩ : ∃ x, V (k + 2) = x := ⟨_, rfl⟩
  rw [hx] at hc
  clear hx
  have n1 : ((k : Int) + 3 - 1).toNat = k + 2 := by omega
  have n2 : (k : Int) + 3 - 1 < l := by omega
  have n3 : (0 : Int) ≤ (k : Int) + 3 - 1 := by omega
  go_wp2
  all_goals (go_ret; exact rend _)

/-- Some bool, which is no where n is below two; at most draws have been made. -/
def DEnd (n : Nat) (w : World) (e : Ending) (w' : World) : Prop := ∃ bb, e = .returned (.bool bb) ∧ (bb = true → 2 ≤ n) ∧ ∃ q, w' = w.drewN q
theorem dw_refl (w : World) : ∃ q, w = w.drewN q := ⟨0, rfl⟩
theorem dw_drewN {w w' : World} (h : ∃ q, w' = w.drewN q) (n : Nat) : ∃ q, w'.drewN n = w.drewN q := by
  obtain ⟨q, rfl⟩ := h
  exact ⟨q + n, by rw [World.drewN_drewN]⟩

set_option maxHeartbeats 4000000 in
set_option maxRecDepth 1000000 in
theorem double_any (sb bb l cap n : Nat) (V : Nat → Int) (w : World) (h : Stm w sb bb l cap V) (hn : n ≤ l) :
    Calls Try.prog 41 #[.pointer (some ⟨sb, 0, none⟩), .int .i64 n] w fun e w' => DEnd n w e w' := by
  have hl : l ≤ 4096 := Nat.le_trans h.le h.cap_le
  by_cases h2 : n < 2
  · have hd : decide ((2 : Int) ≤ n) = false := decide_eq_false (by omega)
    go_enter Try.func41, Try.ntmps41
    go_wp2_with fail
    go_quiet (fail)
    go_wp2
    go_ret
    exact ⟨false, rfl, fun e => (by cases e), by repeat (first | exact dw_refl _ | refine dw_drewN ?_ _)⟩
  obtain ⟨k, rfl⟩ : ∃ k, n = k + 2 := ⟨n - 2, by omega⟩
  have hd : decide ((2 : Int) ≤ (k : Int) + 2) = true := decide_eq_true (by omega)
  have hc1 := (h.row (k + 1) (by have := h.le; omega)).1
  have hc0 := (h.row k (by have := h.le; omega)).1
  rw [nums_at] at hc1 hc0
  have fld := h.fld
  obtain ⟨x, hx⟩ : ∃ x, V (k + 1) = x := ⟨_, rfl⟩
  obtain ⟨y, hy⟩ : ∃ y, V k = y := ⟨_, rfl⟩
  rw [hx] at hc1
  rw [hy] at hc0
  clear hx hy
  have n1 : ((k : Int) + 2 - 1).toNat = k + 1 := by omega
  have n2 : (k : Int) + 2 - 1 < l := by omega
  have n3 : (0 : Int) ≤ (k : Int) + 2 - 1 := by omega
  have n4 : ((k : Int) + 2 - 2).toNat = k := by omega
  have n5 : (k : Int) + 2 - 2 < l := by omega
  have n6 : (0 : Int) ≤ (k : Int) + 2 - 2 := by omega
  by_cases hxy : x = y
  · have he : (x == y) = true := by rw [beq_iff_eq]; exact hxy
    clear hxy
    go_enter Try.func41, Try.ntmps41
    go_wp2_with fail
    go_quiet ((go_at_call 36; rw [show ((k : Int) + 2 - 1) = ((k + 1 : Nat) : Int) from by omega]; exact Calls.quiet_of_same (cons_any sb bb l cap V _ (h.drewN _) (k + 1) (by omega))))
    go_wp2
    go_ret
    exact ⟨_, rfl, fun _ => by omega, by repeat (first | exact dw_refl _ | refine dw_drewN ?_ _)⟩
  · have he : (x == y) = false := by rw [beq_eq_false_iff_ne]; exact hxy
    clear hxy
    go_enter Try.func41, Try.ntmps41
    go_wp2_with fail
    go_quiet (fail)
    go_wp2
    go_ret
    exact ⟨_, rfl, fun _ => by omega, by repeat (first | exact dw_refl _ | refine dw_drewN ?_ _)⟩
end Go.Proofs.Qxb6000751a
