/-
  The walk of (runeSet).holds, of zzClassHoldsSlash and of zzWellFormedClass.
-/
import Derived.Test.Qxb6000628aBase
namespace Go.Proofs.Qxb6000628a
open Go.RowKit

/-- It answers whether V; nothing has turned. -/
def AEnd (V : Prop) (w : World) (e : Ending) (w' : World) : Prop := ∃ bb, e = .returned (.bool bb) ∧ (bb = true ↔ V) ∧ w' = w
theorem aend_false {V : Prop} {w : World} (h : ¬ V) : AEnd V w (.returned (.bool false)) w := ⟨false, rfl, ⟨fun e => (by cases e), fun e => absurd e h⟩, rfl⟩
theorem aend_true {V : Prop} {w : World} (h : V) : AEnd V w (.returned (.bool true)) w := ⟨true, rfl, ⟨fun _ => h, fun _ => rfl⟩, rfl⟩
theorem aend_dec {V Q : Prop} [Decidable Q] {w : World} (h : V ↔ Q) : AEnd V w (.returned (.bool (decide Q))) w := ⟨decide Q, rfl, by rw [decide_eq_true_eq]; exact h.symm, rfl⟩

set_option maxHeartbeats 2000000 in
theorem holds_any (a : Option Addr) (L cap : Nat) (G : Nat → Int) (w : World) (hR : Row w a L (nums .i32 G)) (hL : L ≤ 1048576) (hW : WF G L) :
    Calls Try.prog 57 #[.slice a L cap, .int .i32 47] w fun e w' => AEnd (HasSl G L) w e w' := by
  have HW : Hid (WF G L) := hW
  have hev := hW.even
  obtain ⟨m, rfl⟩ : ∃ m, L = 2 * m := ⟨L / 2, by omega⟩
  clear hW hev
  go_enter Try.func57, Try.ntmps57
  go_wp2
  go_loop [5, 6] (fun s5 s6 => ∃ lo hi : Nat, lo ≤ hi ∧ hi ≤ m ∧ s5 = .int .i64 lo ∧ s6 = .int .i64 hi ∧ Hid (∀ k, k < lo → G (2 * k + 1) < 47) ∧ Hid (∀ k, hi ≤ k → 2 * k + 1 < 2 * m → 47 < G (2 * k))) (fun s5 s6 => (intOf s6 - intOf s5).toNat)
  case atStart => exact ⟨0, m, Nat.zero_le _, Nat.le_refl _, rfl, rfl, fun k hk => by omega, fun k h1 h2 => by omega⟩
  case round =>
    obtain ⟨lo, hi, h1, h2, rfl, rfl, hA, hB⟩ := hrel
    by_cases hgo : 4 < hi - lo
    · obtain ⟨b, off, rfl, R⟩ := hR.get (by omega)
      have hd : decide ((4 : Int) < (hi : Int) - lo) = true := decide_eq_true (by omega)
      have cm := R (2 * ((lo + hi) / 2) + 1) (by omega)
      rw [nums_at] at cm
      obtain ⟨x, hx⟩ : ∃ x, G (2 * ((lo + hi) / 2) + 1) = x := ⟨_, rfl⟩
      rw [hx] at cm
      by_cases hlt : x < 47
      · have HA : Hid (∀ k, k < (lo + hi) / 2 + 1 → G (2 * k + 1) < 47) := HW.out.low (by omega) (by rw [hx]; exact hlt)
        have hd2 : decide (x < 47) = true := decide_eq_true hlt
        clear hx
        go_wp2
        go_round
        case rel => exact ⟨(lo + hi) / 2 + 1, hi, by omega, h2, by go_num, rfl, HA, hB⟩
        case measure => simp [intOf]; omega
      · have HB : Hid (∀ k, (lo + hi) / 2 + 1 ≤ k → 2 * k + 1 < 2 * m → 47 < G (2 * k)) := HW.out.high (by rw [hx]; omega)
        have hd2 : decide (x < 47) = false := decide_eq_false hlt
        clear hx
        go_wp2
        go_round
        case rel => exact ⟨lo, (lo + hi) / 2 + 1, by omega, by omega, rfl, by go_num, hA, HB⟩
        case measure => simp [intOf]; omega
    · have hd : decide ((4 : Int) < (hi : Int) - lo) = false := decide_eq_false (by omega)
      go_wp2
      go_loop [8] (fun s8 => ∃ i : Nat, i ≤ hi ∧ s8 = .int .i64 i ∧ Hid (∀ k, k < i → G (2 * k + 1) < 47)) (fun s8 => hi - (intOf s8).toNat)
      case atStart => exact ⟨lo, h1, rfl, hA⟩
      case round =>
        obtain ⟨i, hi1, rfl, hAi⟩ := hrel
        by_cases hlt : i < hi
        · have hlt' : (i : Int) < hi := by omega
          obtain ⟨b, off, rfl, R⟩ := hR.get (by omega)
          have c1 := R (2 * i + 1) (by omega)
          have c0 := R (2 * i) (by omega)
          rw [nums_at] at c1 c0
          obtain ⟨x, hx⟩ : ∃ x, G (2 * i + 1) = x := ⟨_, rfl⟩
          obtain ⟨y, hy⟩ : ∃ y, G (2 * i) = y := ⟨_, rfl⟩
          rw [hx] at c1
          rw [hy] at c0
          by_cases hle : 47 ≤ x
          · have HE : Hid (HasSl G (2 * m) ↔ y ≤ 47) := by
              have := HasSl.at HW.out (i := i) (by omega) hAi.out (by rw [hx]; exact hle)
              rw [hy] at this; exact this
            have hd2 : decide (47 ≤ x) = true := decide_eq_true hle
            clear hx hy
            go_wp2
            go_ret
            exact aend_dec HE.out
          · have HA : Hid (∀ k, k < i + 1 → G (2 * k + 1) < 47) := HW.out.low (by omega) (by rw [hx]; omega)
            have hd2 : decide (47 ≤ x) = false := decide_eq_false hle
            clear hx hy
            go_wp2
            go_round
            case rel => exact ⟨i + 1, by omega, by go_num, HA⟩
            case measure => simp [intOf]; omega
        · have hge : ¬ (i : Int) < hi := by omega
          have HN : Hid (¬ HasSl G (2 * m)) := HasSl.none (i := i) hAi.out (fun k hk => hB.out k (by omega))
          go_wp2
          go_ret
          exact aend_false HN.out

set_option maxHeartbeats 2000000 in
/-- The law's own look over a class, one range after the other. -/
theorem slash_any (a : Option Addr) (L cap : Nat) (G : Nat → Int) (w : World) (hR : Row w a L (nums .i32 G)) (hL : L ≤ 1048576) :
    Calls Try.prog 38 #[.slice a L cap] w fun e w' => AEnd (HasSl G L) w e w' := by
  go_enter Try.func38, Try.ntmps38
  go_wp2
  go_loop [3] (fun s3 => ∃ k : Nat, 2 * k ≤ L + 1 ∧ s3 = .int .i64 (2 * (k : Int)) ∧ Hid (∀ j, j < k → ¬ (G (2 * j) ≤ 47 ∧ 47 ≤ G (2 * j + 1)))) (fun s3 => L + 2 - (intOf s3).toNat)
  case atStart => exact ⟨0, by omega, rfl, fun j hj => by omega⟩
  case round =>
    obtain ⟨k, hk, rfl, hA⟩ := hrel
    by_cases hlt : 2 * k + 1 < L
    · have hlt' : 2 * (k : Int) + 1 < L := by omega
      have hlt2 : 2 * (k : Int) < L := by omega
      obtain ⟨b, off, rfl, R⟩ := hR.get (by omega)
      have c1 := R (2 * k + 1) (by omega)
      have c0 := R (2 * k) (by omega)
      rw [nums_at] at c1 c0
      obtain ⟨x, hx⟩ : ∃ x, G (2 * k + 1) = x := ⟨_, rfl⟩
      obtain ⟨y, hy⟩ : ∃ y, G (2 * k) = y := ⟨_, rfl⟩
      rw [hx] at c1
      rw [hy] at c0
      by_cases hy0 : y ≤ 47
      · have hd0 : decide (y ≤ 47) = true := decide_eq_true hy0
        by_cases hx0 : 47 ≤ x
        · have hd1 : decide (47 ≤ x) = true := decide_eq_true hx0
          have HV : Hid (HasSl G L) := ⟨k, hlt, by rw [hy]; exact hy0, by rw [hx]; exact hx0⟩
          clear hx hy
          go_wp2
          go_ret
          exact aend_true HV.out
        · have hd1 : decide (47 ≤ x) = false := decide_eq_false hx0
          have HA : Hid (∀ j, j < k + 1 → ¬ (G (2 * j) ≤ 47 ∧ 47 ≤ G (2 * j + 1))) := fun j hj => by
            by_cases e : j = k
            · subst e; rw [hx]; omega
            · exact hA.out j (by omega)
          clear hx hy
          go_wp2
          go_round
          case rel => exact ⟨k + 1, by omega, by go_num, HA⟩
          case measure => simp [intOf]; omega
      · have hd0 : decide (y ≤ 47) = false := decide_eq_false hy0
        have HA : Hid (∀ j, j < k + 1 → ¬ (G (2 * j) ≤ 47 ∧ 47 ≤ G (2 * j + 1))) := fun j hj => by
          by_cases e : j = k
          · subst e; rw [hy]; omega
          · exact hA.out j (by omega)
        clear hx hy
        go_wp2
        go_round
        case rel => exact ⟨k + 1, by omega, by go_num, HA⟩
        case measure => simp [intOf]; omega
    · have hge : ¬ 2 * (k : Int) + 1 < L := by omega
      have HN : Hid (¬ HasSl G L) := fun ⟨j, h1, h2, h3⟩ => hA.out j (by omega) ⟨h2, h3⟩
      go_wp2
      go_ret
      exact aend_false HN.out
end Go.Proofs.Qxb6000628a
