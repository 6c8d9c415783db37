/-
  The walk of zzWellFormedClass.
-/
import Derived.Test.Qxb6000628aHolds
namespace Go.Proofs.Qxb6000628a
open Go.RowKit

/-- It answers; if yes, then V; at most draws have been made. -/
def DEnd (V : Prop) (w : World) (e : Ending) (w' : World) : Prop := ∃ bb, e = .returned (.bool bb) ∧ (bb = true → V) ∧ ∃ q, w' = w.drewN q
theorem dw_refl (w : World) : ∃ q, w = w.drewN q := ⟨0, rfl⟩
theorem dw_drewN {w w' : World} (h : ∃ q, w' = w.drewN q) (n : Nat) : ∃ q, w'.drewN n = w.drewN q := by
  obtain ⟨q, rfl⟩ := h
  exact ⟨q + n, by rw [World.drewN_drewN]⟩
theorem dend_false {V : Prop} {w w' : World} (h : ∃ q, w' = w.drewN q) : DEnd V w (.returned (.bool false)) w' := ⟨false, rfl, fun e => (by cases e), h⟩
theorem dend_true {V : Prop} {w w' : World} (h : ∃ q, w' = w.drewN q) (v : V) : DEnd V w (.returned (.bool true)) w' := ⟨true, rfl, fun _ => v, h⟩

set_option maxHeartbeats 2000000 in
set_option maxRecDepth 1000000 in
theorem well_any (a : Option Addr) (L cap : Nat) (G : Nat → Int) (w : World) (hR : Row w a L (nums .i32 G)) (hL : L ≤ 1048576) (hG : ∀ j, j < L → -2147483648 ≤ G j ∧ G j ≤ 2147483647) :
    Calls Try.prog 50 #[.slice a L cap] w fun e w' => DEnd (WF G L) w e w' := by
  have HG : Hid (∀ j, j < L → -2147483648 ≤ G j ∧ G j ≤ 2147483647) := hG
  clear hG
  by_cases hev : L % 2 = 0
  case neg =>
    have hd : ((L : Int) % 2 != 0) = true := by rw [bne_iff_ne]; omega
    go_enter Try.func50, Try.ntmps50
    go_wp2
    go_ret
    exact dend_false (dw_refl _)
  obtain ⟨m, rfl⟩ : ∃ m, L = 2 * m := ⟨L / 2, by omega⟩
  have hd : (2 * (m : Int) % 2 != 0) = false := by rw [bne_eq_false_iff_eq]; omega
  go_enter Try.func50, Try.ntmps50
  go_wp2
  go_loopw [3] (fun s3 wr => ∃ k q : Nat, k ≤ m ∧ s3 = .int .i64 (2 * (k : Int)) ∧ wr = w.drewN q ∧ Hid (∀ j, j < k → G (2 * j) ≤ G (2 * j + 1)) ∧ Hid (∀ j, j < k → 2 * j + 2 < 2 * m → 2 ≤ G (2 * j + 2) - G (2 * j + 1))) (fun s3 _ => 2 * m + 2 - (intOf s3).toNat)
  case atStart => exact ⟨0, 0, by omega, rfl, rfl, fun j hj => by omega, fun j hj => by omega⟩
  case round =>
    obtain ⟨k, q, hk, rfl, rfl, hA, hB⟩ := hrel
    clear hd
    by_cases hlt : k < m
    · have hlt' : 2 * (k : Int) + 1 < 2 * m := by omega
      have hlt2 : 2 * (k : Int) < 2 * m := by omega
      obtain ⟨b, off, rfl, R⟩ := hR.get (by omega)
      have c1 := R (2 * k + 1) (by omega)
      have c0 := R (2 * k) (by omega)
      rw [nums_at] at c1 c0
      have g1 := HG.out (2 * k + 1) (by omega)
      obtain ⟨x, hx⟩ : ∃ x, G (2 * k + 1) = x := ⟨_, rfl⟩
      obtain ⟨y, hy⟩ : ∃ y, G (2 * k) = y := ⟨_, rfl⟩
      rw [hx] at c1 g1
      rw [hy] at c0
      have n1 : (2 * (k : Int) + 1).toNat = 2 * k + 1 := by omega
      have n0 : (2 * (k : Int)).toNat = 2 * k := by omega
      by_cases hxy : x < y
      · have hd1 : decide (x < y) = true := decide_eq_true hxy
        go_wp2_with fail
        go_quiet (fail)
        go_wp2
        go_ret
        exact dend_false (by repeat (first | exact dw_refl _ | refine dw_drewN ?_ _))
      · have hd1 : decide (x < y) = false := decide_eq_false hxy
        have HA : Hid (∀ j, j < k + 1 → G (2 * j) ≤ G (2 * j + 1)) := fun j hj => by
          by_cases e : j = k
          · subst e; omega
          · exact hA.out j (by omega)
        by_cases h2 : 2 * k + 2 < 2 * m
        · have h2' : 2 * (k : Int) + 2 < 2 * m := by omega
          have n2 : (2 * (k : Int) + 2).toNat = 2 * k + 2 := by omega
          have p2 : (0 : Int) ≤ 2 * (k : Int) + 2 := by omega
          have p1 : (0 : Int) ≤ 2 * (k : Int) + 1 := by omega
          have c2 := R (2 * k + 2) (by omega)
          rw [nums_at] at c2
          have g2 := HG.out (2 * k + 2) (by omega)
          obtain ⟨z, hz⟩ : ∃ z, G (2 * k + 2) = z := ⟨_, rfl⟩
          rw [hz] at c2 g2
          obtain ⟨g1a, g1b⟩ := g1
          obtain ⟨g2a, g2b⟩ := g2
          by_cases hgap : z - x < 2
          · have hd2 : decide (z - x < 2) = true := decide_eq_true hgap
            clear hx hy hz
            go_wp2_with fail
            go_quiet (fail)
            go_wp2_with fail
            go_quiet (fail)
            go_wp2
            go_ret
            exact dend_false (by repeat (first | exact dw_refl _ | refine dw_drewN ?_ _))
          · have hd2 : decide (z - x < 2) = false := decide_eq_false hgap
            have HB : Hid (∀ j, j < k + 1 → 2 * j + 2 < 2 * m → 2 ≤ G (2 * j + 2) - G (2 * j + 1)) := fun j hj => by
              by_cases e : j = k
              · subst e; intro _; omega
              · exact hB.out j (by omega)
            clear hx hy hz
            go_wp2_with fail
            go_quiet (fail)
            go_wp2_with fail
            go_quiet (fail)
            go_wp2
            go_roundw
            case rel => exact ⟨k + 1, _, by omega, by go_num, rfl, HA, HB⟩
            case measure => simp [intOf]; omega
        · have h2' : decide (2 * (k : Int) + 2 < 2 * m) = false := decide_eq_false (by omega)
          have HB : Hid (∀ j, j < k + 1 → 2 * j + 2 < 2 * m → 2 ≤ G (2 * j + 2) - G (2 * j + 1)) := fun j hj => by
            by_cases e : j = k
            · subst e; intro _; omega
            · exact hB.out j (by omega)
          clear hx hy
          go_wp2_with fail
          go_quiet (fail)
          go_wp2_with fail
          go_quiet (fail)
          go_wp2
          go_roundw
          case rel => exact ⟨k + 1, _, by omega, by go_num, rfl, HA, HB⟩
          case measure => simp [intOf]; omega
    · have hge : ¬ 2 * (k : Int) + 1 < 2 * m := by omega
      have HN : Hid (WF G (2 * m)) := ⟨by omega, fun j hj => hA.out j (by omega), fun j hj => hB.out j (by omega) hj⟩
      go_wp2
      go_ret
      exact dend_true (by repeat (first | exact dw_refl _ | refine dw_drewN ?_ _)) HN.out
end Go.Proofs.Qxb6000628a
