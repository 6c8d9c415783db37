/-
  The walks of isDigit and skipDigits.
-/
import Derived.Test.Qxb6000480aRows
import Derived.Test.Qxb6000480aPlain
import Derived.WalkKit
import Derived.Below
import Derived.LoopTactic
import Derived.WalkSpells
namespace Go.Proofs.Qxb6000480a
open Go.RowKit

theorem bt_lt (s : ByteArray) (k : Nat) (h : k < s.size) : bt s k = s[k].toNat := by simp [bt, h]
theorem bt_end (s : ByteArray) (k : Nat) (h : s.size ≤ k) : bt s k = 256 := by simp [bt]; omega
theorem bt_le (s : ByteArray) (k : Nat) (h : k < s.size) : bt s k < 256 := by rw [bt_lt s k h]; exact s[k].toNat_lt

theorem digit_yes (c : Int) (w : World) (h : 48 ≤ c ∧ c ≤ 57) :
    Calls Try.prog 30 #[.int .u8 c] w fun e w' => e = .returned (.bool true) ∧ w' = w := by
  have h1 : decide (48 ≤ c) = true := decide_eq_true h.1
  have h2 : decide (c ≤ 57) = true := decide_eq_true h.2
  go_enter Try.func30, Try.ntmps30
  go_wp2
  go_ret
  exact ⟨rfl, rfl⟩
theorem digit_no (c : Int) (w : World) (h : ¬ (48 ≤ c ∧ c ≤ 57)) :
    Calls Try.prog 30 #[.int .u8 c] w fun e w' => e = .returned (.bool false) ∧ w' = w := by
  by_cases h0 : 48 ≤ c
  · have h1 : decide (48 ≤ c) = true := decide_eq_true h0
    have h2 : decide (c ≤ 57) = false := decide_eq_false (by omega)
    clear h
    go_enter Try.func30, Try.ntmps30
    go_wp2
    go_ret
    exact ⟨rfl, rfl⟩
  · have h1 : decide (48 ≤ c) = false := decide_eq_false h0
    clear h
    go_enter Try.func30, Try.ntmps30
    go_wp2
    go_ret
    exact ⟨rfl, rfl⟩

/-- The end of skipDigits. -/
def SEnd (s : ByteArray) (i : Nat) (w : World) (e : Ending) (w' : World) : Prop := ∃ j : Nat, e = .returned (.int .i64 j) ∧ Skp (bt s) i j ∧ j ≤ s.size ∧ w' = w

set_option maxHeartbeats 400000 in
theorem skip_any (s : ByteArray) (i : Nat) (w : World) (hs : s.size ≤ 1048577) (hi : i ≤ s.size) :
    Calls Try.prog 31 #[.string s, .int .i64 i] w fun e w' => SEnd s i w e w' := by
  go_enter Try.func31, Try.ntmps31
  go_wp2
  go_loop [1] (fun t => ∃ j : Nat, i ≤ j ∧ j ≤ s.size ∧ t = .int .i64 j ∧ Hid (∀ k, i ≤ k → k < j → isD (bt s k))) (fun t => s.size - (intOf t).toNat)
  case atStart => exact ⟨i, Nat.le_refl _, hi, rfl, fun k h1 h2 => by omega⟩
  case round =>
    obtain ⟨j, h1, h2, rfl, hA⟩ := hrel
    by_cases hlt : j < s.size
    · have hlt' : (j : Int) < s.size := by omega
      have hb := bt_lt s j hlt
      have HB : Hid (bt s j = s[j].toNat) := hb
      clear hb
      by_cases hd : isD (bt s j)
      · have hd' := hd
        unfold isD at hd'
        rw [HB.out] at hd'
        have HA : Hid (∀ k, i ≤ k → k < j + 1 → isD (bt s k)) := fun k k1 k2 => by
          by_cases e : k = j
          · subst e; exact hd
          · exact hA.out k k1 (by omega)
        clear hd hA
        go_wp2_with fail
        refine (digit_yes _ w (by omega)).mono ?_
        rintro e w' ⟨rfl, rfl⟩
        clear hd'
        go_wp2
        go_round
        case rel => exact ⟨j + 1, by omega, by omega, by go_num, HA⟩
        case measure => simp [intOf]; omega
      · have hd' := hd
        unfold isD at hd'
        rw [HB.out] at hd'
        have HS : Hid (Skp (bt s) i j) := ⟨h1, hA.out, hd⟩
        clear hd hA
        go_wp2_with fail
        refine (digit_no _ w (by omega)).mono ?_
        rintro e w' ⟨rfl, rfl⟩
        clear hd'
        go_wp2
        go_ret
        exact ⟨j, rfl, HS.out, h2, rfl⟩
    · have hge : decide (j < s.size) = false := decide_eq_false hlt
      have HS : Hid (Skp (bt s) i j) := ⟨h1, hA.out, by rw [bt_end s j (by omega)]; unfold isD; omega⟩
      clear hA
      go_wp2
      go_ret
      exact ⟨j, rfl, HS.out, h2, rfl⟩
end Go.Proofs.Qxb6000480a
