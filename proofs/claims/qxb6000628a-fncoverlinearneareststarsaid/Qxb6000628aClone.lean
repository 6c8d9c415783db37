/-
  The walks of the clones of plain rows.
-/
import Derived.Test.Qxb6000628aBase
namespace Go.Proofs.Qxb6000628a
open Go.RowKit

set_option maxHeartbeats 1000000 in
theorem clone23_at (x : Addr) (n cap : Nat) (V : Nat → Value) (G : Nat → Int) (w : World) (hV : V = nums .u8 G) (hR : 0 < n → ∃ b off, x = ⟨b, off, none⟩ ∧ Reads w b off n V ∧ b < w.heap.size) (hn : n ≤ 1048576) :
    Calls Try.prog 23 #[.slice (some x) n cap] w fun e w' => e = .returned (.slice (some ⟨w.heap.size, 0, none⟩) n n) ∧
      Own w' w.heap.size n V ∧ Below w.heap.size w w' ∧ w'.heap.size = w.heap.size + 1 := by
  have HV : Hid (V = nums .u8 G) := hV
  clear hV
  have hnil : ∀ W, (binOp .eql 41 (.slice (some x) n cap) (.slice none 0 0)).run Try.prog W = .ok (.bool false) W := fun W => Lib.run_eql_slice_nil W _ _ (some x) n cap 0 0 Try.underlying41
  have hmk := make41 n (by omega)
  go_enter Try.func23, Try.ntmps23
  go_wp2
  clear hnil hmk
  go_loopw [4] (fun sk wr => ∃ k : Nat, k ≤ n ∧ sk = .int .i64 k ∧ Own wr w.heap.size n (fun j => if j < k then V j else .int .u8 0) ∧ Below w.heap.size w wr ∧ wr.heap.size = w.heap.size + 1) (fun sk _ => n - (intOf sk).toNat)
  case atStart => exact ⟨0, Nat.zero_le _, rfl, (made_own w (.int .u8 0) 5 n).congr (by simp), below_alloc w _, by simp⟩
  case round =>
    obtain ⟨k, hk, rfl, hO, hB, hs⟩ := hrel
    rename World => wr
    by_cases hlt : k < n
    · obtain ⟨b, off, rfl, R, hb⟩ := hR (by omega)
      obtain ⟨v, hv⟩ : ∃ v, G k = v := ⟨_, rfl⟩
      have hc : wr.cell? ⟨b, off + k, none⟩ = some (.int .u8 v) := by
        rw [hB.cell (p := ⟨b, off + k, none⟩) hb, R k hlt, HV.out, nums_at, hv]
      obtain ⟨co0, fo⟩ := hO k hlt
      have co : wr.cell? ⟨w.heap.size, k, none⟩ = some (.int .u8 0) := by rw [co0]; simp
      have hlt' : (k : Int) < n := by omega
      have HK : Hid (V k = .int .u8 v) := by show V k = _; rw [HV.out, nums_at, hv]
      clear hv co0
      go_wp2
      go_roundw
      case rel =>
        refine ⟨k + 1, by omega, by go_num, (hO.set hlt _).congr ?_, hB.setCell (Nat.le_refl _) _, by simp [hs]⟩
        intro j hj
        by_cases e : j = k
        · subst e; rw [upd_same, if_pos (by omega)]; exact HK.out.symm
        · rw [upd_other _ _ _ _ e]
          by_cases e2 : j < k
          · rw [if_pos e2, if_pos (by omega)]
          · rw [if_neg e2, if_neg (by omega)]
      case measure => simp [intOf]; omega
    · have hge : ¬ (k : Int) < n := by omega
      go_wp2
      go_ret
      exact ⟨rfl, hO.congr (fun j hj => by rw [if_pos (by omega)]), hB, hs⟩

theorem clone23_nil (w : World) : Calls Try.prog 23 #[.slice none 0 0] w fun e w' => e = .returned (.slice none 0 0) ∧ w' = w := by
  have hnil : ∀ W, (binOp .eql 41 (.slice none 0 0) (.slice none 0 0)).run Try.prog W = .ok (.bool true) W := fun W => Lib.run_eql_slice_nil W _ _ none 0 0 0 0 Try.underlying41
  go_enter Try.func23, Try.ntmps23
  go_wp2
  go_ret
  exact ⟨rfl, rfl⟩

/-- The clone of any slice. -/
theorem clone23_any (a : Option Addr) (n cap : Nat) (G : Nat → Int) (w : World) (hR : Row w a n (nums .u8 G)) (hnil : a = none → n = 0 ∧ cap = 0) (hn : n ≤ 1048576) :
    Calls Try.prog 23 #[.slice a n cap] w fun e w' => ∃ a' c', e = .returned (.slice a' n c') ∧ n ≤ c' ∧ (a' = none → n = 0 ∧ c' = 0) ∧ Below w.heap.size w w' ∧ Mine w' w.heap.size w'.heap.size a' n (nums .u8 G) := by
  cases a with
  | none =>
    obtain ⟨rfl, rfl⟩ := hnil rfl
    refine (clone23_nil w).mono ?_
    rintro e w' ⟨rfl, rfl⟩
    exact ⟨none, 0, rfl, Nat.le_refl _, fun _ => ⟨rfl, rfl⟩, Below.refl _ _, Or.inl rfl⟩
  | some x =>
    refine (clone23_at x n cap (nums .u8 G) G w rfl ?_ hn).mono ?_
    · intro h0
      obtain ⟨b, off, e, h⟩ := hR.get h0
      exact ⟨b, off, by cases e; rfl, h, h.lt h0⟩
    · rintro e w' ⟨rfl, h1, h2, h3⟩
      exact ⟨_, n, rfl, Nat.le_refl _, fun e => (by cases e), h2, Or.inr ⟨_, rfl, Nat.le_refl _, by omega, h1⟩⟩

set_option maxHeartbeats 1000000 in
theorem clone35_at (x : Addr) (n cap : Nat) (V : Nat → Value) (G : Nat → Int) (w : World) (hV : V = nums .i32 G) (hR : 0 < n → ∃ b off, x = ⟨b, off, none⟩ ∧ Reads w b off n V ∧ b < w.heap.size) (hn : n ≤ 1048576) :
    Calls Try.prog 35 #[.slice (some x) n cap] w fun e w' => e = .returned (.slice (some ⟨w.heap.size, 0, none⟩) n n) ∧
      Own w' w.heap.size n V ∧ Below w.heap.size w w' ∧ w'.heap.size = w.heap.size + 1 := by
  have HV : Hid (V = nums .i32 G) := hV
  clear hV
  have hnil : ∀ W, (binOp .eql 54 (.slice (some x) n cap) (.slice none 0 0)).run Try.prog W = .ok (.bool false) W := fun W => Lib.run_eql_slice_nil W _ _ (some x) n cap 0 0 Try.underlying54
  have hmk := make54 n (by omega)
  go_enter Try.func35, Try.ntmps35
  go_wp2
  clear hnil hmk
  go_loopw [4] (fun sk wr => ∃ k : Nat, k ≤ n ∧ sk = .int .i64 k ∧ Own wr w.heap.size n (fun j => if j < k then V j else .int .i32 0) ∧ Below w.heap.size w wr ∧ wr.heap.size = w.heap.size + 1) (fun sk _ => n - (intOf sk).toNat)
  case atStart => exact ⟨0, Nat.zero_le _, rfl, (made_own w (.int .i32 0) 21 n).congr (by simp), below_alloc w _, by simp⟩
  case round =>
    obtain ⟨k, hk, rfl, hO, hB, hs⟩ := hrel
    rename World => wr
    by_cases hlt : k < n
    · obtain ⟨b, off, rfl, R, hb⟩ := hR (by omega)
      obtain ⟨v, hv⟩ : ∃ v, G k = v := ⟨_, rfl⟩
      have hc : wr.cell? ⟨b, off + k, none⟩ = some (.int .i32 v) := by
        rw [hB.cell (p := ⟨b, off + k, none⟩) hb, R k hlt, HV.out, nums_at, hv]
      obtain ⟨co0, fo⟩ := hO k hlt
      have co : wr.cell? ⟨w.heap.size, k, none⟩ = some (.int .i32 0) := by rw [co0]; simp
      have hlt' : (k : Int) < n := by omega
      have HK : Hid (V k = .int .i32 v) := by show V k = _; rw [HV.out, nums_at, hv]
      clear hv co0
      go_wp2
      go_roundw
      case rel =>
        refine ⟨k + 1, by omega, by go_num, (hO.set hlt _).congr ?_, hB.setCell (Nat.le_refl _) _, by simp [hs]⟩
        intro j hj
        by_cases e : j = k
        · subst e; rw [upd_same, if_pos (by omega)]; exact HK.out.symm
        · rw [upd_other _ _ _ _ e]
          by_cases e2 : j < k
          · rw [if_pos e2, if_pos (by omega)]
          · rw [if_neg e2, if_neg (by omega)]
      case measure => simp [intOf]; omega
    · have hge : ¬ (k : Int) < n := by omega
      go_wp2
      go_ret
      exact ⟨rfl, hO.congr (fun j hj => by rw [if_pos (by omega)]), hB, hs⟩

theorem clone35_nil (w : World) : Calls Try.prog 35 #[.slice none 0 0] w fun e w' => e = .returned (.slice none 0 0) ∧ w' = w := by
  have hnil : ∀ W, (binOp .eql 54 (.slice none 0 0) (.slice none 0 0)).run Try.prog W = .ok (.bool true) W := fun W => Lib.run_eql_slice_nil W _ _ none 0 0 0 0 Try.underlying54
  go_enter Try.func35, Try.ntmps35
  go_wp2
  go_ret
  exact ⟨rfl, rfl⟩

/-- The clone of any slice. -/
theorem clone35_any (a : Option Addr) (n cap : Nat) (G : Nat → Int) (w : World) (hR : Row w a n (nums .i32 G)) (hnil : a = none → n = 0 ∧ cap = 0) (hn : n ≤ 1048576) :
    Calls Try.prog 35 #[.slice a n cap] w fun e w' => ∃ a' c', e = .returned (.slice a' n c') ∧ n ≤ c' ∧ (a' = none → n = 0 ∧ c' = 0) ∧ Below w.heap.size w w' ∧ Mine w' w.heap.size w'.heap.size a' n (nums .i32 G) := by
  cases a with
  | none =>
    obtain ⟨rfl, rfl⟩ := hnil rfl
    refine (clone35_nil w).mono ?_
    rintro e w' ⟨rfl, rfl⟩
    exact ⟨none, 0, rfl, Nat.le_refl _, fun _ => ⟨rfl, rfl⟩, Below.refl _ _, Or.inl rfl⟩
  | some x =>
    refine (clone35_at x n cap (nums .i32 G) G w rfl ?_ hn).mono ?_
    · intro h0
      obtain ⟨b, off, e, h⟩ := hR.get h0
      exact ⟨b, off, by cases e; rfl, h, h.lt h0⟩
    · rintro e w' ⟨rfl, h1, h2, h3⟩
      exact ⟨_, n, rfl, Nat.le_refl _, fun e => (by cases e), h2, Or.inr ⟨_, rfl, Nat.le_refl _, by omega, h1⟩⟩

set_option maxHeartbeats 1000000 in
theorem clone51_at (x : Addr) (n cap : Nat) (V : Nat → Value) (G : Nat → Int) (w : World) (hV : V = nums .i32 G) (hR : 0 < n → ∃ b off, x = ⟨b, off, none⟩ ∧ Reads w b off n V ∧ b < w.heap.size) (hn : n ≤ 1048576) :
    Calls Try.prog 51 #[.slice (some x) n cap] w fun e w' => e = .returned (.slice (some ⟨w.heap.size, 0, none⟩) n n) ∧
      Own w' w.heap.size n V ∧ Below w.heap.size w w' ∧ w'.heap.size = w.heap.size + 1 := by
  have HV : Hid (V = nums .i32 G) := hV
  clear hV
  have hnil : ∀ W, (binOp .eql 54 (.slice (some x) n cap) (.slice none 0 0)).run Try.prog W = .ok (.bool false) W := fun W => Lib.run_eql_slice_nil W _ _ (some x) n cap 0 0 Try.underlying54
  have hmk := make54 n (by omega)
  go_enter Try.func51, Try.ntmps51
  go_wp2
  clear hnil hmk
  go_loopw [4] (fun sk wr => ∃ k : Nat, k ≤ n ∧ sk = .int .i64 k ∧ Own wr w.heap.size n (fun j => if j < k then V j else .int .i32 0) ∧ Below w.heap.size w wr ∧ wr.heap.size = w.heap.size + 1) (fun sk _ => n - (intOf sk).toNat)
  case atStart => exact ⟨0, Nat.zero_le _, rfl, (made_own w (.int .i32 0) 21 n).congr (by simp), below_alloc w _, by simp⟩
  case round =>
    obtain ⟨k, hk, rfl, hO, hB, hs⟩ := hrel
    rename World => wr
    by_cases hlt : k < n
    · obtain ⟨b, off, rfl, R, hb⟩ := hR (by omega)
      obtain ⟨v, hv⟩ : ∃ v, G k = v := ⟨_, rfl⟩
      have hc : wr.cell? ⟨b, off + k, none⟩ = some (.int .i32 v) := by
        rw [hB.cell (p := ⟨b, off + k, none⟩) hb, R k hlt, HV.out, nums_at, hv]
      obtain ⟨co0, fo⟩ := hO k hlt
      have co : wr.cell? ⟨w.heap.size, k, none⟩ = some (.int .i32 0) := by rw [co0]; simp
      have hlt' : (k : Int) < n := by omega
      have HK : Hid (V k = .int .i32 v) := by show V k = _; rw [HV.out, nums_at, hv]
      clear hv co0
      go_wp2
      go_roundw
      case rel =>
        refine ⟨k + 1, by omega, by go_num, (hO.set hlt _).congr ?_, hB.setCell (Nat.le_refl _) _, by simp [hs]⟩
        intro j hj
        by_cases e : j = k
        · subst e; rw [upd_same, if_pos (by omega)]; exact HK.out.symm
        · rw [upd_other _ _ _ _ e]
          by_cases e2 : j < k
          · rw [if_pos e2, if_pos (by omega)]
          · rw [if_neg e2, if_neg (by omega)]
      case measure => simp [intOf]; omega
    · have hge : ¬ (k : Int) < n := by omega
      go_wp2
      go_ret
      exact ⟨rfl, hO.congr (fun j hj => by rw [if_pos (by omega)]), hB, hs⟩

theorem clone51_nil (w : World) : Calls Try.prog 51 #[.slice none 0 0] w fun e w' => e = .returned (.slice none 0 0) ∧ w' = w := by
  have hnil : ∀ W, (binOp .eql 54 (.slice none 0 0) (.slice none 0 0)).run Try.prog W = .ok (.bool true) W := fun W => Lib.run_eql_slice_nil W _ _ none 0 0 0 0 Try.underlying54
  go_enter Try.func51, Try.ntmps51
  go_wp2
  go_ret
  exact ⟨rfl, rfl⟩

/-- The clone of any slice. -/
theorem clone51_any (a : Option Addr) (n cap : Nat) (G : Nat → Int) (w : World) (hR : Row w a n (nums .i32 G)) (hnil : a = none → n = 0 ∧ cap = 0) (hn : n ≤ 1048576) :
    Calls Try.prog 51 #[.slice a n cap] w fun e w' => ∃ a' c', e = .returned (.slice a' n c') ∧ n ≤ c' ∧ (a' = none → n = 0 ∧ c' = 0) ∧ Below w.heap.size w w' ∧ Mine w' w.heap.size w'.heap.size a' n (nums .i32 G) := by
  cases a with
  | none =>
    obtain ⟨rfl, rfl⟩ := hnil rfl
    refine (clone51_nil w).mono ?_
    rintro e w' ⟨rfl, rfl⟩
    exact ⟨none, 0, rfl, Nat.le_refl _, fun _ => ⟨rfl, rfl⟩, Below.refl _ _, Or.inl rfl⟩
  | some x =>
    refine (clone51_at x n cap (nums .i32 G) G w rfl ?_ hn).mono ?_
    · intro h0
      obtain ⟨b, off, e, h⟩ := hR.get h0
      exact ⟨b, off, by cases e; rfl, h, h.lt h0⟩
    · rintro e w' ⟨rfl, h1, h2, h3⟩
      exact ⟨_, n, rfl, Nat.le_refl _, fun e => (by cases e), h2, Or.inr ⟨_, rfl, Nat.le_refl _, by omega, h1⟩⟩

end Go.Proofs.Qxb6000628a
