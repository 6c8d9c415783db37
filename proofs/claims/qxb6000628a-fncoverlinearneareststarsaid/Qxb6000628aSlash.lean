/-
  The walk of (*globProgram).matchesSlash.
-/
import Derived.Test.Qxb6000628aSets
import Derived.RegionTactic
namespace Go.Proofs.Qxb6000628a
open Go.RowKit

theorem holds_is (a : Option Addr) (L cap : Nat) (G : Nat → Int) (w : World) (hR : Row w a L (nums .i32 G)) (hL : L ≤ 1048576) (hW : WF G L) (bb : Bool) (hb : bb = true ↔ HasSl G L) :
    Calls Try.prog 57 #[.slice a L cap, .int .i32 47] w fun e w' => e = .returned (.bool bb) ∧ w' = w := by
  refine (holds_any a L cap G w hR hL hW).mono ?_
  rintro e w' ⟨b2, rfl, h, rfl⟩
  have : b2 = bb := by rw [Bool.eq_iff_iff, h, hb]
  subst this
  exact ⟨rfl, rfl⟩

set_option maxHeartbeats 2000000 in
set_option maxRecDepth 1000000 in
/-- An instruction of a class. -/
theorem slash_class (gb ib io cb m r : Nat) (a : Option Addr) (L cap : Nat) (G : Nat → Int) (w : World) (bb : Bool)
    (g1 : w.cell? ⟨gb, 1, none⟩ = some (.slice (some ⟨cb, 0, none⟩) m m))
    (i0 : w.cell? ⟨ib, io, none⟩ = some (.int .u8 1)) (i1 : w.cell? ⟨ib, io + 1, none⟩ = some (.int .i32 r)) (hr : (r : Int) < m)
    (hc : w.cell? ⟨cb, r, none⟩ = some (.slice a L cap)) (hR : Row w a L (nums .i32 G)) (hL : L ≤ 1048576) (hW : WF G L) (hb : bb = true ↔ HasSl G L) :
    Calls Try.prog 54 #[.pointer (some ⟨gb, 0, none⟩), .pointer (some ⟨ib, io, none⟩)] w fun e w' => e = .returned (.bool bb) ∧ ∃ q, w' = w.drewN q := by
  have HW : Hid (WF G L) := hW
  have HB : Hid (bb = true ↔ HasSl G L) := hb
  clear hW hb
  have hr0 : (0 : Int) ≤ r := by omega
  go_enter Try.func54, Try.ntmps54
  go_wp2
  go_quiet ((go_at_call 57; exact Calls.quiet_of_same (holds_is a L cap G _ (hR.drewN _) hL HW.out bb HB.out)))
  go_wp2
  go_ret
  exact ⟨rfl, by repeat (first | exact dw_refl _ | refine dw_drewN ?_ _)⟩

set_option maxHeartbeats 2000000 in
/-- A character. -/
theorem slash_char (gb ib io : Nat) (x : Int) (w : World)
    (i0 : w.cell? ⟨ib, io, none⟩ = some (.int .u8 0)) (i1 : w.cell? ⟨ib, io + 1, none⟩ = some (.int .i32 x)) :
    Calls Try.prog 54 #[.pointer (some ⟨gb, 0, none⟩), .pointer (some ⟨ib, io, none⟩)] w fun e w' => e = .returned (.bool (x == 47)) ∧ ∃ q, w' = w.drewN q := by
  go_enter Try.func54, Try.ntmps54
  go_wp2
  go_ret
  exact ⟨rfl, dw_refl _⟩

set_option maxHeartbeats 2000000 in
theorem slash_double (gb ib io : Nat) (w : World) (i0 : w.cell? ⟨ib, io, none⟩ = some (.int .u8 3)) :
    Calls Try.prog 54 #[.pointer (some ⟨gb, 0, none⟩), .pointer (some ⟨ib, io, none⟩)] w fun e w' => e = .returned (.bool true) ∧ ∃ q, w' = w.drewN q := by
  go_enter Try.func54, Try.ntmps54
  go_wp2
  go_ret
  exact ⟨rfl, dw_refl _⟩

set_option maxHeartbeats 2000000 in
theorem slash_none (gb ib io : Nat) (x : Int) (w : World) (i0 : w.cell? ⟨ib, io, none⟩ = some (.int .u8 x)) (h0 : x ≠ 0) (h1 : x ≠ 1) (h3 : x ≠ 3) :
    Calls Try.prog 54 #[.pointer (some ⟨gb, 0, none⟩), .pointer (some ⟨ib, io, none⟩)] w fun e w' => e = .returned (.bool false) ∧ ∃ q, w' = w.drewN q := by
  have b0 : (x == 0) = false := by rw [beq_eq_false_iff_ne]; exact h0
  have b1 : (x == 1) = false := by rw [beq_eq_false_iff_ne]; exact h1
  have b3 : (x == 3) = false := by rw [beq_eq_false_iff_ne]; exact h3
  clear h0 h1 h3
  go_enter Try.func54, Try.ntmps54
  go_wp2
  go_ret
  exact ⟨rfl, dw_refl _⟩

/-- What the law calls slashy. -/
structure SlOk (n m : Nat) (op arg : Nat → Int) (L : Nat → Nat) (G : Nat → Nat → Int) (sl : Nat → Bool) : Prop where
  char : ∀ i, i < n → op i = 0 → sl i = (arg i == 47)
  cls : ∀ i, i < n → op i = 1 → 0 ≤ arg i ∧ arg i < m ∧ (sl i = true ↔ HasSl (G (arg i).toNat) (L (arg i).toNat))
  rest : ∀ i, i < n → op i ≠ 0 → op i ≠ 1 → sl i = false

/-- Any instruction. -/
theorem slash_inst (gb ib io cb n m i : Nat) (op arg : Nat → Int) (A : Nat → Option Addr) (L C : Nat → Nat) (G : Nat → Nat → Int) (sl : Nat → Bool) (w : World)
    (g1 : w.cell? ⟨gb, 1, none⟩ = some (.slice (some ⟨cb, 0, none⟩) m m))
    (hi : i < n) (i0 : w.cell? ⟨ib, io, none⟩ = some (.int .u8 (op i))) (i1 : w.cell? ⟨ib, io + 1, none⟩ = some (.int .i32 (arg i)))
    (hC : Cls w (some ⟨cb, 0, none⟩) m A L C G) (hL : ∀ r, r < m → L r ≤ 1048576) (hW : ∀ r, r < m → WF (G r) (L r)) (hS : SlOk n m op arg L G sl) :
    Calls Try.prog 54 #[.pointer (some ⟨gb, 0, none⟩), .pointer (some ⟨ib, io, none⟩)] w fun e w' => ∃ bb, e = .returned (.bool bb) ∧ (op i = 0 ∨ op i = 1 → bb = sl i) ∧ ∃ q, w' = w.drewN q := by
  by_cases h0 : op i = 0
  · rw [h0] at i0
    refine (slash_char gb ib io (arg i) w i0 i1).mono ?_
    rintro e w' ⟨rfl, h⟩
    exact ⟨_, rfl, fun _ => (hS.char i hi h0).symm, h⟩
  by_cases h1 : op i = 1
  · rw [h1] at i0
    obtain ⟨k0, k1, k2⟩ := hS.cls i hi h1
    obtain ⟨r, hr⟩ := Int.eq_ofNat_of_zero_le k0
    rw [hr] at i1 k1
    rw [hr, Int.toNat_natCast] at k2
    have hrm : r < m := by omega
    obtain ⟨b, off, e, R⟩ := hC.outer.get (by omega)
    cases e
    have hc := R r hrm
    rw [Nat.zero_add, sls_at] at hc
    refine (slash_class gb ib io cb m r (A r) (L r) (C r) (G r) w (sl i) g1 i0 i1 k1 hc (hC.inner r hrm) (hL r hrm) (hW r hrm) k2).mono ?_
    rintro e w' ⟨rfl, h⟩
    exact ⟨_, rfl, fun _ => rfl, h⟩
  by_cases h3 : op i = 3
  · rw [h3] at i0
    refine (slash_double gb ib io w i0).mono ?_
    rintro e w' ⟨rfl, h⟩
    exact ⟨_, rfl, fun h => by omega, h⟩
  · refine (slash_none gb ib io (op i) w i0 h0 h1 h3).mono ?_
    rintro e w' ⟨rfl, h⟩
    exact ⟨_, rfl, fun h => by omega, h⟩
end Go.Proofs.Qxb6000628a
