/-
  The walk of FnStep1ShortensAndChangesAtMostTheLastLetter.
-/
import Derived.Test.Qxb6000751aZz
namespace Go.Proofs.Qxb6000751a
open Go.RowKit

/-- The end of a law: it answers yes, and nothing old has turned. -/
def LEnd (w : World) (e : Ending) (w' : World) : Prop := e = .returned (.bool true) ∧ Below w.heap.size w w'
theorem lend {w w' : World} (hb : Below w.heap.size w w') : LEnd w (.returned (.bool true)) w' := ⟨rfl, hb⟩
theorem Row.short {w : World} {a : Option Addr} {n m : Nat} {V : Nat → Value} (h : Row w a n V) (hm : m ≤ n) : Row w a m V := by
  rcases h with h | ⟨b, off, e, h⟩
  · exact Or.inl (by omega)
  · exact Or.inr ⟨b, off, e, fun j hj => h j (by omega)⟩

set_option maxHeartbeats 4000000 in
set_option maxRecDepth 1000000 in
theorem lawS (a : Option Addr) (n c : Nat) (G : Nat → Int) (w : World) (h0 : n ≤ maxLen) (r : Row w a n (nums .u8 G)) (hG : ∀ j, j < n → 0 ≤ G j ∧ G j ≤ 255) (k0 : a = none → n = 0 ∧ c = 0) :
    Calls Try.prog 6 #[.slice a n c] w fun e w' => LEnd w e w' := by
  have HG : Hid (∀ j, j < n → 0 ≤ G j ∧ G j ≤ 255) := hG
  have K0 : Hid (a = none → n = 0 ∧ c = 0) := k0
  clear hG k0
  go_enter Try.func6, Try.ntmps6
  go_wp2_with fail
  refine (bytes_any a n c w h0).mono ?_
  rintro e w' ⟨bb, rfl, hS, rfl⟩
  rename World => w
  clear hS h0
  cases bb with
  | false =>
    go_wp2
    go_ret
    exact lend (Below.refl _ _)
  | true =>
  by_cases b0 : n ≤ 4096
  case neg =>
    have d0 : decide ((4096 : Int) < n) = true := decide_eq_true (by omega)
    go_wp2
    go_ret
    exact lend (Below.refl _ _)
  have d0 : decide ((4096 : Int) < n) = false := decide_eq_false (by omega)
  go_wp2_with fail
  refine (clone_any a n c G w r K0.out b0).mono ?_
  rintro e w1 ⟨A0, rfl, N0, hB1, M0⟩
  have z1 := hB1.size
  clear r K0
  have N0 : Hid (A0 = none → n = 0 ∧ n = 0) := fun e => ⟨N0 e, N0 e⟩
  have R0 := M0.row
  go_wp2_with fail
  refine (clone_any A0 n n G w1 R0 N0.out b0).mono ?_
  rintro e w2 ⟨A1, rfl, N1, hB2, M1⟩
  have z2 := hB2.size
  clear N0 N1 R0
  have HB2 := hB1.trans (hB2.mono z1)
  clear hB1
  by_cases hz : n = 0
  · subst hz
    go_wp2_with fail
    refine (zz_empty w.heap.size G A1 w2 (by omega)).mono ?_
    rintro e w3 ⟨a', l, V, rfl, hl, _, _, _, hB3⟩
    have hl0 : l = 0 := by omega
    subst hl0
    go_wp2
    go_ret
    exact lend (HB2.trans hB3)
  · obtain ⟨b1, rfl, g1, _, O1⟩ := M1.get (by omega)
    obtain ⟨b2, rfl, _, g2, O0⟩ := M0.get (by omega)
    have O0 := O0.below hB2 g2
    clear M1 M0 hB2
    go_wp2_with fail
    refine (zz_word w1.heap.size b1 n G w2 O1 (by omega) b0 HG.out g1).mono ?_
    rintro e w3 ⟨a', l, V, rfl, hl, hl0, hE, R1, hB3⟩
    have hl1 := hl0 (by omega)
    have HB3 := HB2.trans (hB3.mono z1)
    have R0 : Row w3 (some ⟨b2, 0, none⟩) n (nums .u8 G) := Or.inr ⟨b2, 0, rfl, (O0.below hB3 g2).reads⟩
    obtain ⟨k, rfl⟩ : ∃ k, l = k + 1 := ⟨l - 1, by omega⟩
    obtain ⟨b3, off, rfl, Q1⟩ := R1.get hl1
    have HE : Hid (∀ j, j < k → V j = G j) := fun j hj => hE j (by omega)
    have S0 : Row w3 (some ⟨b2, 0, none⟩) k (nums .u8 G) := R0.short (by omega)
    have S1 : Row w3 (some ⟨b3, off, none⟩) k (nums .u8 V) := Or.inr ⟨b3, off, rfl, fun j hj => Q1 j (by omega)⟩
    have hk : k ≤ 4096 := by omega
    clear hE hl0 O0 O1 R0 R1 Q1 HB2 hB3
    have d1 : decide ((n : Int) < k + 1) = false := decide_eq_false (by omega)
    have d2 : ((k : Int) + 1 == 0) = false := by rw [beq_eq_false_iff_ne]; omega
    have d3 : ((n : Int) == 0) = false := by rw [beq_eq_false_iff_ne]; omega
    have hkn : (k : Int) ≤ n := by omega
    go_wp2_with fail
    go_quiet ((go_at_call 20; exact Calls.quiet_of (same_yes _ _ k _ _ V G _ (S1.drewN _) (S0.drewN _) hk HE.out)))
    go_wp2
    go_ret
    exact lend (below_drewN HB3)
end Go.Proofs.Qxb6000751a
