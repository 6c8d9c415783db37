/-
  The walk of cloneIntsSessB1.
-/
import Derived.Test.Qxb6000793aBase
import Derived.LoopTactic
namespace Go.Proofs.Qxb6000793a
open Go.RowKit

/-- The first n numbers behind the address are G 0, G 1, ... -/
def Reads (w : World) (b off n : Nat) (G : Nat → Int) : Prop := ∀ j, j < n → w.cell? ⟨b, off + j, none⟩ = some (.int .i64 (G j))
theorem Reads.below {B : Nat} {w w' : World} {b off n : Nat} {G : Nat → Int} (h : Reads w b off n G) (hc : Below B w w') (hb : b < B) : Reads w' b off n G :=
  fun j hj => by rw [hc.cell (p := ⟨b, off + j, none⟩) hb]; exact h j hj
theorem Own.reads {w : World} {b n : Nat} {G : Nat → Int} (h : Own w b n G) : Reads w b 0 n G := fun j hj => by rw [Nat.zero_add]; exact (h j hj).1
theorem Reads.lt {w : World} {b off n : Nat} {G : Nat → Int} (h : Reads w b off n G) (hn : 0 < n) : b < w.heap.size := World.block_lt_of_cell? w ⟨b, off + 0, none⟩ (h 0 hn)

theorem clone_nil (w : World) : Calls Try.prog 15 #[.slice none 0 0] w fun e w' => e = .returned (.slice none 0 0) ∧ w' = w := by
  have hnil : ∀ W, (binOp .eql 26 (.slice none 0 0) (.slice none 0 0)).run Try.prog W = .ok (.bool true) W := fun W => Lib.run_eql_slice_nil W _ _ none 0 0 0 0 Try.underlying26
  go_enter Try.func15, Try.ntmps15
  go_wp2
  go_ret
  exact ⟨rfl, rfl⟩

set_option maxHeartbeats 1000000 in
theorem clone_some (b off n cap : Nat) (G : Nat → Int) (w : World) (hR : Reads w b off n G) (hn : n ≤ 1048576) (hb : 0 < n → b < w.heap.size) :
    Calls Try.prog 15 #[.slice (some ⟨b, off, none⟩) n cap] w fun e w' => e = .returned (.slice (some ⟨w.heap.size, 0, none⟩) n n) ∧
      Own w' w.heap.size n G ∧ Below w.heap.size w w' ∧ w'.heap.size = w.heap.size + 1 := by
  have hnil : ∀ W, (binOp .eql 26 (.slice (some ⟨b, off, none⟩) n cap) (.slice none 0 0)).run Try.prog W = .ok (.bool false) W := fun W => Lib.run_eql_slice_nil W _ _ (some ⟨b, off, none⟩) n cap 0 0 Try.underlying26
  have hmk := run_make_ints n hn
  go_enter Try.func15, Try.ntmps15
  go_wp2
  clear hnil hmk
  go_loopw [4] (fun sk wr => ∃ k : Nat, k ≤ n ∧ sk = .int .i64 k ∧ Own wr w.heap.size n (fun j => if j < k then G j else 0) ∧ Below w.heap.size w wr ∧ wr.heap.size = w.heap.size + 1) (fun sk _ => n - (intOf sk).toNat)
  case atStart => exact ⟨0, Nat.zero_le _, rfl, (own_made w n).congr (by simp), below_made w n, by simp⟩
  case round =>
    obtain ⟨k, hk, rfl, hO, hB, hs⟩ := hrel
    rename World => wr
    by_cases hlt : k < n
    · obtain ⟨v, hv⟩ : ∃ v, G k = v := ⟨_, rfl⟩
      have hc : wr.cell? ⟨b, off + k, none⟩ = some (.int .i64 v) := by
        rw [hB.cell (p := ⟨b, off + k, none⟩) (hb (by omega)), ← hv]; exact hR k hlt
      obtain ⟨co, fo⟩ := hO k hlt
      have co : wr.cell? ⟨w.heap.size, k, none⟩ = some (.int .i64 0) := by rw [co]; simp
      have hlt' : (k : Int) < n := by omega
      have HV : Hid (G k = v) := hv
      clear hv
      go_wp2
      go_roundw
      case rel =>
        refine ⟨k + 1, by omega, by go_num, (hO.set hlt v).congr ?_, hB.setCell (Nat.le_refl _) _, by simp [hs]⟩
        intro j hj
        by_cases e : j = k
        · subst e; rw [upd_same, if_pos (by omega)]; exact HV.out.symm
        · rw [upd_other _ _ _ _ e]
          by_cases e2 : j < k
          · rw [if_pos e2, if_pos (by omega)]
          · rw [if_neg e2, if_neg (by omega)]
      case measure => simp [intOf]; omega
    · have hge : ¬ (k : Int) < n := by omega
      go_wp2
      go_ret
      exact ⟨rfl, hO.congr (fun j hj => by rw [if_pos (by omega)]), hB, hs⟩

/-- The clone of a slice that is not nil: a row of the call's own. -/
theorem clone_new (b off n cap : Nat) (G : Nat → Int) (w : World) (hR : Reads w b off n G) (hn : n ≤ 1048576) (hb : 0 < n → b < w.heap.size) :
    Calls Try.prog 15 #[.slice (some ⟨b, off, none⟩) n cap] w fun e w' => ∃ b', e = .returned (.slice (some ⟨b', 0, none⟩) n n) ∧
      w.heap.size ≤ b' ∧ b' < w'.heap.size ∧ Own w' b' n G ∧ Below w.heap.size w w' := by
  refine (clone_some b off n cap G w hR hn hb).mono ?_
  rintro e w' ⟨rfl, h1, h2, h3⟩
  exact ⟨_, rfl, Nat.le_refl _, by omega, h1, h2⟩
end Go.Proofs.Qxb6000793a
