/-
  The walk of ZZStep1.
-/
import Derived.Test.Qxb6000751aStep1
import Derived.Test.Qxb6000751aEmpty
namespace Go.Proofs.Qxb6000751a
open Go.RowKit

/-- The end of ZZStep1 on a word of n0 letters O: the word it hands back is no longer, none where there was none, and all but its last letter are letters of O. -/
def ZEnd (n0 : Nat) (O : Nat → Int) (B : Nat) (w : World) (e : Ending) (w' : World) : Prop :=
  ∃ a l V, e = .returned (.slice a l n0) ∧ l ≤ n0 ∧ (0 < n0 → 0 < l) ∧ (∀ j, j + 1 < l → V j = O j) ∧ Row w' a l (nums .u8 V) ∧ Below B w w'

theorem zz_empty (B : Nat) (O : Nat → Int) (a : Option Addr) (w : World) (hB : B ≤ w.heap.size) :
    Calls Try.prog 19 #[.slice a 0 0] w fun e w' => ZEnd 0 O B w e w' := by
  go_enter Try.func19, Try.ntmps19
  go_wp2_with fail
  refine (step1_empty w.heap.size 0 a _ (by simp)).mono ?_
  rintro e w1 ⟨rfl, rfl⟩
  go_wp2
  go_ret
  exact ⟨a, 0, O, rfl, Nat.le_refl _, fun h => h, fun _ _ => rfl, Or.inl rfl, (Below.refl _ _).alloc hB _⟩

theorem zz_word (B bb n0 : Nat) (O : Nat → Int) (w : World) (h : Own w bb n0 (nums .u8 O)) (h0 : 0 < n0) (hn : n0 ≤ 4096) (hO : ∀ j, j < n0 → 0 ≤ O j ∧ O j ≤ 255) (b2 : B ≤ bb) :
    Calls Try.prog 19 #[.slice (some ⟨bb, 0, none⟩) n0 n0] w fun e w' => ZEnd n0 O B w e w' := by
  have hlt : bb < w.heap.size := World.block_lt_of_cell? w ⟨bb, 0, none⟩ (h 0 h0).1
  have HO : Hid (∀ j, j < n0 → 0 ≤ O j ∧ O j ≤ 255) := hO
  clear hO
  go_enter Try.func19, Try.ntmps19
  go_wp2_with fail
  have hS : Stm (w.alloc (.cells #[.slice (some ⟨bb, 0, none⟩) n0 n0] 41)) w.heap.size bb n0 n0 O :=
    ⟨by simp, by simp, h.below (below_alloc w _) hlt, by omega, Nat.le_refl _, hn⟩
  refine (step1_any B w.heap.size bb n0 O _ hS h0 HO.out (by omega) b2).mono ?_
  rintro e w1 ⟨rfl, l, V, hs, hP, hB⟩
  have fld := hs.fld
  go_wp2
  go_ret
  exact ⟨_, l, V, rfl, hP.le, fun _ => hP.pos, hP.same, Or.inr ⟨bb, 0, rfl, fun j hj => by rw [Nat.zero_add]; exact (hs.row j (by have := hP.le; omega)).1⟩, ((Below.refl _ _).alloc (by omega) _).trans hB⟩
end Go.Proofs.Qxb6000751a
