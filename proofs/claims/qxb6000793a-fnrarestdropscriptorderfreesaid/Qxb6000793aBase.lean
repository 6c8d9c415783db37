/-
  Rows of ints that the call itself owns, told by a plain function; what a step leaves as it was.
-/
import Derived.Test.Qxb6000793aRows
import Derived.Test.Qxb6000793aPlain
import Derived.WalkKit
import Derived.Below
import Derived.Deep.Draws
import Derived.Deep.OwnRows
import Derived.WalkSpells
namespace Go.Proofs.Qxb6000793a
open Go.RowKit

/-- Block b holds, from its first cell on, the n numbers G 0, G 1, ..; none of those cells is frozen. -/
def Own (w : World) (b n : Nat) (G : Nat → Int) : Prop :=
  ∀ j, j < n → w.cell? ⟨b, j, none⟩ = some (.int .i64 (G j)) ∧ w.frozen? ⟨b, j, none⟩ = false

theorem ne_block {b1 b2 o1 o2 : Nat} (h : b1 ≠ b2) : (⟨b1, o1, none⟩ : Addr) ≠ ⟨b2, o2, none⟩ := by
  intro e; simp only [Addr.mk.injEq] at e; exact h e.1
theorem ne_off {b1 b2 o1 o2 : Nat} (h : o1 ≠ o2) : (⟨b1, o1, none⟩ : Addr) ≠ ⟨b2, o2, none⟩ := by
  intro e; simp only [Addr.mk.injEq] at e; exact h e.2.1

/-- w' is w but for the blocks of S. -/
structure Chg (S : Nat → Prop) (w w' : World) : Prop where
  os : w'.os = w.os
  tape : w'.tape = w.tape
  output : w'.output = w.output
  size : w'.heap.size = w.heap.size
  block : ∀ k, ¬ S k → w'.heap[k]? = w.heap[k]?

theorem Chg.refl (S : Nat → Prop) (w : World) : Chg S w w := ⟨rfl, rfl, rfl, rfl, fun _ _ => rfl⟩
theorem Chg.trans {S : Nat → Prop} {a b c : World} (h : Chg S a b) (k : Chg S b c) : Chg S a c :=
  ⟨k.os.trans h.os, k.tape.trans h.tape, k.output.trans h.output, k.size.trans h.size, fun i hi => (k.block i hi).trans (h.block i hi)⟩
theorem Chg.wide {S T : Nat → Prop} {a b : World} (h : Chg S a b) (hs : ∀ k, S k → T k) : Chg T a b :=
  ⟨h.os, h.tape, h.output, h.size, fun k hk => h.block k (fun hs' => hk (hs k hs'))⟩
theorem Chg.drew {S : Nat → Prop} {a b : World} (h : Chg S a b) : Chg S a b.drew := ⟨h.os, h.tape, h.output, h.size, h.block⟩
theorem Chg.drewN {S : Nat → Prop} {a b : World} (h : Chg S a b) (n : Nat) : Chg S a (b.drewN n) := ⟨h.os, h.tape, h.output, h.size, h.block⟩
theorem Chg.setCell {S : Nat → Prop} {a b : World} (h : Chg S a b) {p : Addr} (hp : S p.block) (u : Value) : Chg S a (b.setCell p u) :=
  h.trans ⟨rfl, rfl, rfl, by simp, fun k hk => Below.heap_setCell _ _ _ _ (fun e => hk (e ▸ hp))⟩
theorem Chg.cell {S : Nat → Prop} {w w' : World} (h : Chg S w w') {p : Addr} (hp : ¬ S p.block) : w'.cell? p = w.cell? p := World.cell?_of_block (w := w) (h.block p.block hp)
theorem Chg.frozen {S : Nat → Prop} {w w' : World} (h : Chg S w w') {p : Addr} (hp : ¬ S p.block) : w'.frozen? p = w.frozen? p := World.frozen?_of_block (w := w) (h.block p.block hp)
theorem Chg.below {S : Nat → Prop} {w w' : World} (h : Chg S w w') {B : Nat} (hB : ∀ k, S k → B ≤ k) : Below B w w' :=
  ⟨h.os, h.tape, h.output, by rw [h.size]; exact Nat.le_refl _, fun k hk => h.block k (fun hs => by have := hB k hs; omega)⟩

theorem below_drewN {B n : Nat} {a w : World} (h : Below B a w) : Below B a (w.drewN n) := ⟨h.os, h.tape, h.output, h.size, h.block⟩

theorem Own.drew {w : World} {b n : Nat} {G : Nat → Int} (h : Own w b n G) : Own w.drew b n G := h
theorem Own.drewN {w : World} {b n : Nat} {G : Nat → Int} (h : Own w b n G) (q : Nat) : Own (w.drewN q) b n G := h
theorem Own.congr {w : World} {b n : Nat} {G G' : Nat → Int} (h : Own w b n G) (e : ∀ j, j < n → G j = G' j) : Own w b n G' :=
  fun j hj => by rw [← e j hj]; exact h j hj
theorem Own.less {w : World} {b n m : Nat} {G : Nat → Int} (h : Own w b n G) (e : m ≤ n) : Own w b m G := fun j hj => h j (by omega)
theorem Own.set {w : World} {b n : Nat} {G : Nat → Int} (h : Own w b n G) {i : Nat} (hi : i < n) (v : Int) : Own (w.setCell ⟨b, i, none⟩ (.int .i64 v)) b n (upd G i v) := by
  intro j hj
  refine ⟨?_, by rw [World.frozen?_setCell]; exact (h j hj).2⟩
  by_cases e : j = i
  · subst e
    rw [upd_same]
    exact World.cell?_setCell_same _ _ _ (h j hj).1
  · rw [upd_other _ _ _ _ e, World.cell?_setCell_other _ _ _ _ (by intro e'; simp only [Addr.mk.injEq, and_true] at e'; exact e e'.2.symm)]
    exact (h j hj).1
theorem Own.other {w : World} {b n : Nat} {G : Nat → Int} (h : Own w b n G) {p : Addr} (hp : p.block ≠ b) (v : Value) : Own (w.setCell p v) b n G := by
  intro j hj
  refine ⟨?_, by rw [World.frozen?_setCell]; exact (h j hj).2⟩
  rw [World.cell?_setCell_other _ _ _ _ (by intro e; exact hp (by rw [e]))]
  exact (h j hj).1
theorem Own.chg {S : Nat → Prop} {w w' : World} {b n : Nat} {G : Nat → Int} (h : Own w b n G) (hc : Chg S w w') (hb : ¬ S b) : Own w' b n G :=
  fun j hj => by rw [hc.cell (p := ⟨b, j, none⟩) hb, hc.frozen (p := ⟨b, j, none⟩) hb]; exact h j hj
theorem Own.below {B : Nat} {w w' : World} {b n : Nat} {G : Nat → Int} (h : Own w b n G) (hc : Below B w w') (hb : b < B) : Own w' b n G :=
  fun j hj => by rw [hc.cell (p := ⟨b, j, none⟩) hb, hc.frozen (p := ⟨b, j, none⟩) hb]; exact h j hj

theorem info3 : (Try.prog.info? 3).map (fun i => (i.zero, i.size, i.bytes)) = some (some (.int .i64 0), 1, 8) := by kernel_rfl
theorem run_make_ints (n : Nat) (h : n ≤ 1048576) (w : World) :
    (Instr.makeSlice 26 (.int .i64 (n : Int)) (.int .i64 (n : Int))).run Try.prog w = .ok (.slice (some ⟨w.heap.size, 0, none⟩) n n) (w.alloc (.cells (madeCells #[.int .i64 0] n) 3)) :=
  run_make_row' (P := Try.prog) 26 3 (.int .i64 0) 8 Try.underlying26 info3 rfl .i64 .i64 n (by omega) (by omega) w
theorem own_made (w : World) (n : Nat) : Own (w.alloc (.cells (madeCells #[.int .i64 0] n) 3)) w.heap.size n (fun _ => 0) := by
  intro j hj
  refine ⟨?_, by simp⟩
  simp [madeCells, hj, Nat.mod_one]
theorem below_made (w : World) (n : Nat) : Below w.heap.size w (w.alloc (.cells (madeCells #[.int .i64 0] n) 3)) := (Below.refl _ _).alloc (Nat.le_refl _) _

end Go.Proofs.Qxb6000793a
