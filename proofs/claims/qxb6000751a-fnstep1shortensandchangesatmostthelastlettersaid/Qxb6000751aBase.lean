/-
  Rows of values that the call itself owns, told by a plain function; rows that can be read; what a step leaves as it was.
-/
import Derived.Test.Qxb6000751aRows
import Derived.WalkKit
import Derived.Below
import Derived.LoopTactic
import Derived.Deep.Draws
import Derived.Deep.OwnRows
import Derived.WalkSpells
import Derived.Deep.QuietTactic
import Derived.BigQuiet
namespace Go.Proofs.Qxb6000751a
open Go.RowKit

/-- Block b holds, from its first cell on, the n values V 0, V 1, ..; none of those cells is frozen. -/
def Own (w : World) (b n : Nat) (V : Nat → Value) : Prop :=
  ∀ j, j < n → w.cell? ⟨b, j, none⟩ = some (V j) ∧ w.frozen? ⟨b, j, none⟩ = false
/-- V with v laid at i. -/
def upd (V : Nat → Value) (i : Nat) (v : Value) : Nat → Value := fun t => if t = i then v else V t
theorem upd_same (V : Nat → Value) (i : Nat) (v : Value) : upd V i v i = v := by simp [upd]
theorem upd_other (V : Nat → Value) (i t : Nat) (v : Value) (h : t ≠ i) : upd V i v t = V t := by simp [upd, h]

theorem ne_block {b1 b2 o1 o2 : Nat} (h : b1 ≠ b2) : (⟨b1, o1, none⟩ : Addr) ≠ ⟨b2, o2, none⟩ := by
  intro e; simp only [Addr.mk.injEq] at e; exact h e.1
theorem ne_off {b1 b2 o1 o2 : Nat} (h : o1 ≠ o2) : (⟨b1, o1, none⟩ : Addr) ≠ ⟨b2, o2, none⟩ := by
  intro e; simp only [Addr.mk.injEq] at e; exact h e.2.1
theorem below_drewN {B n : Nat} {a w : World} (h : Below B a w) : Below B a (w.drewN n) := ⟨h.os, h.tape, h.output, h.size, h.block⟩

theorem Own.drewN {w : World} {b n : Nat} {V : Nat → Value} (h : Own w b n V) (q : Nat) : Own (w.drewN q) b n V := h
theorem Own.congr {w : World} {b n : Nat} {V V' : Nat → Value} (h : Own w b n V) (e : ∀ j, j < n → V j = V' j) : Own w b n V' :=
  fun j hj => by rw [← e j hj]; exact h j hj
theorem Own.set {w : World} {b n : Nat} {V : Nat → Value} (h : Own w b n V) {i : Nat} (hi : i < n) (v : Value) : Own (w.setCell ⟨b, i, none⟩ v) b n (upd V i v) := by
  intro j hj
  refine ⟨?_, by rw [World.frozen?_setCell]; exact (h j hj).2⟩
  by_cases e : j = i
  · subst e
    rw [upd_same]
    exact World.cell?_setCell_same _ _ _ (h j hj).1
  · rw [upd_other _ _ _ _ e, World.cell?_setCell_other _ _ _ _ (ne_off (Ne.symm e))]
    exact (h j hj).1
theorem Own.other {w : World} {b n : Nat} {V : Nat → Value} (h : Own w b n V) {p : Addr} (hp : p.block ≠ b) (v : Value) : Own (w.setCell p v) b n V := by
  intro j hj
  refine ⟨?_, by rw [World.frozen?_setCell]; exact (h j hj).2⟩
  rw [World.cell?_setCell_other _ _ _ _ (by intro e; exact hp (by rw [e]))]
  exact (h j hj).1
theorem Own.below {B : Nat} {w w' : World} {b n : Nat} {V : Nat → Value} (h : Own w b n V) (hc : Below B w w') (hb : b < B) : Own w' b n V :=
  fun j hj => by rw [hc.cell (p := ⟨b, j, none⟩) hb, hc.frozen (p := ⟨b, j, none⟩) hb]; exact h j hj

/-- The first n values behind the address are V 0, V 1, ... -/
def Reads (w : World) (b off n : Nat) (V : Nat → Value) : Prop := ∀ j, j < n → w.cell? ⟨b, off + j, none⟩ = some (V j)
theorem Reads.below {B : Nat} {w w' : World} {b off n : Nat} {V : Nat → Value} (h : Reads w b off n V) (hc : Below B w w') (hb : b < B) : Reads w' b off n V :=
  fun j hj => by rw [hc.cell (p := ⟨b, off + j, none⟩) hb]; exact h j hj
theorem Own.reads {w : World} {b n : Nat} {V : Nat → Value} (h : Own w b n V) : Reads w b 0 n V := fun j hj => by rw [Nat.zero_add]; exact (h j hj).1
theorem Reads.lt {w : World} {b off n : Nat} {V : Nat → Value} (h : Reads w b off n V) (hn : 0 < n) : b < w.heap.size := World.block_lt_of_cell? w ⟨b, off + 0, none⟩ (h 0 hn)

/-- A slice of n values that can be read (nil where there is none). -/
def Row (w : World) (a : Option Addr) (n : Nat) (V : Nat → Value) : Prop := n = 0 ∨ ∃ b off, a = some ⟨b, off, none⟩ ∧ Reads w b off n V
theorem Row.get {w : World} {a : Option Addr} {n : Nat} {V : Nat → Value} (h : Row w a n V) (hn : 0 < n) : ∃ b off, a = some ⟨b, off, none⟩ ∧ Reads w b off n V := by
  rcases h with h | h
  · omega
  · exact h
theorem Row.below {B : Nat} {w w' : World} {a : Option Addr} {n : Nat} {V : Nat → Value} (h : Row w a n V) (hc : Below B w w') (hB : w.heap.size ≤ B) : Row w' a n V := by
  rcases h with h | ⟨b, off, e, h⟩
  · exact Or.inl h
  · by_cases hn : n = 0
    · exact Or.inl hn
    · exact Or.inr ⟨b, off, e, h.below hc (by have := h.lt (by omega); omega)⟩
theorem Row.drewN {w : World} {a : Option Addr} {n : Nat} {V : Nat → Value} (h : Row w a n V) (q : Nat) : Row (w.drewN q) a n V := h

/-- A row of the call's own, from block lo to hi (or no element at all). -/
def Mine (w : World) (lo hi : Nat) (a : Option Addr) (n : Nat) (V : Nat → Value) : Prop := n = 0 ∨ ∃ b, a = some ⟨b, 0, none⟩ ∧ lo ≤ b ∧ b < hi ∧ Own w b n V
theorem Mine.get {w : World} {lo hi n : Nat} {a : Option Addr} {V : Nat → Value} (h : Mine w lo hi a n V) (hn : 0 < n) : ∃ b, a = some ⟨b, 0, none⟩ ∧ lo ≤ b ∧ b < hi ∧ Own w b n V := by
  rcases h with h | h
  · omega
  · exact h
theorem Mine.row {w : World} {lo hi n : Nat} {a : Option Addr} {V : Nat → Value} (h : Mine w lo hi a n V) : Row w a n V := by
  rcases h with h | ⟨b, e, _, _, h⟩
  · exact Or.inl h
  · exact Or.inr ⟨b, 0, e, h.reads⟩

/-- Numbers of a kind, as values. -/
def nums (k : IntKind) (G : Nat → Int) : Nat → Value := fun j => .int k (G j)
theorem nums_at (k : IntKind) (G : Nat → Int) (j : Nat) : nums k G j = .int k (G j) := rfl

theorem made_own (w : World) (z : Value) (t : TypeId) (n : Nat) : Own (w.alloc (.cells (madeCells #[z] n) t)) w.heap.size n (fun _ => z) := by
  intro j hj
  refine ⟨?_, by simp⟩
  simp [madeCells, hj, Nat.mod_one]
theorem below_alloc (w : World) (o : Obj) : Below w.heap.size w (w.alloc o) := (Below.refl _ _).alloc (Nat.le_refl _) _

theorem info5 : (Try.prog.info? 5).map (fun i => (i.zero, i.size, i.bytes)) = some (some (.int .u8 0), 1, 1) := by kernel_rfl
theorem make22 (n : Nat) (h : n ≤ 2097152) (w : World) :
    (Instr.makeSlice 22 (.int .i64 (n : Int)) (.int .i64 (n : Int))).run Try.prog w = .ok (.slice (some ⟨w.heap.size, 0, none⟩) n n) (w.alloc (.cells (madeCells #[.int .u8 0] n) 5)) :=
  run_make_row' (P := Try.prog) 22 5 (.int .u8 0) 1 Try.underlying22 info5 rfl .i64 .i64 n (by omega) (by omega) w

/-- The stemmer's word: l bytes at the head of a row of cap bytes V. -/
structure Stm (w : World) (sb bb l cap : Nat) (V : Nat → Int) : Prop where
  fld : w.cell? ⟨sb, 0, none⟩ = some (.slice (some ⟨bb, 0, none⟩) l cap)
  fz : w.frozen? ⟨sb, 0, none⟩ = false
  row : Own w bb cap (nums .u8 V)
  ne : sb ≠ bb
  le : l ≤ cap
  cap_le : cap ≤ 4096
theorem Stm.drewN {w : World} {sb bb l cap : Nat} {V : Nat → Int} (h : Stm w sb bb l cap V) (q : Nat) : Stm (w.drewN q) sb bb l cap V := ⟨h.fld, h.fz, h.row, h.ne, h.le, h.cap_le⟩

def isVow (x : Int) : Bool := x == 97 || x == 101 || x == 105 || x == 111 || x == 117
/-- Is byte i a consonant? -/
def cons (V : Nat → Int) : Nat → Bool
  | 0 => !isVow (V 0)
  | i + 1 => if isVow (V (i + 1)) = true then false else if V (i + 1) = 121 then !cons V i else true

end Go.Proofs.Qxb6000751a
