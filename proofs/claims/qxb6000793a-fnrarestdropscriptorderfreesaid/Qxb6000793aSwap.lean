/-
  The walk of (*rarest).swap.
-/
import Derived.Test.Qxb6000793aBase
import Derived.BigRegion
import Derived.BigQuiet
import Derived.RegionTactic
namespace Go.Proofs.Qxb6000793a
open Go.RowKit

set_option maxHeartbeats 4000000 in
set_option maxRecDepth 1000000 in
theorem swap_ne (qb ob pb no co np cp : Nat) (a b x y : Nat) (w : World)
    (hq0 : w.cell? ⟨qb, 0, none⟩ = some (.slice (some ⟨ob, 0, none⟩) no co)) (hq1 : w.cell? ⟨qb, 1, none⟩ = some (.slice (some ⟨pb, 0, none⟩) np cp))
    (d1 : ob ≠ pb) (d2 : ob ≠ qb) (d3 : pb ≠ qb) (hab : a ≠ b)
    (ha : (a : Int) < no) (hb : (b : Int) < no) (hx : (x : Int) < np) (hy : (y : Int) < np)
    (ca : w.cell? ⟨ob, a, none⟩ = some (.int .i64 x)) (cb : w.cell? ⟨ob, b, none⟩ = some (.int .i64 y))
    (fa : w.frozen? ⟨ob, a, none⟩ = false) (fb : w.frozen? ⟨ob, b, none⟩ = false)
    (v1 v2 : Value) (cx : w.cell? ⟨pb, x, none⟩ = some v1) (cy : w.cell? ⟨pb, y, none⟩ = some v2)
    (fx : w.frozen? ⟨pb, x, none⟩ = false) (fy : w.frozen? ⟨pb, y, none⟩ = false) :
    Calls Try.prog 22 #[.pointer (some ⟨qb, 0, none⟩), .int .i64 a, .int .i64 b] w fun e w' => e = .returned (.tuple #[]) ∧
      ∃ n, w' = ((((w.setCell ⟨ob, a, none⟩ (.int .i64 y)).setCell ⟨ob, b, none⟩ (.int .i64 x)).setCell ⟨pb, y, none⟩ (.int .i64 a)).setCell ⟨pb, x, none⟩ (.int .i64 b)).drewN n := by
  go_enter Try.func22, Try.ntmps22
  go_wp2
  go_region
  go_wp2
  generalize hw1 : (World.drew ((w.setCell ⟨ob, a, none⟩ (.int .i64 y)).setCell ⟨ob, b, none⟩ (.int .i64 x))) = w1
  have q0 : w1.cell? ⟨qb, 0, none⟩ = some (.slice (some ⟨ob, 0, none⟩) no co) := by
    rw [← hw1, World.cell?_drew, World.cell?_setCell_other _ _ _ _ (ne_block (by omega)), World.cell?_setCell_other _ _ _ _ (ne_block (by omega))]; exact hq0
  have q1 : w1.cell? ⟨qb, 1, none⟩ = some (.slice (some ⟨pb, 0, none⟩) np cp) := by
    rw [← hw1, World.cell?_drew, World.cell?_setCell_other _ _ _ _ (ne_block (by omega)), World.cell?_setCell_other _ _ _ _ (ne_block (by omega))]; exact hq1
  have na : (⟨ob, b, none⟩ : Addr) ≠ ⟨ob, a, none⟩ := ne_off (Ne.symm hab)
  have ca1 : w1.cell? ⟨ob, a, none⟩ = some (.int .i64 y) := by
    rw [← hw1, World.cell?_drew, World.cell?_setCell_other _ _ _ _ na]; exact World.cell?_setCell_same _ _ _ ca
  have cb1 : w1.cell? ⟨ob, b, none⟩ = some (.int .i64 x) := by
    rw [← hw1, World.cell?_drew]; exact World.cell?_setCell_same _ _ _ (by rw [World.cell?_setCell_other _ _ _ _ na.symm]; exact cb)
  have cx1 : w1.cell? ⟨pb, x, none⟩ = some v1 := by
    rw [← hw1, World.cell?_drew, World.cell?_setCell_other _ _ _ _ (ne_block (by omega)), World.cell?_setCell_other _ _ _ _ (ne_block (by omega))]; exact cx
  have cy1 : w1.cell? ⟨pb, y, none⟩ = some v2 := by
    rw [← hw1, World.cell?_drew, World.cell?_setCell_other _ _ _ _ (ne_block (by omega)), World.cell?_setCell_other _ _ _ _ (ne_block (by omega))]; exact cy
  have fx1 : w1.frozen? ⟨pb, x, none⟩ = false := by rw [← hw1]; simpa using fx
  have fy1 : w1.frozen? ⟨pb, y, none⟩ = false := by rw [← hw1]; simpa using fy
  have HW : Hid (World.drew ((w.setCell ⟨ob, a, none⟩ (.int .i64 y)).setCell ⟨ob, b, none⟩ (.int .i64 x)) = w1) := hw1
  clear hw1 ca cb fa fb cx cy fx fy hq0 hq1
  go_region
  go_wp2
  generalize hw2 : (World.drew (w1.setCell ⟨pb, y, none⟩ (.int .i64 a))) = w2
  have q02 : w2.cell? ⟨qb, 0, none⟩ = some (.slice (some ⟨ob, 0, none⟩) no co) := by
    rw [← hw2, World.cell?_drew, World.cell?_setCell_other _ _ _ _ (ne_block (by omega))]; exact q0
  have q12 : w2.cell? ⟨qb, 1, none⟩ = some (.slice (some ⟨pb, 0, none⟩) np cp) := by
    rw [← hw2, World.cell?_drew, World.cell?_setCell_other _ _ _ _ (ne_block (by omega))]; exact q1
  have cb2 : w2.cell? ⟨ob, b, none⟩ = some (.int .i64 x) := by
    rw [← hw2, World.cell?_drew, World.cell?_setCell_other _ _ _ _ (ne_block (by omega))]; exact cb1
  obtain ⟨v3, cx2⟩ := cell?_setCell_some (w := w1) (p := ⟨pb, y, none⟩) (x := .int .i64 a) (q := ⟨pb, x, none⟩) cx1
  have cx2 : w2.cell? ⟨pb, x, none⟩ = some v3 := by rw [← hw2, World.cell?_drew]; exact cx2
  have fx2 : w2.frozen? ⟨pb, x, none⟩ = false := by rw [← hw2]; simpa using fx1
  have HW2 : Hid (World.drew (w1.setCell ⟨pb, y, none⟩ (.int .i64 a)) = w2) := hw2
  clear hw2 q0 q1 ca1 cb1 cx1 cy1 fx1 fy1
  go_region
  go_wp2
  go_end0
  refine ⟨rfl, 3, ?_⟩
  rw [← HW2.out, ← HW.out]
  rfl

set_option maxHeartbeats 4000000 in
set_option maxRecDepth 1000000 in
theorem swap_eq (qb ob pb no co np cp : Nat) (a x : Nat) (w : World)
    (hq0 : w.cell? ⟨qb, 0, none⟩ = some (.slice (some ⟨ob, 0, none⟩) no co)) (hq1 : w.cell? ⟨qb, 1, none⟩ = some (.slice (some ⟨pb, 0, none⟩) np cp))
    (d1 : ob ≠ pb) (d2 : ob ≠ qb) (d3 : pb ≠ qb)
    (ha : (a : Int) < no) (hx : (x : Int) < np)
    (ca : w.cell? ⟨ob, a, none⟩ = some (.int .i64 x))
    (fa : w.frozen? ⟨ob, a, none⟩ = false)
    (v1 : Value) (cx : w.cell? ⟨pb, x, none⟩ = some v1)
    (fx : w.frozen? ⟨pb, x, none⟩ = false) :
    Calls Try.prog 22 #[.pointer (some ⟨qb, 0, none⟩), .int .i64 a, .int .i64 a] w fun e w' => e = .returned (.tuple #[]) ∧
      ∃ n, w' = ((((w.setCell ⟨ob, a, none⟩ (.int .i64 x)).setCell ⟨ob, a, none⟩ (.int .i64 x)).setCell ⟨pb, x, none⟩ (.int .i64 a)).setCell ⟨pb, x, none⟩ (.int .i64 a)).drewN n := by
  go_enter Try.func22, Try.ntmps22
  go_wp2
  go_region
  go_wp2
  generalize hw1 : (World.drew ((w.setCell ⟨ob, a, none⟩ (.int .i64 x)).setCell ⟨ob, a, none⟩ (.int .i64 x))) = w1
  have q0 : w1.cell? ⟨qb, 0, none⟩ = some (.slice (some ⟨ob, 0, none⟩) no co) := by
    rw [← hw1, World.cell?_drew, World.cell?_setCell_other _ _ _ _ (ne_block (by omega)), World.cell?_setCell_other _ _ _ _ (ne_block (by omega))]; exact hq0
  have q1 : w1.cell? ⟨qb, 1, none⟩ = some (.slice (some ⟨pb, 0, none⟩) np cp) := by
    rw [← hw1, World.cell?_drew, World.cell?_setCell_other _ _ _ _ (ne_block (by omega)), World.cell?_setCell_other _ _ _ _ (ne_block (by omega))]; exact hq1
  have ca1 : w1.cell? ⟨ob, a, none⟩ = some (.int .i64 x) := by
    rw [← hw1, World.cell?_drew]; exact World.cell?_setCell_same _ _ _ (World.cell?_setCell_same _ _ _ ca)
  have cx1 : w1.cell? ⟨pb, x, none⟩ = some v1 := by
    rw [← hw1, World.cell?_drew, World.cell?_setCell_other _ _ _ _ (ne_block (by omega)), World.cell?_setCell_other _ _ _ _ (ne_block (by omega))]; exact cx
  have fx1 : w1.frozen? ⟨pb, x, none⟩ = false := by rw [← hw1]; simpa using fx
  have HW : Hid (World.drew ((w.setCell ⟨ob, a, none⟩ (.int .i64 x)).setCell ⟨ob, a, none⟩ (.int .i64 x)) = w1) := hw1
  clear hw1 ca fa cx fx hq0 hq1
  go_region
  go_wp2
  generalize hw2 : (World.drew (w1.setCell ⟨pb, x, none⟩ (.int .i64 a))) = w2
  have q02 : w2.cell? ⟨qb, 0, none⟩ = some (.slice (some ⟨ob, 0, none⟩) no co) := by
    rw [← hw2, World.cell?_drew, World.cell?_setCell_other _ _ _ _ (ne_block (by omega))]; exact q0
  have q12 : w2.cell? ⟨qb, 1, none⟩ = some (.slice (some ⟨pb, 0, none⟩) np cp) := by
    rw [← hw2, World.cell?_drew, World.cell?_setCell_other _ _ _ _ (ne_block (by omega))]; exact q1
  have cb2 : w2.cell? ⟨ob, a, none⟩ = some (.int .i64 x) := by
    rw [← hw2, World.cell?_drew, World.cell?_setCell_other _ _ _ _ (ne_block (by omega))]; exact ca1
  have cx2 : w2.cell? ⟨pb, x, none⟩ = some (.int .i64 a) := by rw [← hw2, World.cell?_drew]; exact World.cell?_setCell_same _ _ _ cx1
  have fx2 : w2.frozen? ⟨pb, x, none⟩ = false := by rw [← hw2]; simpa using fx1
  have HW2 : Hid (World.drew (w1.setCell ⟨pb, x, none⟩ (.int .i64 a)) = w2) := hw2
  clear hw2 q0 q1 ca1 cx1 fx1
  go_region
  go_wp2
  go_end0
  refine ⟨rfl, 3, ?_⟩
  rw [← HW2.out, ← HW.out]
  rfl

theorem swap_any (qb ob pb no co np cp : Nat) (o p : Nat → Int) (ia ib : Int) (w : World)
    (ho : Own w ob no o) (hp : Own w pb np p)
    (hq0 : w.cell? ⟨qb, 0, none⟩ = some (.slice (some ⟨ob, 0, none⟩) no co)) (hq1 : w.cell? ⟨qb, 1, none⟩ = some (.slice (some ⟨pb, 0, none⟩) np cp))
    (d1 : ob ≠ pb) (d2 : ob ≠ qb) (d3 : pb ≠ qb)
    (ha0 : 0 ≤ ia) (ha : ia < no) (hb0 : 0 ≤ ib) (hb : ib < no) (oa0 : 0 ≤ o ia.toNat) (oa : o ia.toNat < np) (ob0 : 0 ≤ o ib.toNat) (obp : o ib.toNat < np) :
    Calls Try.prog 22 #[.pointer (some ⟨qb, 0, none⟩), .int .i64 ia, .int .i64 ib] w fun e w' => e = .returned (.tuple #[]) ∧
      Chg (fun k => k = ob ∨ k = pb) w w' ∧ Own w' ob no (swO o ia.toNat ib.toNat) ∧ Own w' pb np (swP o p ia.toNat ib.toNat) := by
  obtain ⟨a, rfl⟩ := Int.eq_ofNat_of_zero_le ha0
  obtain ⟨b, rfl⟩ := Int.eq_ofNat_of_zero_le hb0
  rw [Int.toNat_natCast] at *
  rw [Int.toNat_natCast] at *
  obtain ⟨x, hx⟩ := Int.eq_ofNat_of_zero_le oa0
  obtain ⟨y, hy⟩ := Int.eq_ofNat_of_zero_le ob0
  have ex : (o a).toNat = x := by omega
  have ey : (o b).toNat = y := by omega
  have fin : ∀ n : Nat, Chg (fun k => k = ob ∨ k = pb) w (((((w.setCell ⟨ob, a, none⟩ (.int .i64 y)).setCell ⟨ob, b, none⟩ (.int .i64 x)).setCell ⟨pb, y, none⟩ (.int .i64 a)).setCell ⟨pb, x, none⟩ (.int .i64 b)).drewN n)
      ∧ Own (((((w.setCell ⟨ob, a, none⟩ (.int .i64 y)).setCell ⟨ob, b, none⟩ (.int .i64 x)).setCell ⟨pb, y, none⟩ (.int .i64 a)).setCell ⟨pb, x, none⟩ (.int .i64 b)).drewN n) ob no (swO o a b)
      ∧ Own (((((w.setCell ⟨ob, a, none⟩ (.int .i64 y)).setCell ⟨ob, b, none⟩ (.int .i64 x)).setCell ⟨pb, y, none⟩ (.int .i64 a)).setCell ⟨pb, x, none⟩ (.int .i64 b)).drewN n) pb np (swP o p a b) := by
    intro n
    refine ⟨((((((Chg.refl _ w).setCell (Or.inl rfl) _).setCell (Or.inl rfl) _).setCell (Or.inr rfl) _).setCell (Or.inr rfl) _).drewN n), Own.drewN (Own.other (Own.other ?_ (Ne.symm d1) _) (Ne.symm d1) _) n, Own.drewN ?_ n⟩
    · unfold swO
      rw [hx, hy]
      exact (ho.set (by omega) _).set (by omega) _
    · unfold swP
      rw [ex, ey]
      exact (((hp.other d1 _).other d1 _).set (by omega) _).set (by omega) _
  obtain ⟨ca, fa⟩ := ho a (by omega)
  obtain ⟨cb, fb⟩ := ho b (by omega)
  rw [hx] at ca
  rw [hy] at cb
  obtain ⟨cx, fx⟩ := hp x (by omega)
  obtain ⟨cy, fy⟩ := hp y (by omega)
  by_cases hab : a = b
  · subst hab
    have hxy : x = y := by omega
    subst hxy
    refine (swap_eq qb ob pb no co np cp a x w hq0 hq1 d1 d2 d3 (by omega) (by omega) ca fa _ cx fx).mono ?_
    rintro e w' ⟨rfl, n, rfl⟩
    exact ⟨rfl, fin n⟩
  · refine (swap_ne qb ob pb no co np cp a b x y w hq0 hq1 d1 d2 d3 hab (by omega) (by omega) (by omega) (by omega) ca cb fa fb _ _ cx cy fx fy).mono ?_
    rintro e w' ⟨rfl, n, rfl⟩
    exact ⟨rfl, fin n⟩
end Go.Proofs.Qxb6000793a
