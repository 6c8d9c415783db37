/-
  The walk of ZZRarestDrop.
-/
import Derived.Test.Qxb6000793aDrop
import Derived.Deep.QuietTactic
import Derived.OwnWalk
namespace Go.Proofs.Qxb6000793a
open Go.RowKit

set_option maxHeartbeats 4000000 in
set_option maxRecDepth 1000000 in
theorem zz_not (ao af : Option Addr) (pb no co np cp nf cf : Nat) (p : Nat → Int) (i : Nat) (h : Int) (w : World)
    (hp : Own w pb np p) (hi : i < np) (hn : p i < 0) :
    Calls Try.prog 16 #[.slice ao no co, .slice (some ⟨pb, 0, none⟩) np cp, .slice af nf cf, .int .i64 i, .int .i64 h] w fun e w' =>
      e = .returned (.tuple #[.slice ao no co, .slice (some ⟨pb, 0, none⟩) np cp, .slice af nf cf]) ∧ Below w.heap.size w w' := by
  have hpb : pb < w.heap.size := World.block_lt_of_cell? w ⟨pb, i, none⟩ (hp i hi).1
  go_enter Try.func16, Try.ntmps16
  go_wp2_with fail
  refine (drop_not w.heap.size pb np cp p i h _ ?_ ?_ hi hn).mono ?_
  · exact hp.below ((Below.refl _ _).alloc (Nat.le_refl _) _) hpb
  · simp
  rintro e w1 ⟨rfl, rfl⟩
  go_wp2_with fail
  go_quiet (fail)
  go_wp2
  go_ret3
  exact ⟨rfl, below_drewN ((Below.refl _ _).alloc (Nat.le_refl _) _)⟩

set_option maxHeartbeats 4000000 in
set_option maxRecDepth 1000000 in
theorem zz_in (ob pb fb no co np cp nf cf : Nat) (o p f c : Nat → Int) (i h k : Nat) (w : World) (B : Nat)
    (ho : Own w ob no o) (hp : Own w pb np p) (hf : Own w fb nf f)
    (d1 : ob ≠ pb) (d4 : fb ≠ ob) (d5 : fb ≠ pb) (hco : no ≤ co)
    (zo : no ≤ 1048576) (zf : nf ≤ 1048576) (b1 : B ≤ ob) (b2 : B ≤ pb) (b3 : B ≤ fb)
    (hi : i < np) (hk : p i = k) (hW : Way no np nf c p i k (h + 1) o p f) (hh : h < nf) :
    Calls Try.prog 16 #[.slice (some ⟨ob, 0, none⟩) no co, .slice (some ⟨pb, 0, none⟩) np cp, .slice (some ⟨fb, 0, none⟩) nf cf, .int .i64 i, .int .i64 h] w fun e w' =>
      ∃ l o' p' f', e = .returned (.tuple #[.slice (some ⟨ob, 0, none⟩) l co, .slice (some ⟨pb, 0, none⟩) np cp, .slice (some ⟨fb, 0, none⟩) nf cf]) ∧
        l + 1 = no ∧ Out l np nf c p i o' p' f' ∧ Own w' ob l o' ∧ Own w' pb np p' ∧ Own w' fb nf f' ∧ Below B w w' := by
  have hpb : pb < w.heap.size := World.block_lt_of_cell? w ⟨pb, i, none⟩ (hp i hi).1
  have hob : ob < w.heap.size := World.block_lt_of_cell? w ⟨ob, k, none⟩ (ho k hW.klt).1
  have hfb : fb < w.heap.size := World.block_lt_of_cell? w ⟨fb, h, none⟩ (hf h hh).1
  have hB : B ≤ w.heap.size := by omega
  go_enter Try.func16, Try.ntmps16
  go_wp2_with fail
  refine (drop_in w.heap.size ob pb fb no co np cp nf cf o p f c i h k _ ?_ ?_ ?_ ?_ ?_ ?_ ?_ d1 (by omega) (by omega) d4 d5 (by omega) hco zo zf hi hk hW hh).mono ?_
  · exact ho.below ((Below.refl _ _).alloc (Nat.le_refl _) _) hob
  · exact hp.below ((Below.refl _ _).alloc (Nat.le_refl _) _) hpb
  · exact hf.below ((Below.refl _ _).alloc (Nat.le_refl _) _) hfb
  · simp
  · simp
  · simp
  · simp
  rintro e w1 ⟨rfl, l, o', p', f', hl, hO, ho1, hp1, hf1, hC, q0, q1, q2⟩
  have hb : Below B w w1 := ((Below.refl B w).alloc hB _).trans (hC.below (by omega))
  clear hC
  go_wp2_with fail
  go_quiet (fail)
  go_wp2
  go_ret3
  refine ⟨l, o', p', f', rfl, hl, hO, ?_, ?_, ?_, ?_⟩
  · first | exact ho1.drewN _ | exact ho1
  · first | exact hp1.drewN _ | exact hp1
  · first | exact hf1.drewN _ | exact hf1
  · exact ⟨hb.os, hb.tape, hb.output, hb.size, hb.block⟩
end Go.Proofs.Qxb6000793a
