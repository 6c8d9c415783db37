/-
  The walk of (*rarest).drop.
-/
import Derived.Test.Qxb6000793aSwap
import Derived.LoopTactic
namespace Go.Proofs.Qxb6000793a
open Go.RowKit

set_option maxHeartbeats 400000 in
/-- A piece that is not in the order: nothing happens. -/
theorem drop_not (qb pb np cp : Nat) (p : Nat → Int) (i : Nat) (h : Int) (w : World)
    (hp : Own w pb np p) (hq1 : w.cell? ⟨qb, 1, none⟩ = some (.slice (some ⟨pb, 0, none⟩) np cp)) (hi : i < np) (hn : p i < 0) :
    Calls Try.prog 20 #[.pointer (some ⟨qb, 0, none⟩), .int .i64 i, .int .i64 h] w fun e w' => e = .returned (.tuple #[]) ∧ w' = w := by
  obtain ⟨v, hv⟩ : ∃ v, p i = v := ⟨_, rfl⟩
  obtain ⟨ci, _⟩ := hp i hi
  rw [hv] at ci hn
  have hi' : (i : Int) < np := by omega
  clear hv hp
  go_enter Try.func20, Try.ntmps20
  go_wp2
  (try simp only [Exit.inBlock, Exit.then])
  refine bodyPost_ret (results_none rfl _ _ _) rfl ?_
  exact ⟨rfl, rfl⟩

set_option maxHeartbeats 4000000 in
set_option maxRecDepth 1000000 in
theorem drop_in (qb ob pb fb no co np cp nf cf : Nat) (o p f c : Nat → Int) (i h k : Nat) (w : World)
    (ho : Own w ob no o) (hp : Own w pb np p) (hf : Own w fb nf f)
    (hq0 : w.cell? ⟨qb, 0, none⟩ = some (.slice (some ⟨ob, 0, none⟩) no co)) (hq1 : w.cell? ⟨qb, 1, none⟩ = some (.slice (some ⟨pb, 0, none⟩) np cp)) (hq2 : w.cell? ⟨qb, 2, none⟩ = some (.slice (some ⟨fb, 0, none⟩) nf cf))
    (hfz : w.frozen? ⟨qb, 0, none⟩ = false)
    (d1 : ob ≠ pb) (d2 : ob ≠ qb) (d3 : pb ≠ qb) (d4 : fb ≠ ob) (d5 : fb ≠ pb) (d6 : fb ≠ qb) (hco : no ≤ co)
    (zo : no ≤ 1048576) (zf : nf ≤ 1048576)
    (hi : i < np) (hk : p i = k) (hW : Way no np nf c p i k (h + 1) o p f) (hh : h < nf) :
    Calls Try.prog 20 #[.pointer (some ⟨qb, 0, none⟩), .int .i64 i, .int .i64 h] w fun e w' => e = .returned (.tuple #[]) ∧
      ∃ l o' p' f', l + 1 = no ∧ Out l np nf c p i o' p' f' ∧ Own w' ob l o' ∧ Own w' pb np p' ∧ Own w' fb nf f' ∧ Chg (fun b => b = ob ∨ b = pb ∨ b = fb ∨ b = qb) w w' ∧
        w'.cell? ⟨qb, 0, none⟩ = some (.slice (some ⟨ob, 0, none⟩) l co) ∧ w'.cell? ⟨qb, 1, none⟩ = some (.slice (some ⟨pb, 0, none⟩) np cp) ∧ w'.cell? ⟨qb, 2, none⟩ = some (.slice (some ⟨fb, 0, none⟩) nf cf) := by
  obtain ⟨ci, _⟩ := hp i hi
  rw [hk] at ci
  have hi' : (i : Int) < np := by omega
  have hfz' : w.frozen? ⟨qb, 0, none⟩ = false := hfz
  have HP : Hid (Own w pb np p) := hp
  have HK : Hid (p i = k) := hk
  clear hp hk
  have hk0 : decide ((k : Int) < 0) = false := decide_eq_false (by omega)
  go_enter Try.func20, Try.ntmps20
  go_wp2
  go_loopw [6, 7] (fun sk sg wr => ∃ (k' g : Nat) (o' p' f' : Nat → Int), sk = .int .i64 k' ∧ sg = .int .i64 g ∧ g ≤ nf ∧ Way no np nf c p i k' g o' p' f' ∧ Own wr ob no o' ∧ Own wr pb np p' ∧ Own wr fb nf f' ∧ Chg (fun b => b = ob ∨ b = pb ∨ b = fb) w wr) (fun _ sg _ => nf - (intOf sg).toNat)
  case atStart => exact ⟨k, h + 1, o, p, f, rfl, by go_num, by omega, hW, ho, HP.out, hf, Chg.refl _ _⟩
  case round =>
    obtain ⟨k', g, o', p', f', rfl, rfl, hg, hW', ho', hp', hf', hC⟩ := hrel
    rename World => wr
    clear ho hf hW HP HK ci
    have q0 : wr.cell? ⟨qb, 0, none⟩ = some (.slice (some ⟨ob, 0, none⟩) no co) := by rw [hC.cell (p := ⟨qb, 0, none⟩) (by simp; omega)]; exact hq0
    have q1 : wr.cell? ⟨qb, 1, none⟩ = some (.slice (some ⟨pb, 0, none⟩) np cp) := by rw [hC.cell (p := ⟨qb, 1, none⟩) (by simp; omega)]; exact hq1
    have q2 : wr.cell? ⟨qb, 2, none⟩ = some (.slice (some ⟨fb, 0, none⟩) nf cf) := by rw [hC.cell (p := ⟨qb, 2, none⟩) (by simp; omega)]; exact hq2
    have qz : wr.frozen? ⟨qb, 0, none⟩ = false := by rw [hC.frozen (p := ⟨qb, 0, none⟩) (by simp; omega)]; exact hfz
    clear hq0 hq1 hq2 hfz hfz'
    by_cases hlt : g < nf
    · obtain ⟨b, hb⟩ : ∃ b : Nat, f' g - 1 = b := by
        have := (hW'.bnd g hlt).2.2.2.1 (Nat.le_refl _)
        exact ⟨(f' g - 1).toNat, by omega⟩
      have hkb := (hW'.bnd g hlt).2.2.2.1 (Nat.le_refl _)
      have hbn := (hW'.bnd g hlt).2.1
      obtain ⟨cg, fg⟩ := hf' g hlt
      rw [show f' g = (b : Int) + 1 by omega] at cg hkb hbn
      have hlt' : (g : Int) < nf := by omega
      have hk'n := hW'.klt
      have HB : Hid (f' g - 1 = b) := hb
      clear hb
      go_wp2_with fail
      have o1 := hW'.bij.one k' hk'n
      have o2 := hW'.bij.one b (by omega)
      refine (swap_any qb ob pb no co np cp o' p' k' b wr ho' hp' q0 q1 d1 d2 d3 (by omega) (by omega) (by omega) (by omega) (by rw [Int.toNat_natCast]; exact o1.1) (by rw [Int.toNat_natCast]; exact o1.2.1) (by rw [Int.toNat_natCast]; exact o2.1) (by rw [Int.toNat_natCast]; exact o2.2.1)).mono ?_
      rintro e w1 ⟨rfl, hC1, ho1, hp1⟩
      rw [Int.toNat_natCast, Int.toNat_natCast] at ho1 hp1
      have q01 : w1.cell? ⟨qb, 0, none⟩ = some (.slice (some ⟨ob, 0, none⟩) no co) := by rw [hC1.cell (p := ⟨qb, 0, none⟩) (by simp; omega)]; exact q0
      have q11 : w1.cell? ⟨qb, 1, none⟩ = some (.slice (some ⟨pb, 0, none⟩) np cp) := by rw [hC1.cell (p := ⟨qb, 1, none⟩) (by simp; omega)]; exact q1
      have q21 : w1.cell? ⟨qb, 2, none⟩ = some (.slice (some ⟨fb, 0, none⟩) nf cf) := by rw [hC1.cell (p := ⟨qb, 2, none⟩) (by simp; omega)]; exact q2
      have hf1 : Own w1 fb nf f' := hf'.chg hC1 (by omega)
      obtain ⟨cg0, fg1⟩ := hf1 g hlt
      have cg1 : w1.cell? ⟨fb, g, none⟩ = some (.int .i64 ((b : Int) + 1)) := by rw [cg0]; have := HB.out; rw [show f' g = (b : Int) + 1 by omega]
      have n20 : (⟨fb, g, none⟩ : Addr) ≠ ⟨qb, 2, none⟩ := ne_block d6
      have q2s : (w1.setCell ⟨fb, g, none⟩ (.int .i64 b)).cell? ⟨qb, 2, none⟩ = some (.slice (some ⟨fb, 0, none⟩) nf cf) := by rw [World.cell?_setCell_other _ _ _ _ n20]; exact q21
      have cgs : (w1.setCell ⟨fb, g, none⟩ (.int .i64 b)).cell? ⟨fb, g, none⟩ = some (.int .i64 b) := World.cell?_setCell_same _ _ _ cg1
      clear cg0 cg fg q0 q1 q2 qz ho' hp' hf'
      go_wp2
      go_roundw
      case rel => exact ⟨b, g + 1, swO o' k' b, swP o' p' k' b, upd f' g b, rfl, by go_num, by omega, hW'.step hlt HB.out, ho1.other d4 _, hp1.other d5 _, hf1.set hlt _, (hC.trans (hC1.wide (by omega))).setCell (Or.inr (Or.inr rfl)) _⟩
      case measure => simp [intOf]; omega
    · have hge : ¬ (g : Int) < nf := by omega
      obtain ⟨l, hl⟩ : ∃ l, l + 1 = no := ⟨no - 1, by have := hW'.klt; omega⟩
      have hk'n := hW'.klt
      have o1 := hW'.bij.one k' hk'n
      have o2 := hW'.bij.one l (by omega)
      subst hl
      go_wp2_with fail
      refine (swap_any qb ob pb (l + 1) co np cp o' p' k' l wr ho' hp' q0 q1 d1 d2 d3 (by omega) (by omega) (by omega) (by omega) (by rw [Int.toNat_natCast]; exact o1.1) (by rw [Int.toNat_natCast]; exact o1.2.1) (by rw [Int.toNat_natCast]; exact o2.1) (by rw [Int.toNat_natCast]; exact o2.2.1)).mono ?_
      rintro e w1 ⟨rfl, hC1, ho1, hp1⟩
      rw [Int.toNat_natCast, Int.toNat_natCast] at ho1 hp1
      have q01 : w1.cell? ⟨qb, 0, none⟩ = some (.slice (some ⟨ob, 0, none⟩) (l + 1) co) := by rw [hC1.cell (p := ⟨qb, 0, none⟩) (by simp; omega)]; exact q0
      have q11 : w1.cell? ⟨qb, 1, none⟩ = some (.slice (some ⟨pb, 0, none⟩) np cp) := by rw [hC1.cell (p := ⟨qb, 1, none⟩) (by simp; omega)]; exact q1
      have q21 : w1.cell? ⟨qb, 2, none⟩ = some (.slice (some ⟨fb, 0, none⟩) nf cf) := by rw [hC1.cell (p := ⟨qb, 2, none⟩) (by simp; omega)]; exact q2
      have qz1 : w1.frozen? ⟨qb, 0, none⟩ = false := by rw [hC1.frozen (p := ⟨qb, 0, none⟩) (by simp; omega)]; exact qz
      have hf1 : Own w1 fb nf f' := hf'.chg hC1 (by omega)
      have hlco : ((l : Int)) ≤ co := by omega
      have q1s : ∀ v, (w1.setCell ⟨qb, 0, none⟩ v).cell? ⟨qb, 1, none⟩ = some (.slice (some ⟨pb, 0, none⟩) np cp) := fun v => by rw [World.cell?_setCell_other _ _ _ _ (ne_off (by omega))]; exact q11
      obtain ⟨ci0, fi0⟩ := hp1 i hi
      have cis : ∀ v, (w1.setCell ⟨qb, 0, none⟩ v).cell? ⟨pb, i, none⟩ = some (.int .i64 (swP o' p' k' l i)) := fun v => by rw [World.cell?_setCell_other _ _ _ _ (ne_block (Ne.symm d3))]; exact ci0
      have HD := hW'.done (by omega) (l := l) rfl
      clear q0 q1 q2 qz ho' hp' hf' o1 o2
      go_wp2
      go_end0
      refine ⟨rfl, l, _, _, _, rfl, HD, ?_, ?_, ?_, ?_, ?_, ?_, ?_⟩
      · exact ((ho1.other (Ne.symm d2) _).other (Ne.symm d1) _).less (by omega)
      · exact (hp1.other (Ne.symm d3) _).set hi _
      · exact (hf1.other (Ne.symm d6) _).other (Ne.symm d5) _
      · exact ((hC.wide (by omega)).trans (((hC1.wide (by omega)).setCell (Or.inr (Or.inr (Or.inr rfl))) _).setCell (Or.inr (Or.inl rfl)) _))
      · rw [World.cell?_setCell_other _ _ _ _ (ne_block d3)]; exact World.cell?_setCell_same _ _ _ q01
      · rw [World.cell?_setCell_other _ _ _ _ (ne_block d3)]; exact q1s _
      · rw [World.cell?_setCell_other _ _ _ _ (ne_block d3), World.cell?_setCell_other _ _ _ _ (ne_off (by omega))]; exact q21
end Go.Proofs.Qxb6000793a
