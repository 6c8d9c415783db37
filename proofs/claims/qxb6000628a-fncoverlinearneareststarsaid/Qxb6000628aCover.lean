/-
  The walk of (*globProgram).cover.
-/
import Derived.Test.Qxb6000628aSlash
import Derived.BigRegion
import Derived.Deep.CutBlock
namespace Go.Proofs.Qxb6000628a
open Go.RowKit

/-- The world with a new row of n zero numbers. -/
def mk32 (W : World) (n : Nat) : World := W.alloc (.cells (madeCells #[.int .i32 0] n) 21)
def mk64 (W : World) (n : Nat) : World := W.alloc (.cells (madeCells #[.int .i64 0] n) 3)
theorem mk32_size (W : World) (n : Nat) : (mk32 W n).heap.size = W.heap.size + 1 := by simp [mk32]
theorem mk64_size (W : World) (n : Nat) : (mk64 W n).heap.size = W.heap.size + 1 := by simp [mk64]
theorem mk32_own (W : World) (n : Nat) : Own (mk32 W n) W.heap.size n (fun _ => .int .i32 0) := made_own W _ _ n
theorem mk64_own (W : World) (n : Nat) : Own (mk64 W n) W.heap.size n (fun _ => .int .i64 0) := made_own W _ _ n
theorem mk32_below (W : World) (n : Nat) : Below W.heap.size W (mk32 W n) := below_alloc W _
theorem mk64_below (W : World) (n : Nat) : Below W.heap.size W (mk64 W n) := below_alloc W _

/-- The instructions as they lie in block ib, their covers cv. -/
structure Insts (w : World) (ib n : Nat) (op arg cv : Nat → Int) : Prop where
  op : ∀ i, i < n → w.cell? ⟨ib, i * 4, none⟩ = some (.int .u8 (op i))
  arg : ∀ i, i < n → w.cell? ⟨ib, i * 4 + 1, none⟩ = some (.int .i32 (arg i))
  cov : ∀ i, i < n → w.cell? ⟨ib, i * 4 + 3, none⟩ = some (.int .i32 (cv i))
  free : ∀ i, i < n → w.frozen? ⟨ib, i * 4 + 3, none⟩ = false

/-- Below block B all is as it was but for block x. -/
structure Kept (x B : Nat) (w w' : World) : Prop where
  os : w'.os = w.os
  tape : w'.tape = w.tape
  output : w'.output = w.output
  size : w.heap.size ≤ w'.heap.size
  block : ∀ k, k < B → k ≠ x → w'.heap[k]? = w.heap[k]?
theorem Kept.of_below {x B : Nat} {w w' : World} (h : Below B w w') : Kept x B w w' := ⟨h.os, h.tape, h.output, h.size, fun k hk _ => h.block k hk⟩
theorem Kept.trans {x B : Nat} {a b c : World} (h : Kept x B a b) (k : Kept x B b c) : Kept x B a c :=
  ⟨k.os.trans h.os, k.tape.trans h.tape, k.output.trans h.output, Nat.le_trans h.size k.size, fun i hi hx => (k.block i hi hx).trans (h.block i hi hx)⟩
theorem Kept.setCell {x B : Nat} {a b : World} (h : Kept x B a b) {p : Addr} (hp : p.block = x ∨ B ≤ p.block) (v : Value) : Kept x B a (b.setCell p v) :=
  h.trans ⟨rfl, rfl, rfl, by simp, fun k hk hx => Below.heap_setCell _ _ _ _ (by omega)⟩
theorem Kept.drewN {x B : Nat} {a b : World} (h : Kept x B a b) (n : Nat) : Kept x B a (b.drewN n) := ⟨h.os, h.tape, h.output, h.size, h.block⟩
theorem Kept.cell {x B : Nat} {w w' : World} (h : Kept x B w w') {p : Addr} (hp : p.block < B) (hx : p.block ≠ x) : w'.cell? p = w.cell? p := World.cell?_of_block (w := w) (h.block p.block hp hx)
theorem Kept.below {x B C : Nat} {w w' : World} (h : Kept x B w w') (hC : C ≤ B) (hx : C ≤ x) : Below C w w' :=
  ⟨h.os, h.tape, h.output, h.size, fun k hk => h.block k (by omega) (by omega)⟩

theorem Insts.congr {w : World} {ib n : Nat} {op arg cv cv' : Nat → Int} (h : Insts w ib n op arg cv) (e : ∀ i, i < n → cv i = cv' i) : Insts w ib n op arg cv' :=
  ⟨h.op, h.arg, fun i hi => by rw [← e i hi]; exact h.cov i hi, h.free⟩
theorem Insts.below {B : Nat} {w w' : World} {ib n : Nat} {op arg cv : Nat → Int} (h : Insts w ib n op arg cv) (hB : Below B w w') (hb : ib < B) : Insts w' ib n op arg cv :=
  ⟨fun i hi => by rw [hB.cell (p := ⟨ib, i * 4, none⟩) hb]; exact h.op i hi, fun i hi => by rw [hB.cell (p := ⟨ib, i * 4 + 1, none⟩) hb]; exact h.arg i hi,
   fun i hi => by rw [hB.cell (p := ⟨ib, i * 4 + 3, none⟩) hb]; exact h.cov i hi, fun i hi => by rw [hB.frozen (p := ⟨ib, i * 4 + 3, none⟩) hb]; exact h.free i hi⟩
theorem Insts.other {w : World} {ib n : Nat} {op arg cv : Nat → Int} (h : Insts w ib n op arg cv) {p : Addr} (hp : p.block ≠ ib) (v : Value) : Insts (w.setCell p v) ib n op arg cv := by
  have hc : ∀ o, (w.setCell p v).cell? ⟨ib, o, none⟩ = w.cell? ⟨ib, o, none⟩ := fun o => World.cell?_setCell_other _ _ _ _ (by intro e; exact hp (by rw [e]))
  exact ⟨fun i hi => by rw [hc]; exact h.op i hi, fun i hi => by rw [hc]; exact h.arg i hi, fun i hi => by rw [hc]; exact h.cov i hi, fun i hi => by rw [World.frozen?_setCell]; exact h.free i hi⟩
theorem Insts.drewN {w : World} {ib n : Nat} {op arg cv : Nat → Int} (h : Insts w ib n op arg cv) (q : Nat) : Insts (w.drewN q) ib n op arg cv := ⟨h.op, h.arg, h.cov, h.free⟩
theorem Insts.set {w : World} {ib n : Nat} {op arg cv : Nat → Int} (h : Insts w ib n op arg cv) {i : Nat} (hi : i < n) (c : Int) : Insts (w.setCell ⟨ib, i * 4 + 3, none⟩ (.int .i32 c)) ib n op arg (fun j => if j = i then c else cv j) := by
  refine ⟨fun j hj => ?_, fun j hj => ?_, fun j hj => ?_, fun j hj => by rw [World.frozen?_setCell]; exact h.free j hj⟩
  · rw [World.cell?_setCell_other _ _ _ _ (ne_off (by omega))]; exact h.op j hj
  · rw [World.cell?_setCell_other _ _ _ _ (ne_off (by omega))]; exact h.arg j hj
  · by_cases e : j = i
    · subst e
      rw [if_pos rfl]
      exact World.cell?_setCell_same _ _ _ (h.cov j hj)
    · rw [if_neg e, World.cell?_setCell_other _ _ _ _ (ne_off (by omega))]
      exact h.cov j hj

/-- The stars from index z + 1 on are reckoned. -/
structure CvSt (w w' : World) (b1 ib n : Nat) (op arg cv : Nat → Int) (sl : Nat → Bool) (z : Int) : Prop where
  star : Own w' b1 (n + 1) (nums .i32 (fun j => if z < j then st op sl n j else 0))
  dbl : Own w' (b1 + 1) (n + 1) (nums .i32 (fun j => if z < j then ds op n j else 0))
  insts : Insts w' ib n op arg (fun j => if z < j then cov op sl n j else cv j)
  kept : Kept ib b1 w w'
/-- The same in the midst of round i: a and d lie at i. -/
structure CvMid (w w' : World) (b1 ib n : Nat) (op arg cv : Nat → Int) (sl : Nat → Bool) (i : Nat) (a d : Int) : Prop where
  star : Own w' b1 (n + 1) (upd (nums .i32 (fun j => if (i : Int) < j then st op sl n j else 0)) i (.int .i32 a))
  dbl : Own w' (b1 + 1) (n + 1) (upd (nums .i32 (fun j => if (i : Int) < j then ds op n j else 0)) i (.int .i32 d))
  insts : Insts w' ib n op arg (fun j => if (i : Int) < j then cov op sl n j else cv j)
  kept : Kept ib b1 w w'

theorem upd_upd (V : Nat → Value) (i : Nat) (x y : Value) : upd (upd V i x) i y = upd V i y := by
  funext t; unfold upd; split <;> rfl

section
variable {w w' : World} {b1 ib n : Nat} {op arg cv : Nat → Int} {sl : Nat → Bool}
theorem CvSt.mid {i : Nat} (h : CvSt w w' b1 ib n op arg cv sl i) (hi : i < n) (hib : ib < b1) (a d : Int) :
    CvMid w ((w'.setCell ⟨b1, i, none⟩ (.int .i32 a)).setCell ⟨b1 + 1, i, none⟩ (.int .i32 d)) b1 ib n op arg cv sl i a d :=
  ⟨(h.star.set (by omega) _).other (by simp) _, (h.dbl.other (by simp) _).set (by omega) _, (h.insts.other (by simp; omega) _).other (by simp; omega) _,
   (h.kept.setCell (Or.inr (Nat.le_refl _)) _).setCell (Or.inr (by simp)) _⟩
theorem CvMid.drewN {i : Nat} {a d : Int} (h : CvMid w w' b1 ib n op arg cv sl i a d) (q : Nat) : CvMid w (w'.drewN q) b1 ib n op arg cv sl i a d :=
  ⟨h.star.drewN q, h.dbl.drewN q, h.insts.drewN q, h.kept.drewN q⟩
theorem CvMid.setS {i : Nat} {a d : Int} (h : CvMid w w' b1 ib n op arg cv sl i a d) (hi : i < n) (hib : ib < b1) (a' : Int) : CvMid w (w'.setCell ⟨b1, i, none⟩ (.int .i32 a')) b1 ib n op arg cv sl i a' d := by
  refine ⟨?_, h.dbl.other (by simp) _, h.insts.other (by simp; omega) _, h.kept.setCell (Or.inr (Nat.le_refl _)) _⟩
  have := h.star.set (i := i) (by omega) (.int .i32 a')
  rw [upd_upd] at this
  exact this
theorem CvMid.setD {i : Nat} {a d : Int} (h : CvMid w w' b1 ib n op arg cv sl i a d) (hi : i < n) (hib : ib < b1) (d' : Int) : CvMid w (w'.setCell ⟨b1 + 1, i, none⟩ (.int .i32 d')) b1 ib n op arg cv sl i a d' := by
  refine ⟨h.star.other (by simp) _, ?_, h.insts.other (by simp; omega) _, h.kept.setCell (Or.inr (by simp)) _⟩
  have := h.dbl.set (i := i) (by omega) (.int .i32 d')
  rw [upd_upd] at this
  exact this
theorem CvMid.fin {i : Nat} {a d c : Int} (h : CvMid w w' b1 ib n op arg cv sl i a d) (hi : i < n) (hib : ib < b1) (ha : a = st op sl n i) (hd : d = ds op n i) (hc : c = cov op sl n i) :
    CvSt w (w'.setCell ⟨ib, i * 4 + 3, none⟩ (.int .i32 c)) b1 ib n op arg cv sl ((i : Int) - 1) := by
  refine ⟨(h.star.other (by simp; omega) _).congr ?_, (h.dbl.other (by simp; omega) _).congr ?_, (h.insts.set hi c).congr ?_, h.kept.setCell (Or.inl rfl) _⟩
  · intro j hj
    by_cases e : j = i
    · subst e; rw [upd_same, nums_at, if_pos (by omega), ha]
    · rw [upd_other _ _ _ _ e, nums_at, nums_at]
      by_cases e2 : (i : Int) < j
      · rw [if_pos e2, if_pos (by omega)]
      · rw [if_neg e2, if_neg (by omega)]
  · intro j hj
    by_cases e : j = i
    · subst e; rw [upd_same, nums_at, if_pos (by omega), hd]
    · rw [upd_other _ _ _ _ e, nums_at, nums_at]
      by_cases e2 : (i : Int) < j
      · rw [if_pos e2, if_pos (by omega)]
      · rw [if_neg e2, if_neg (by omega)]
  · intro j hj
    by_cases e : j = i
    · subst e; rw [if_pos rfl, if_pos (by omega), hc]
    · rw [if_neg e]
      by_cases e2 : (i : Int) < j
      · rw [if_pos e2, if_pos (by omega)]
      · rw [if_neg e2, if_neg (by omega)]
end

set_option maxHeartbeats 8000000 in
set_option maxRecDepth 1000000 in
theorem cover_any (gb ib cb n m : Nat) (op arg cv : Nat → Int) (A : Nat → Option Addr) (L C : Nat → Nat) (G : Nat → Nat → Int) (sl : Nat → Bool) (w : World) (hn : n ≤ 65536)
    (g0 : w.cell? ⟨gb, 0, none⟩ = some (.slice (some ⟨ib, 0, none⟩) n n)) (g1 : w.cell? ⟨gb, 1, none⟩ = some (.slice (some ⟨cb, 0, none⟩) m m)) (hgb : gb < w.heap.size) (hib : ib < w.heap.size) (hgi : gb ≠ ib) (hci : cb ≠ ib)
    (u : World) (hu : Below u.heap.size u w) (hui : u.heap.size ≤ ib) (hcell : ∀ r, r < m → w.cell? ⟨cb, r, none⟩ = some (sls A L C r)) (hin : ∀ r, r < m → Row u (A r) (L r) (nums .i32 (G r))) (hbare : ∀ r, r < m → A r = none → L r = 0 ∧ C r = 0) (hrng : ∀ r, r < m → ∀ j, j < L r → -2147483648 ≤ G r j ∧ G r j ≤ 2147483647)
    (hI : Insts w ib n op arg cv) (hL : ∀ r, r < m → L r ≤ 1048576) (hW : ∀ r, r < m → WF (G r) (L r)) (hS : SlOk n m op arg L G sl) (hops : ∀ i, i < n → op i = 0 ∨ op i = 1 ∨ op i = 2 ∨ op i = 3 ∨ op i = 6) :
    Calls Try.prog 52 #[.pointer (some ⟨gb, 0, none⟩)] w fun e w' => e = .returned (.tuple #[]) ∧ Insts w' ib n op arg (cov op sl n) ∧ Kept ib w.heap.size w w' := by
  have mk1 : ∀ W, (Instr.makeSlice 54 (.int .i64 ((n : Int) + 1)) (.int .i64 ((n : Int) + 1))).run Try.prog W = .ok (.slice (some ⟨W.heap.size, 0, none⟩) (n + 1) (n + 1)) (mk32 W (n + 1)) := fun W => make54 (n + 1) (by omega) W
  have mk2 : ∀ W, (Instr.makeSlice 32 (.int .i64 ((n : Int) + 1)) (.int .i64 ((n : Int) + 1))).run Try.prog W = .ok (.slice (some ⟨W.heap.size, 0, none⟩) (n + 1) (n + 1)) (mk64 W (n + 1)) := fun W => make32 (n + 1) (by omega) W
  have sz := mk32_size
  have hn' : (n : Int) < (n : Int) + 1 := by omega
  have HCL : Hid (∀ W, Kept ib w.heap.size w W → Cls W (some ⟨cb, 0, none⟩) m A L C G) := fun W hK => by
    have hbu : Below u.heap.size u W := hu.trans (hK.below (by have := hu.size; omega) hui)
    refine ⟨?_, fun r hr => (hin r hr).below hbu (Nat.le_refl _), hbare, hrng⟩
    by_cases hm : m = 0
    · exact Or.inl hm
    · refine Or.inr ⟨cb, 0, rfl, fun j hj => ?_⟩
      rw [Nat.zero_add, hK.cell (p := ⟨cb, j, none⟩) (World.block_lt_of_cell? w ⟨cb, j, none⟩ (hcell j hj)) hci]
      exact hcell j hj
  have HOP : Hid (∀ i, i < n → op i = 0 ∨ op i = 1 ∨ op i = 2 ∨ op i = 3 ∨ op i = 6) := hops
  clear hu hui hcell hin hbare hrng hops
  go_enter Try.func52, Try.ntmps52
  go_upto_region 3 with fail
  clear mk1
  -- the two rows of stars
  obtain ⟨b1, hb1⟩ : ∃ b1, w.heap.size = b1 := ⟨_, rfl⟩
  have HB1 : Hid (w.heap.size = b1) := hb1
  have B2 : Below w.heap.size w (mk32 (mk32 w (n + 1)) (n + 1)) := (mk32_below w (n + 1)).trans ((mk32_below (mk32 w (n + 1)) (n + 1)).mono (by rw [mk32_size]; omega))
  have O1 : Own (mk32 (mk32 w (n + 1)) (n + 1)) w.heap.size (n + 1) (fun _ => .int .i32 0) := (mk32_own w (n + 1)).below (mk32_below _ _) (by rw [mk32_size]; omega)
  have O2 : Own (mk32 (mk32 w (n + 1)) (n + 1)) (w.heap.size + 1) (n + 1) (fun _ => .int .i32 0) := by
    have := mk32_own (mk32 w (n + 1)) (n + 1)
    rw [mk32_size] at this
    exact this
  have z2 : (mk32 (mk32 w (n + 1)) (n + 1)).heap.size = w.heap.size + 2 := by rw [mk32_size, mk32_size]
  generalize mk32 (mk32 w (n + 1)) (n + 1) = w2 at B2 O1 O2 z2 ⊢
  rw [hb1] at B2 O1 O2 z2 hgb hib HCL ⊢
  clear hb1 sz
  obtain ⟨c1, f1⟩ := O1 n (by omega)
  obtain ⟨c2, f2⟩ := O2 n (by omega)
  have c2' : (w2.setCell ⟨b1, n, none⟩ (.int .i32 (-1))).cell? ⟨b1 + 1, n, none⟩ = some (.int .i32 0) := by rw [World.cell?_setCell_other _ _ _ _ (ne_block (by omega))]; exact c2
  go_upto_region 5 with fail
  clear c1 f1 c2 f2 c2' mk2
  have W3 : ∃ w3, mk64 ((w2.setCell ⟨b1, n, none⟩ (.int .i32 (-1))).setCell ⟨b1 + 1, n, none⟩ (.int .i32 (-1))) (n + 1) = w3 := ⟨_, rfl⟩
  obtain ⟨w3, hw3⟩ := W3
  have zs : ((w2.setCell ⟨b1, n, none⟩ (.int .i32 (-1))).setCell ⟨b1 + 1, n, none⟩ (.int .i32 (-1))).heap.size = b1 + 2 := by simp [z2]
  have BM := mk64_below ((w2.setCell ⟨b1, n, none⟩ (.int .i32 (-1))).setCell ⟨b1 + 1, n, none⟩ (.int .i32 (-1))) (n + 1)
  have OM := mk64_own ((w2.setCell ⟨b1, n, none⟩ (.int .i32 (-1))).setCell ⟨b1 + 1, n, none⟩ (.int .i32 (-1))) (n + 1)
  have ZM := mk64_size ((w2.setCell ⟨b1, n, none⟩ (.int .i32 (-1))).setCell ⟨b1 + 1, n, none⟩ (.int .i32 (-1))) (n + 1)
  rw [zs, hw3] at BM OM ZM
  rw [hw3]
  have T0 : Own w3 (b1 + 2) (n + 1) (nums .i64 (fun _ => 0)) := OM
  have S0 : Own w3 b1 (n + 1) (nums .i32 (fun j => if n ≤ j then st op sl n j else 0)) := by
    refine ((((O1.set (i := n) (by omega) _).other (by simp) _).below BM (by omega))).congr ?_
    intro j hj
    by_cases e : j = n
    · subst e; rw [upd_same, nums_at, if_pos (Nat.le_refl _), st_end]
    · rw [upd_other _ _ _ _ e, nums_at, if_neg (by omega)]
  have D0 : Own w3 (b1 + 1) (n + 1) (nums .i32 (fun j => if n ≤ j then ds op n j else 0)) := by
    refine ((((O2.other (p := ⟨b1, n, none⟩) (by simp) _).set (i := n) (by omega) _).below BM (by omega))).congr ?_
    intro j hj
    by_cases e : j = n
    · subst e; rw [upd_same, nums_at, if_pos (Nat.le_refl _), ds_end]
    · rw [upd_other _ _ _ _ e, nums_at, if_neg (by omega)]
  have B3 : Below b1 w w3 := (((B2.setCell (Nat.le_refl _) _).setCell (by simp) _)).trans (BM.mono (by omega))
  clear hw3 zs BM OM B2 O1 O2 z2
  have q0 : w3.cell? ⟨gb, 0, none⟩ = some (.slice (some ⟨ib, 0, none⟩) n n) := by rw [B3.cell (p := ⟨gb, 0, none⟩) hgb]; exact g0
  go_wp2
  go_loopw [38] (fun s38 wr => ∃ (k : Nat) (T : Nat → Int), k ≤ n ∧ s38 = .int .i64 k ∧ Own wr (b1 + 2) (n + 1) (nums .i64 T) ∧ Hid (∀ j, j ≤ k → 0 ≤ T j ∧ T j ≤ j) ∧ Below (b1 + 2) w3 wr ∧ wr.heap.size = b1 + 3) (fun s38 _ => n - (intOf s38).toNat)
  case atStart => exact ⟨0, _, Nat.zero_le _, rfl, T0, fun j hj => by omega, Below.refl _ _, ZM⟩
  case round =>
    obtain ⟨k, T, hk, rfl, hT, hTb, hBr, hz⟩ := hrel
    rename World => wr
    have hBw : Below b1 w wr := B3.trans (hBr.mono (by omega))
    by_cases hlt : k < n
    · have hlt' : (k : Int) < n := by omega
      have q0 : wr.cell? ⟨gb, 0, none⟩ = some (.slice (some ⟨ib, 0, none⟩) n n) := by rw [hBw.cell (p := ⟨gb, 0, none⟩) hgb]; exact g0
      have ck := (hT k (by omega)).1
      obtain ⟨ck1, fk1⟩ := hT (k + 1) (by omega)
      rw [nums_at] at ck ck1
      have tb := hTb.out k (Nat.le_refl _)
      obtain ⟨t, ht⟩ : ∃ t, T k = t := ⟨_, rfl⟩
      obtain ⟨t1, ht1⟩ : ∃ t, T (k + 1) = t := ⟨_, rfl⟩
      rw [ht] at ck tb
      rw [ht1] at ck1
      clear ht1
      have HT : Hid (T k = t) := ht
      clear ht
      have p1 : (k : Int) + 1 < (n : Int) + 1 := by omega
      have p0 : (k : Int) < (n : Int) + 1 := by omega
      have q0s : ∀ v, (wr.setCell ⟨b1 + 2, k + 1, none⟩ v).cell? ⟨gb, 0, none⟩ = some (.slice (some ⟨ib, 0, none⟩) n n) := fun v => by rw [World.cell?_setCell_other _ _ _ _ (ne_block (by omega))]; exact q0
      go_wp2_with fail
      have OX := hT.set (i := k + 1) (by omega) (.int .i64 t)
      have BX : Below (b1 + 2) w3 (wr.setCell ⟨b1 + 2, k + 1, none⟩ (.int .i64 t)) := hBr.setCell (Nat.le_refl _) _
      have ZX : (wr.setCell ⟨b1 + 2, k + 1, none⟩ (.int .i64 t)).heap.size = b1 + 3 := by simp [hz]
      have QX := q0s (.int .i64 t)
      generalize wr.setCell ⟨b1 + 2, k + 1, none⟩ (.int .i64 t) = wx at OX BX ZX QX ⊢
      clear q0s q0 ck ck1 fk1
      have BW : Below b1 w wx := B3.trans (BX.mono (by omega))
      have IX := hI.below BW hib
      have CX := HCL.out wx (Kept.of_below BW)
      have gx1 : wx.cell? ⟨gb, 1, none⟩ = some (.slice (some ⟨cb, 0, none⟩) m m) := by rw [BW.cell (p := ⟨gb, 1, none⟩) hgb]; exact g1
      refine (slash_inst gb ib (k * 4) cb n m k op arg A L C G sl wx gx1 hlt (IX.op k hlt) (IX.arg k hlt) CX hL hW hS).mono ?_
      rintro e w' ⟨bb, rfl, _, q, rfl⟩
      obtain ⟨cx0, fx⟩ := OX (k + 1) (by omega)
      have cx : wx.cell? ⟨b1 + 2, k + 1, none⟩ = some (.int .i64 t) := by rw [cx0, upd_same]
      clear cx0 CX IX gx1
      cases bb with
      | false =>
        go_wp2
        go_roundw
        case rel =>
          refine ⟨k + 1, fun j => if j = k + 1 then t else T j, by omega, by go_num, (OX.drewN q).congr ?_, ?_, below_drewN BX, ZX⟩
          · intro j hj
            by_cases e : j = k + 1
            · subst e; rw [upd_same, nums_at, if_pos rfl]
            · rw [upd_other _ _ _ _ e, nums_at, nums_at, if_neg e]
          · intro j hj
            by_cases e : j = k + 1
            · simp only [e, if_true]; omega
            · simp only [e, if_false]; exact hTb.out j (by omega)
        case measure => simp [intOf]; omega
      | true =>
        go_wp2
        go_roundw
        case rel =>
          refine ⟨k + 1, fun j => if j = k + 1 then t + 1 else T j, by omega, by go_num, ((OX.set (i := k + 1) (by omega) (.int .i64 (t + 1))).drewN q).congr ?_, ?_, below_drewN (BX.setCell (Nat.le_refl _) _), by simp [ZX]⟩
          · intro j hj
            by_cases e : j = k + 1
            · subst e; rw [upd_same, nums_at, if_pos rfl]
            · rw [upd_other _ _ _ _ e, upd_other _ _ _ _ e, nums_at, nums_at, if_neg e]
          · intro j hj
            by_cases e : j = k + 1
            · simp only [e, if_true]; omega
            · simp only [e, if_false]; exact hTb.out j (by omega)
        case measure => simp [intOf]; omega
    · have hge : ¬ (k : Int) < n := by omega
      have C0 : CvSt w wr b1 ib n op arg cv sl ((n : Int) - 1) :=
        ⟨(S0.below hBr (by omega)).congr (fun j hj => by
            rw [nums_at, nums_at]
            by_cases e : n ≤ j
            · rw [if_pos e, if_pos (by omega)]
            · rw [if_neg e, if_neg (by omega)]),
         (D0.below hBr (by omega)).congr (fun j hj => by
            rw [nums_at, nums_at]
            by_cases e : n ≤ j
            · rw [if_pos e, if_pos (by omega)]
            · rw [if_neg e, if_neg (by omega)]),
         (hI.below hBw hib).congr (fun j hj => by rw [if_neg (by omega)]), Kept.of_below hBw⟩
      clear S0 D0 T0 hT hTb hBr hBw q0 B3
      go_wp2
      go_loopw [7] (fun s7 wr => ∃ z : Int, -1 ≤ z ∧ z < n ∧ s7 = .int .i64 z ∧ CvSt w wr b1 ib n op arg cv sl z) (fun s7 _ => (intOf s7 + 1).toNat)
      case atStart => exact ⟨(n : Int) - 1, by omega, by omega, by go_num, C0⟩
      case round =>
        obtain ⟨z, hz0, hz1, rfl, hCv⟩ := hrel
        rename World => y
        clear C0
        by_cases hzn : 0 ≤ z
        · obtain ⟨i, rfl⟩ := Int.eq_ofNat_of_zero_le hzn
          have hin : i < n := by omega
          have hzd : decide (0 ≤ (i : Int)) = true := decide_eq_true (by omega)
          have y0 : y.cell? ⟨gb, 0, none⟩ = some (.slice (some ⟨ib, 0, none⟩) n n) := by rw [hCv.kept.cell (p := ⟨gb, 0, none⟩) hgb hgi]; exact g0
          have y1 : y.cell? ⟨gb, 1, none⟩ = some (.slice (some ⟨cb, 0, none⟩) m m) := by rw [hCv.kept.cell (p := ⟨gb, 1, none⟩) hgb hgi]; exact g1
          obtain ⟨s1, _⟩ := hCv.star (i + 1) (by omega)
          obtain ⟨s0, sf⟩ := hCv.star i (by omega)
          obtain ⟨d1, _⟩ := hCv.dbl (i + 1) (by omega)
          obtain ⟨d0, df⟩ := hCv.dbl i (by omega)
          rw [nums_at, if_pos (by omega)] at s1 d1
          rw [nums_at, if_neg (by omega)] at s0 d0
          obtain ⟨xs, hxs⟩ : ∃ x, st op sl n (i + 1) = x := ⟨_, rfl⟩
          obtain ⟨xd, hxd⟩ : ∃ x, ds op n (i + 1) = x := ⟨_, rfl⟩
          rw [hxs] at s1
          rw [hxd] at d1
          have HXS : Hid (st op sl n (i + 1) = xs) := hxs
          have HXD : Hid (ds op n (i + 1) = xd) := hxd
          have io := hCv.insts.op i hin
          have ia := hCv.insts.arg i hin
          have hin' : (i : Int) < n := by omega
          have p1 : (i : Int) + 1 < (n : Int) + 1 := by omega
          have p0 : (i : Int) < (n : Int) + 1 := by omega
          have MID := hCv.mid hin hib xs xd
          clear hxs hxd
          go_wp2_with fail
          go_region
          have Y2 : ∃ y2, World.drew ((y.setCell ⟨b1, i, none⟩ (.int .i32 xs)).setCell ⟨b1 + 1, i, none⟩ (.int .i32 xd)) = y2 := ⟨_, rfl⟩
          obtain ⟨y2, hy2⟩ := Y2
          have M2 : CvMid w y2 b1 ib n op arg cv sl i xs xd := by rw [← hy2]; exact MID.drewN 1
          rw [hy2]
          clear hy2 MID s1 s0 sf d1 d0 df io ia y0 y1
          have io := M2.insts.op i hin
          have ia := M2.insts.arg i hin
          have ic := M2.insts.cov i hin
          have fc := M2.insts.free i hin
          rw [if_neg (by omega)] at ic
          have y0 : y2.cell? ⟨gb, 0, none⟩ = some (.slice (some ⟨ib, 0, none⟩) n n) := by rw [M2.kept.cell (p := ⟨gb, 0, none⟩) hgb hgi]; exact g0
          have y1 : y2.cell? ⟨gb, 1, none⟩ = some (.slice (some ⟨cb, 0, none⟩) m m) := by rw [M2.kept.cell (p := ⟨gb, 1, none⟩) hgb hgi]; exact g1
          obtain ⟨s1, _⟩ := M2.star (i + 1) (by omega)
          obtain ⟨s0, sf⟩ := M2.star i (by omega)
          obtain ⟨d1, _⟩ := M2.dbl (i + 1) (by omega)
          obtain ⟨d0, df⟩ := M2.dbl i (by omega)
          rw [upd_other _ _ _ _ (by omega), nums_at, if_pos (by omega)] at s1 d1
          rw [upd_same] at s0 d0
          rw [HXS.out] at s1
          rw [HXD.out] at d1
          have ops := HOP.out i hin
          have SI := slash_inst gb ib (i * 4) cb n m i op arg A L C G sl y2 y1 hin io ia (HCL.out y2 M2.kept) hL hW hS
          have SI : Hid (Calls Try.prog 54 #[.pointer (some ⟨gb, 0, none⟩), .pointer (some ⟨ib, i * 4, none⟩)] y2 fun e w' => ∃ bb, e = .returned (.bool bb) ∧ (op i = 0 ∨ op i = 1 → bb = sl i) ∧ ∃ q, w' = y2.drewN q) := SI
          obtain ⟨x, hx⟩ : ∃ x, op i = x := ⟨_, rfl⟩
          have HX : Hid (op i = x) := hx
          rw [hx] at io ops
          clear hx
          have nb1 : (⟨b1, i, none⟩ : Addr) ≠ ⟨b1 + 1, i, none⟩ := ne_block (by omega)
          have nb2 : ∀ o, (⟨b1, i, none⟩ : Addr) ≠ ⟨ib, o, none⟩ := fun o => ne_block (by omega)
          have nb3 : ∀ o, (⟨b1 + 1, i, none⟩ : Addr) ≠ ⟨ib, o, none⟩ := fun o => ne_block (by omega)
          have io1 : ∀ v, (y2.setCell ⟨b1, i, none⟩ v).cell? ⟨ib, i * 4, none⟩ = some (.int .u8 x) := fun v => by rw [World.cell?_setCell_other _ _ _ _ (nb2 _)]; exact io
          have ic1 : ∀ v, (y2.setCell ⟨b1, i, none⟩ v).cell? ⟨ib, i * 4 + 3, none⟩ = some (.int .i32 (cv i)) := fun v => by rw [World.cell?_setCell_other _ _ _ _ (nb2 _)]; exact ic
          have s1s : ∀ v, (y2.setCell ⟨b1, i, none⟩ v).cell? ⟨b1, i + 1, none⟩ = some (.int .i32 xs) := fun v => by rw [World.cell?_setCell_other _ _ _ _ (ne_off (by omega))]; exact s1
          have d0s : ∀ v, (y2.setCell ⟨b1, i, none⟩ v).cell? ⟨b1 + 1, i, none⟩ = some (.int .i32 xd) := fun v => by rw [World.cell?_setCell_other _ _ _ _ nb1]; exact d0
          have io2 : ∀ v v', ((y2.setCell ⟨b1, i, none⟩ v).setCell ⟨b1 + 1, i, none⟩ v').cell? ⟨ib, i * 4, none⟩ = some (.int .u8 x) := fun v v' => by rw [World.cell?_setCell_other _ _ _ _ (nb3 _)]; exact io1 v
          have ic2 : ∀ v v', ((y2.setCell ⟨b1, i, none⟩ v).setCell ⟨b1 + 1, i, none⟩ v').cell? ⟨ib, i * 4 + 3, none⟩ = some (.int .i32 (cv i)) := fun v v' => by rw [World.cell?_setCell_other _ _ _ _ (nb3 _)]; exact ic1 v
          have d1s : ∀ v v', ((y2.setCell ⟨b1, i, none⟩ v).setCell ⟨b1 + 1, i, none⟩ v').cell? ⟨b1 + 1, i + 1, none⟩ = some (.int .i32 xd) := fun v v' => by rw [World.cell?_setCell_other _ _ _ _ (ne_off (by omega)), World.cell?_setCell_other _ _ _ _ (ne_block (by omega))]; exact d1
          clear nb1 nb2 nb3 y0 y1 ia hCv hI
          rcases ops with rfl | rfl | rfl | rfl | rfl
          · -- a character
            go_wp2_with fail
            refine SI.out.mono ?_
            rintro e w' ⟨bb, rfl, hbb, q, rfl⟩
            have hbb := hbb (Or.inl HX.out)
            cases bb with
            | false =>
              have FIN := (M2.drewN q).fin (c := -1) hin hib (by rw [st_next op sl n i hin (by rw [HX.out]; omega) (by rw [HX.out]; omega) hbb.symm]; exact HXS.out.symm) (by rw [ds_next op n i hin (by rw [HX.out]; omega)]; exact HXD.out.symm) (by unfold cov; rw [if_neg (by rw [HX.out]; omega), if_neg (by rw [HX.out]; omega)])
              clear hbb SI
              go_wp2
              go_roundw
              case rel => exact ⟨(i : Int) - 1, by omega, by omega, by go_num, FIN⟩
              case measure => simp [intOf]
            | true =>
              have FIN := ((M2.setS hin hib (-1)).drewN q).fin (c := -1) hin hib (by rw [st_slash op sl n i hin (by rw [HX.out]; omega) (by rw [HX.out]; omega) hbb.symm]) (by rw [ds_next op n i hin (by rw [HX.out]; omega)]; exact HXD.out.symm) (by unfold cov; rw [if_neg (by rw [HX.out]; omega), if_neg (by rw [HX.out]; omega)])
              clear hbb SI
              go_wp2
              go_roundw
              case rel => exact ⟨(i : Int) - 1, by omega, by omega, by go_num, FIN⟩
              case measure => simp [intOf]
          · -- a class
            go_wp2_with fail
            refine SI.out.mono ?_
            rintro e w' ⟨bb, rfl, hbb, q, rfl⟩
            have hbb := hbb (Or.inr HX.out)
            cases bb with
            | false =>
              have FIN := (M2.drewN q).fin (c := -1) hin hib (by rw [st_next op sl n i hin (by rw [HX.out]; omega) (by rw [HX.out]; omega) hbb.symm]; exact HXS.out.symm) (by rw [ds_next op n i hin (by rw [HX.out]; omega)]; exact HXD.out.symm) (by unfold cov; rw [if_neg (by rw [HX.out]; omega), if_neg (by rw [HX.out]; omega)])
              clear hbb SI
              go_wp2
              go_roundw
              case rel => exact ⟨(i : Int) - 1, by omega, by omega, by go_num, FIN⟩
              case measure => simp [intOf]
            | true =>
              have FIN := ((M2.setS hin hib (-1)).drewN q).fin (c := -1) hin hib (by rw [st_slash op sl n i hin (by rw [HX.out]; omega) (by rw [HX.out]; omega) hbb.symm]) (by rw [ds_next op n i hin (by rw [HX.out]; omega)]; exact HXD.out.symm) (by unfold cov; rw [if_neg (by rw [HX.out]; omega), if_neg (by rw [HX.out]; omega)])
              clear hbb SI
              go_wp2
              go_roundw
              case rel => exact ⟨(i : Int) - 1, by omega, by omega, by go_num, FIN⟩
              case measure => simp [intOf]
          · -- a star
            have FIN := (M2.setS hin hib i).fin (c := xs) hin hib (by rw [st_star op sl n i hin (Or.inl HX.out)]) (by rw [ds_next op n i hin (by rw [HX.out]; omega)]; exact HXD.out.symm) (by unfold cov; rw [if_pos HX.out]; exact HXS.out.symm)
            clear SI
            go_wp2
            go_roundw
            case rel => exact ⟨(i : Int) - 1, by omega, by omega, by go_num, FIN⟩
            case measure => simp [intOf]
          · -- a double star
            have FIN := ((M2.setS hin hib i).setD hin hib i).fin (c := xd) hin hib (by rw [st_star op sl n i hin (Or.inr HX.out)]) (by rw [ds_star op n i hin HX.out]) (by unfold cov; rw [if_neg (by rw [HX.out]; omega), if_pos HX.out]; exact HXD.out.symm)
            clear SI
            go_wp2
            go_roundw
            case rel => exact ⟨(i : Int) - 1, by omega, by omega, by go_num, FIN⟩
            case measure => simp [intOf]
          · -- the end
            have FIN := M2.fin (c := -1) hin hib (by rw [st_next op sl n i hin (by rw [HX.out]; omega) (by rw [HX.out]; omega) (hS.rest i hin (by rw [HX.out]; omega) (by rw [HX.out]; omega))]; exact HXS.out.symm) (by rw [ds_next op n i hin (by rw [HX.out]; omega)]; exact HXD.out.symm) (by unfold cov; rw [if_neg (by rw [HX.out]; omega), if_neg (by rw [HX.out]; omega)])
            clear SI
            go_wp2
            go_roundw
            case rel => exact ⟨(i : Int) - 1, by omega, by omega, by go_num, FIN⟩
            case measure => simp [intOf]
        · have hzd : decide (0 ≤ z) = false := decide_eq_false hzn
          have hI' : Insts y ib n op arg (cov op sl n) := hCv.insts.congr (fun j hj => by rw [if_pos (by omega)])
          have hK := hCv.kept
          go_wp2
          go_end0
          exact ⟨rfl, hI', by rw [HB1.out]; exact hK⟩
end Go.Proofs.Qxb6000628a
