/-
  The walk of zzCloneRuneSets.
-/
import Derived.Test.Qxb6000628aPrem
import Derived.Test.Qxb6000628aClone
namespace Go.Proofs.Qxb6000628a
open Go.RowKit

theorem Mine.below {B : Nat} {w w' : World} {lo hi n : Nat} {a : Option Addr} {V : Nat → Value} (h : Mine w lo hi a n V) (hB : Below B w w') (hh : hi ≤ B) : Mine w' lo hi a n V := by
  rcases h with h | ⟨b, e, h1, h2, h⟩
  · exact Or.inl h
  · exact Or.inr ⟨b, e, h1, h2, h.below hB (by omega)⟩
theorem Mine.wide {w : World} {lo hi lo' hi' n : Nat} {a : Option Addr} {V : Nat → Value} (h : Mine w lo hi a n V) (h1 : lo' ≤ lo) (h2 : hi ≤ hi') : Mine w lo' hi' a n V := by
  rcases h with h | ⟨b, e, k1, k2, h⟩
  · exact Or.inl h
  · exact Or.inr ⟨b, e, by omega, by omega, h⟩
theorem Mine.other {w : World} {lo hi n : Nat} {a : Option Addr} {V : Nat → Value} (h : Mine w lo hi a n V) {p : Addr} (hp : p.block < lo) (v : Value) : Mine (w.setCell p v) lo hi a n V := by
  rcases h with h | ⟨b, e, k1, k2, h⟩
  · exact Or.inl h
  · exact Or.inr ⟨b, e, k1, k2, h.other (by omega) v⟩

/-- The outer row laid so far, its first k cells filled. -/
structure CSt (w0 w : World) (B n k : Nat) (A : Nat → Option Addr) (L C : Nat → Nat) (G : Nat → Nat → Int) : Prop where
  outer : Own w B n (fun r => if r < k then sls A L C r else .slice none 0 0)
  inner : ∀ r, r < k → Mine w (B + 1) w.heap.size (A r) (L r) (nums .i32 (G r))
  bare : ∀ r, r < k → A r = none → L r = 0 ∧ C r = 0
  below : Below B w0 w
  size : B < w.heap.size

theorem CSt.next {w0 w w1 : World} {B n k : Nat} {A : Nat → Option Addr} {L C : Nat → Nat} {G : Nat → Nat → Int} (h : CSt w0 w B n k A L C G) (hk : k < n) {a' : Option Addr} {c' : Nat}
    (hb : Below w.heap.size w w1) (hm : Mine w1 w.heap.size w1.heap.size a' (L k) (nums .i32 (G k))) (hn : a' = none → L k = 0 ∧ c' = 0) :
    CSt w0 (w1.setCell ⟨B, k, none⟩ (.slice a' (L k) c')) B n (k + 1) (fun r => if r = k then a' else A r) L (fun r => if r = k then c' else C r) G := by
  have hs := h.size
  have hz := hb.size
  refine ⟨?_, ?_, ?_, ?_, by simp; omega⟩
  · refine ((h.outer.below hb hs).set hk _).congr ?_
    intro j hj
    by_cases e : j = k
    · subst e
      rw [upd_same, if_pos (by omega)]
      simp [sls]
    · rw [upd_other _ _ _ _ e]
      by_cases e2 : j < k
      · rw [if_pos e2, if_pos (by omega)]
        simp [sls, e]
      · rw [if_neg e2, if_neg (by omega)]
  · intro r hr
    rw [World.size_setCell]
    by_cases e : r = k
    · subst e
      simp only [if_true]
      exact (hm.wide (by omega) (Nat.le_refl _)).other (by simp) _
    · simp only [e, if_false]
      exact (((h.inner r (by omega)).below hb (Nat.le_refl _)).wide (Nat.le_refl _) hz).other (by simp) _
  · intro r hr
    by_cases e : r = k
    · subst e; simp only [if_true]; exact hn
    · simp only [e, if_false]; exact h.bare r (by omega)
  · exact (h.below.trans (hb.mono (by omega))).setCell (Nat.le_refl _) _

/-- The end: a slice of slices that reads as the old one, nothing old has turned. -/
def SEnd (n : Nat) (L : Nat → Nat) (G : Nat → Nat → Int) (w : World) (e : Ending) (w' : World) : Prop :=
  ∃ a' c' A' C', e = .returned (.slice a' n c') ∧ Below w.heap.size w w' ∧ Cls w' a' n A' L C' G

set_option maxHeartbeats 2000000 in
theorem sets_at (x : Addr) (n cap : Nat) (A : Nat → Option Addr) (L C : Nat → Nat) (G : Nat → Nat → Int) (w : World) (hC : Cls w (some x) n A L C G) (hn : n ≤ 1048576) (hL : ∀ r, r < n → L r ≤ 1048576) :
    Calls Try.prog 36 #[.slice (some x) n cap] w fun e w' => SEnd n L G w e w' := by
  have HL : Hid (∀ r, r < n → L r ≤ 1048576) := hL
  clear hL
  have hnil : ∀ W, (binOp .eql 55 (.slice (some x) n cap) (.slice none 0 0)).run Try.prog W = .ok (.bool false) W := fun W => Lib.run_eql_slice_nil W _ _ (some x) n cap 0 0 Try.underlying55
  have hmk := make55 n (by omega)
  go_enter Try.func36, Try.ntmps36
  go_wp2
  clear hnil hmk
  go_loopw [4] (fun s4 wr => ∃ (k : Nat) (A' : Nat → Option Addr) (C' : Nat → Nat), k ≤ n ∧ s4 = .int .i64 k ∧ CSt w wr w.heap.size n k A' L C' G) (fun s4 _ => n - (intOf s4).toNat)
  case atStart => exact ⟨0, A, C, Nat.zero_le _, rfl, ⟨(made_own w _ _ n).congr (by simp), fun r hr => by omega, fun r hr => by omega, below_alloc w _, by simp⟩⟩
  case round =>
    obtain ⟨k, A', C', hk, rfl, hS⟩ := hrel
    rename World => wr
    by_cases hlt : k < n
    · have hlt' : (k : Int) < n := by omega
      have hC' := hC.below hS.below (Nat.le_refl _)
      obtain ⟨b, off, hx, R⟩ := hC'.outer.get (by omega)
      cases hx
      have ck := R k hlt
      rw [sls_at] at ck
      have hl := HL.out k hlt
      go_wp2_with fail
      refine (clone51_any (A k) (L k) (C k) (G k) wr (hC'.inner k hlt) (hC'.bare k hlt) hl).mono ?_
      rintro e w1 ⟨a', c', rfl, h1, h2, h3, h4⟩
      have NX := hS.next hlt h3 h4 h2
      obtain ⟨co0, fo⟩ := hS.outer.below h3 hS.size k hlt
      have co : w1.cell? ⟨w.heap.size, k, none⟩ = some (.slice none 0 0) := by rw [co0]; simp
      clear h1 h2 h3 h4 co0 ck
      go_wp2
      go_roundw
      case rel => exact ⟨k + 1, _, _, by omega, by go_num, NX⟩
      case measure => simp [intOf]; omega
    · have hge : ¬ (k : Int) < n := by omega
      have HE : Hid (Cls wr (some ⟨w.heap.size, 0, none⟩) n A' L C' G) :=
        ⟨Or.inr ⟨_, _, rfl, (hS.outer.congr (fun j hj => by rw [if_pos (by omega)])).reads⟩, fun r hr => (hS.inner r (by omega)).row, fun r hr => hS.bare r (by omega), hC.rng⟩
      have hB := hS.below
      go_wp2
      go_ret
      exact ⟨_, _, A', C', rfl, hB, HE.out⟩

theorem sets_any (a : Option Addr) (n cap : Nat) (A : Nat → Option Addr) (L C : Nat → Nat) (G : Nat → Nat → Int) (w : World) (hC : Cls w a n A L C G) (hnil : a = none → n = 0 ∧ cap = 0) (hn : n ≤ 1048576) (hL : ∀ r, r < n → L r ≤ 1048576) :
    Calls Try.prog 36 #[.slice a n cap] w fun e w' => SEnd n L G w e w' := by
  cases a with
  | none =>
    obtain ⟨rfl, rfl⟩ := hnil rfl
    have hni : ∀ W, (binOp .eql 55 (.slice none 0 0) (.slice none 0 0)).run Try.prog W = .ok (.bool true) W := fun W => Lib.run_eql_slice_nil W _ _ none 0 0 0 0 Try.underlying55
    clear hnil hL
    go_enter Try.func36, Try.ntmps36
    go_wp2
    go_ret
    exact ⟨none, 0, A, C, rfl, Below.refl _ _, hC⟩
  | some x => exact sets_at x n cap A L C G w hC hn hL
end Go.Proofs.Qxb6000628a
