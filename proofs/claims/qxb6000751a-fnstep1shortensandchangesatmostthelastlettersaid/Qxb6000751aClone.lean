/-
  The walks of cloneBytes, sameBytes and the bound on length.
-/
import Derived.Test.Qxb6000751aBase
import Derived.Laws.IdiomCopy
import Derived.ChangeSlices
namespace Go.Proofs.Qxb6000751a
open Go.RowKit

/-- It answers; if yes, then S; nothing has turned. -/
def BEnd (S : Prop) (w : World) (e : Ending) (w' : World) : Prop := ∃ bb, e = .returned (.bool bb) ∧ (bb = true → S) ∧ w' = w
theorem bend_false {S : Prop} {w : World} : BEnd S w (.returned (.bool false)) w := ⟨false, rfl, fun e => (by cases e), rfl⟩
theorem bend_true {S : Prop} {w : World} (h : S) : BEnd S w (.returned (.bool true)) w := ⟨true, rfl, fun _ => h, rfl⟩
theorem bytes_any (a : Option Addr) (n c : Nat) (w : World) (h : n ≤ maxLen) :
    Calls Try.prog 18 #[.slice a n c] w fun e w' => BEnd (n ≤ 1048576) w e w' := by
  unfold maxLen at h
  go_enter Try.func18, Try.ntmps18
  go_wp2
  all_goals (go_ret; first | exact bend_false | exact bend_true (by omega))

theorem clone_nil (w : World) : Calls Try.prog 13 #[.slice none 0 0] w fun e w' => e = .returned (.slice none 0 0) ∧ w' = w := by
  have hnil : ∀ W, (binOp .eql 22 (.slice none 0 0) (.slice none 0 0)).run Try.prog W = .ok (.bool true) W := fun W => Lib.run_eql_slice_nil W _ _ none 0 0 0 0 Try.underlying22
  go_enter Try.func13, Try.ntmps13
  go_wp2
  go_ret
  exact ⟨rfl, rfl⟩

def mk22 (W : World) (n : Nat) : World := W.alloc (.cells (madeCells #[.int .u8 0] n) 5)
theorem mk22_size (W : World) (n : Nat) : (mk22 W n).heap.size = W.heap.size + 1 := by simp [mk22]
theorem mk22_own (W : World) (n : Nat) : Own (mk22 W n) W.heap.size n (fun _ => .int .u8 0) := made_own W _ _ n
theorem mk22_below (W : World) (n : Nat) : Below W.heap.size W (mk22 W n) := below_alloc W _

theorem below_setCells {B : Nat} : ∀ (vs : List Value) (w : World) (b n : Nat), B ≤ b → Below B w (w.setCells b n vs)
  | [], w, b, n, _ => Below.refl _ _
  | v :: vs, w, b, n, h => by
    rw [World.setCells]
    exact ((Below.refl B w).setCell (p := ⟨b, n, none⟩) h v).trans (below_setCells vs _ b (n + 1) h)
theorem size_setCells : ∀ (vs : List Value) (w : World) (b n : Nat), (w.setCells b n vs).heap.size = w.heap.size
  | [], w, b, n => rfl
  | v :: vs, w, b, n => by rw [World.setCells, size_setCells vs, World.size_setCell]

set_option maxHeartbeats 1000000 in
theorem clone_at (b off n cap : Nat) (G : Nat → Int) (w : World) (hR : Reads w b off n (nums .u8 G)) (h0 : 0 < n) (hn : n ≤ 4096) :
    Calls Try.prog 13 #[.slice (some ⟨b, off, none⟩) n cap] w fun e w' => e = .returned (.slice (some ⟨w.heap.size, 0, none⟩) n n) ∧ Own w' w.heap.size n (nums .u8 G) ∧ Below w.heap.size w w' ∧ w'.heap.size = w.heap.size + 1 := by
  have hnil : ∀ W, (binOp .eql 22 (.slice (some ⟨b, off, none⟩) n cap) (.slice none 0 0)).run Try.prog W = .ok (.bool false) W := fun W => Lib.run_eql_slice_nil W _ _ (some ⟨b, off, none⟩) n cap 0 0 Try.underlying22
  have hmk : ∀ W, (Instr.makeSlice 22 (.int .i64 (n : Int)) (.int .i64 (n : Int))).run Try.prog W = .ok (.slice (some ⟨W.heap.size, 0, none⟩) n n) (mk22 W n) := make22 n (by omega)
  have hb : b < w.heap.size := hR.lt h0
  have OM := mk22_own w n
  have BM := mk22_below w n
  have ZM := mk22_size w n
  have hcp : (Builtin.copy_ #[22, 22] 3 #[.slice (some ⟨w.heap.size, 0, none⟩) n n, .slice (some ⟨b, off, none⟩) n cap]).run Try.prog (mk22 w n) = .ok (.int .i64 (n : Int)) ((mk22 w n).setCells w.heap.size 0 ((List.range n).map (nums .u8 G))) := by
    have h := run_copy_cells (P := Try.prog) (mk22 w n) 22 22 3 5 w.heap.size 0 n n ⟨b, off, none⟩ n cap ((List.range n).map (nums .u8 G)) Try.underlying22 (by kernel_rfl) (by simp)
      (fun j v hv => by
        rw [Addr.add_lit, BM.cell (p := ⟨b, off + j, none⟩) hb]
        have hj : j < n := by
          rcases Nat.lt_or_ge j n with e | e
          · exact e
          · rw [List.getElem?_eq_none (by simpa using e)] at hv; cases hv
        rw [List.getElem?_map, List.getElem?_range hj] at hv
        rw [← hv]
        exact hR j hj)
      (fun j hj => by rw [Nat.zero_add, (OM j (by simpa using hj)).1]; rfl) (fun j hj => by rw [Nat.zero_add]; exact (OM j (by simpa using hj)).2)
      (fun v hv => by
        obtain ⟨j, _, rfl⟩ := List.mem_map.1 hv
        rfl)
    simpa [goInt] using h
  have OC : Own ((mk22 w n).setCells w.heap.size 0 ((List.range n).map (nums .u8 G))) w.heap.size n (nums .u8 G) := by
    have hc : ∀ j, j < n → ((mk22 w n).setCells w.heap.size 0 ((List.range n).map (nums .u8 G))).cell? ⟨w.heap.size, 0 + j, none⟩ = some (nums .u8 G j) := fun j hj => by
      rw [World.cell?_setCells_in w.heap.size _ 0 (mk22 w n) (fun i hi => by rw [Nat.zero_add, (OM i (by simpa using hi)).1]; rfl) j (by simpa using hj)]
      simp
    intro j hj
    refine ⟨by have := hc j hj; rwa [Nat.zero_add] at this, by rw [World.frozen?_setCells]; exact (OM j hj).2⟩
  have BC : Below w.heap.size (mk22 w n) ((mk22 w n).setCells w.heap.size 0 ((List.range n).map (nums .u8 G))) := below_setCells _ _ _ _ (Nat.le_refl _)
  have ZC : ((mk22 w n).setCells w.heap.size 0 ((List.range n).map (nums .u8 G))).heap.size = w.heap.size + 1 := by rw [size_setCells, ZM]
  generalize (mk22 w n).setCells w.heap.size 0 ((List.range n).map (nums .u8 G)) = wc at hcp OC BC ZC
  go_enter Try.func13, Try.ntmps13
  go_wp2
  go_ret
  exact ⟨rfl, OC, BM.trans BC, ZC⟩

set_option maxHeartbeats 1000000 in
theorem clone_zero (x : Addr) (cap : Nat) (w : World) :
    Calls Try.prog 13 #[.slice (some x) 0 cap] w fun e w' => e = .returned (.slice (some ⟨w.heap.size, 0, none⟩) 0 0) ∧ Below w.heap.size w w' ∧ w'.heap.size = w.heap.size + 1 := by
  have hnil : ∀ W, (binOp .eql 22 (.slice (some x) 0 cap) (.slice none 0 0)).run Try.prog W = .ok (.bool false) W := fun W => Lib.run_eql_slice_nil W _ _ (some x) 0 cap 0 0 Try.underlying22
  have hmk : ∀ W, (Instr.makeSlice 22 (.int .i64 0) (.int .i64 0)).run Try.prog W = .ok (.slice (some ⟨W.heap.size, 0, none⟩) 0 0) (mk22 W 0) := make22 0 (by omega)
  have hcp : ∀ W, (Builtin.copy_ #[22, 22] 3 #[.slice (some ⟨w.heap.size, 0, none⟩) 0 0, .slice (some x) 0 cap]).run Try.prog W = .ok (.int .i64 0) W := fun W => run_copy_none (P := Try.prog) W 22 22 3 5 _ _ 0 0 0 cap Try.underlying22 (by kernel_rfl) rfl
  have BM := mk22_below w 0
  have ZM := mk22_size w 0
  go_enter Try.func13, Try.ntmps13
  go_wp2
  go_ret
  exact ⟨rfl, BM, ZM⟩

/-- The clone of any slice of bytes. -/
theorem clone_any (a : Option Addr) (n cap : Nat) (G : Nat → Int) (w : World) (hR : Row w a n (nums .u8 G)) (hnil : a = none → n = 0 ∧ cap = 0) (hn : n ≤ 4096) :
    Calls Try.prog 13 #[.slice a n cap] w fun e w' => ∃ a', e = .returned (.slice a' n n) ∧ (a' = none → n = 0) ∧ Below w.heap.size w w' ∧ Mine w' w.heap.size w'.heap.size a' n (nums .u8 G) := by
  cases a with
  | none =>
    obtain ⟨rfl, rfl⟩ := hnil rfl
    refine (clone_nil w).mono ?_
    rintro e w' ⟨rfl, rfl⟩
    exact ⟨none, rfl, fun _ => rfl, Below.refl _ _, Or.inl rfl⟩
  | some x =>
    by_cases h0 : n = 0
    · subst h0
      refine (clone_zero x cap w).mono ?_
      rintro e w' ⟨rfl, h1, h2⟩
      exact ⟨_, rfl, fun _ => rfl, h1, Or.inl rfl⟩
    · obtain ⟨b, off, e, h⟩ := hR.get (by omega)
      cases e
      refine (clone_at b off n cap G w h (by omega) hn).mono ?_
      rintro e w' ⟨rfl, h1, h2, h3⟩
      exact ⟨_, rfl, fun e => (by cases e), h2, Or.inr ⟨_, rfl, Nat.le_refl _, by omega, h1⟩⟩

set_option maxHeartbeats 1000000 in
/-- Two rows that read the same are the same. -/
theorem same_yes (a b : Option Addr) (n c d : Nat) (G H : Nat → Int) (w : World) (r0 : Row w a n (nums .u8 G)) (r1 : Row w b n (nums .u8 H)) (hn : n ≤ 4096) (he : ∀ j, j < n → G j = H j) :
    Calls Try.prog 20 #[.slice a n c, .slice b n d] w fun e w' => e = .returned (.bool true) ∧ ∃ q, w' = w.drewN q := by
  have HE : Hid (∀ j, j < n → G j = H j) := he
  clear he
  have hd0 : ((n : Int) != n) = false := by simp
  go_enter Try.func20, Try.ntmps20
  go_wp2
  go_loopw [5] (fun sk wr => ∃ k q : Nat, k ≤ n ∧ sk = .int .i64 k ∧ wr = w.drewN q) (fun sk _ => n - (intOf sk).toNat)
  case atStart => exact ⟨0, 0, Nat.zero_le _, rfl, rfl⟩
  case round =>
    obtain ⟨k, q, hk, rfl, rfl⟩ := hrel
    by_cases hlt : k < n
    · obtain ⟨b0, f0, rfl, R0⟩ := r0.get (by omega)
      obtain ⟨b1, f1, rfl, R1⟩ := r1.get (by omega)
      have hlt' : (k : Int) < n := by omega
      have c0 := R0 k hlt
      have c1 := R1 k hlt
      rw [nums_at] at c0 c1
      rw [← HE.out k hlt] at c1
      obtain ⟨x, hx⟩ : ∃ x, G k = x := ⟨_, rfl⟩
      rw [hx] at c0 c1
      have hdx : (x != x) = false := by simp
      clear hx
      go_wp2_with fail
      go_quiet (fail)
      go_wp2
      go_roundw
      case rel => exact ⟨k + 1, _, by omega, by go_num, rfl⟩
      case measure => simp [intOf]; omega
    · have hge : ¬ (k : Int) < n := by omega
      go_wp2
      go_ret
      exact ⟨rfl, q, rfl⟩
end Go.Proofs.Qxb6000751a
