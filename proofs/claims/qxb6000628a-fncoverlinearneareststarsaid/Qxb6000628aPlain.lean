/-
  The plain law: classes of runes and the nearest star, no Go in sight.
-/
namespace Go.Proofs.Qxb6000628a

/-- Pairs lo <= hi, in order, at least one rune between ranges. -/
structure WF (G : Nat → Int) (L : Nat) : Prop where
  even : L % 2 = 0
  le : ∀ k, 2 * k + 1 < L → G (2 * k) ≤ G (2 * k + 1)
  gap : ∀ k, 2 * k + 2 < L → 2 ≤ G (2 * k + 2) - G (2 * k + 1)

/-- The class holds the slash. -/
def HasSl (G : Nat → Int) (L : Nat) : Prop := ∃ k, 2 * k + 1 < L ∧ G (2 * k) ≤ 47 ∧ 47 ≤ G (2 * k + 1)

theorem WF.lt {G : Nat → Int} {L : Nat} (h : WF G L) (j : Nat) : ∀ k, j < k → 2 * k + 1 < L → G (2 * j + 1) < G (2 * k) := by
  intro k
  induction k with
  | zero => intro h0; omega
  | succ k ih =>
    intro hj hk
    have g := h.gap k (by omega)
    rw [show 2 * (k + 1) = 2 * k + 2 by omega]
    by_cases e : j = k
    · subst e; omega
    · have := ih (by omega) (by omega)
      have := h.le k (by omega)
      omega

/-- The range at i is the first that does not end before the slash: the answer is whether it begins in time. -/
theorem HasSl.at {G : Nat → Int} {L : Nat} (h : WF G L) {i : Nat} (hi : 2 * i + 1 < L) (ha : ∀ k, k < i → G (2 * k + 1) < 47) (he : 47 ≤ G (2 * i + 1)) : HasSl G L ↔ G (2 * i) ≤ 47 := by
  constructor
  · rintro ⟨k, h1, h2, h3⟩
    rcases Nat.lt_trichotomy k i with e | e | e
    · have := ha k e; omega
    · subst e; exact h2
    · have := h.lt i k e h1; omega
  · intro h1
    exact ⟨i, hi, h1, he⟩
theorem HasSl.none {G : Nat → Int} {L : Nat} {i : Nat} (ha : ∀ k, k < i → G (2 * k + 1) < 47) (hb : ∀ k, i ≤ k → 2 * k + 1 < L → 47 < G (2 * k)) : ¬ HasSl G L := by
  rintro ⟨k, h1, h2, h3⟩
  rcases Nat.lt_or_ge k i with e | e
  · have := ha k e; omega
  · have := hb k e h1; omega
theorem WF.low {G : Nat → Int} {L : Nat} (h : WF G L) {m : Nat} (hm : 2 * m + 1 < L) (hl : G (2 * m + 1) < 47) : ∀ k, k < m + 1 → G (2 * k + 1) < 47 := by
  intro k hk
  by_cases e : k = m
  · subst e; exact hl
  · have := h.lt k m (by omega) hm
    have := h.le m hm
    omega
theorem WF.high {G : Nat → Int} {L : Nat} (h : WF G L) {m : Nat} (hm : 47 ≤ G (2 * m + 1)) : ∀ k, m + 1 ≤ k → 2 * k + 1 < L → 47 < G (2 * k) := by
  intro k hk hl
  have := h.lt m k (by omega) hl
  omega

/-! ### The nearest star -/
def isStar (c : Int) : Bool := c == 2 || c == 3
def stF (op : Nat → Int) (sl : Nat → Bool) : Nat → Nat → Int
  | 0, _ => -1
  | k + 1, i => if isStar (op i) = true then i else if sl i = true then -1 else stF op sl k (i + 1)
/-- The first star from i on with no slash ahead of it. -/
def st (op : Nat → Int) (sl : Nat → Bool) (n i : Nat) : Int := stF op sl (n - i) i
def dsF (op : Nat → Int) : Nat → Nat → Int
  | 0, _ => -1
  | k + 1, i => if (op i == 3) = true then i else dsF op k (i + 1)
/-- The first double star from i on. -/
def ds (op : Nat → Int) (n i : Nat) : Int := dsF op (n - i) i

theorem st_end (op : Nat → Int) (sl : Nat → Bool) (n : Nat) : st op sl n n = -1 := by simp [st, stF]
theorem ds_end (op : Nat → Int) (n : Nat) : ds op n n = -1 := by simp [ds, dsF]
theorem st_star (op : Nat → Int) (sl : Nat → Bool) (n i : Nat) (h : i < n) (hs : op i = 2 ∨ op i = 3) : st op sl n i = i := by
  unfold st
  rw [show n - i = (n - (i + 1)) + 1 by omega]
  simp only [stF]
  rw [if_pos (by unfold isStar; rcases hs with h | h <;> simp [h])]
theorem st_slash (op : Nat → Int) (sl : Nat → Bool) (n i : Nat) (h : i < n) (h2 : op i ≠ 2) (h3 : op i ≠ 3) (hs : sl i = true) : st op sl n i = -1 := by
  unfold st
  rw [show n - i = (n - (i + 1)) + 1 by omega]
  simp only [stF]
  rw [if_neg (by unfold isStar; simp [h2, h3]), if_pos hs]
theorem st_next (op : Nat → Int) (sl : Nat → Bool) (n i : Nat) (h : i < n) (h2 : op i ≠ 2) (h3 : op i ≠ 3) (hs : sl i = false) : st op sl n i = st op sl n (i + 1) := by
  unfold st
  rw [show n - i = (n - (i + 1)) + 1 by omega]
  simp only [stF]
  rw [if_neg (by unfold isStar; simp [h2, h3]), if_neg (by simp [hs])]
theorem ds_star (op : Nat → Int) (n i : Nat) (h : i < n) (hs : op i = 3) : ds op n i = i := by
  unfold ds
  rw [show n - i = (n - (i + 1)) + 1 by omega]
  simp only [dsF]
  rw [if_pos (by simp [hs])]
theorem ds_next (op : Nat → Int) (n i : Nat) (h : i < n) (h3 : op i ≠ 3) : ds op n i = ds op n (i + 1) := by
  unfold ds
  rw [show n - i = (n - (i + 1)) + 1 by omega]
  simp only [dsF]
  rw [if_neg (by simp [h3])]

theorem stF_rng (op : Nat → Int) (sl : Nat → Bool) : ∀ k i, -1 ≤ stF op sl k i ∧ stF op sl k i < i + k + 1
  | 0, i => by simp only [stF]; omega
  | k + 1, i => by
    simp only [stF]
    have := stF_rng op sl k (i + 1)
    split
    · omega
    · split <;> omega
theorem dsF_rng (op : Nat → Int) : ∀ k i, -1 ≤ dsF op k i ∧ dsF op k i < i + k + 1
  | 0, i => by simp only [dsF]; omega
  | k + 1, i => by
    simp only [dsF]
    have := dsF_rng op k (i + 1)
    split <;> omega

/-- What cover lays at i. -/
def cov (op : Nat → Int) (sl : Nat → Bool) (n i : Nat) : Int := if op i = 2 then st op sl n (i + 1) else if op i = 3 then ds op n (i + 1) else -1

end Go.Proofs.Qxb6000628a
