/-
  The plain law of the script: what two valid states over the same pieces have in common. No Go in sight.
-/
import Derived.Test.Qxb6000793aPlain
namespace Go.Proofs.Qxb6000793a

/-- Of the first n numbers: how many are yes. -/
def cntN (P : Nat → Bool) : Nat → Nat
  | 0 => 0
  | n + 1 => cntN P n + if P n = true then 1 else 0

theorem cntN_congr (P Q : Nat → Bool) : ∀ n, (∀ q, q < n → P q = Q q) → cntN P n = cntN Q n
  | 0, _ => rfl
  | n + 1, h => by
    simp only [cntN]
    rw [cntN_congr P Q n (fun q hq => h q (by omega)), h n (by omega)]
theorem cntN_none (P : Nat → Bool) : ∀ n, (∀ q, q < n → P q = false) → cntN P n = 0
  | 0, _ => rfl
  | n + 1, h => by
    simp only [cntN]
    rw [cntN_none P n (fun q hq => h q (by omega)), h n (by omega)]
    simp
theorem cntN_all (P : Nat → Bool) : ∀ n, (∀ q, q < n → P q = true) → cntN P n = n
  | 0, _ => rfl
  | n + 1, h => by
    simp only [cntN]
    rw [cntN_all P n (fun q hq => h q (by omega)), h n (by omega)]
    simp
theorem cntN_less (P : Nat → Bool) (q0 : Nat) (h : P q0 = true) : ∀ n, q0 < n → cntN P n = cntN (fun q => P q && !(q == q0)) n + 1
  | 0, hq => by omega
  | n + 1, hq => by
    simp only [cntN]
    by_cases e : q0 = n
    · subst e
      rw [if_pos h, if_neg (by simp)]
      rw [cntN_congr P (fun q => P q && !(q == q0)) q0 (fun q hq => by
        have : (q == q0) = false := by rw [beq_eq_false_iff_ne]; omega
        simp [this])]
    · rw [cntN_less P q0 h n (by omega)]
      have : (n == q0) = false := by rw [beq_eq_false_iff_ne]; omega
      simp only [this, Bool.not_false, Bool.and_true]
      omega

theorem Bij.last {l np : Nat} {o p : Nat → Int} (h : Bij (l + 1) np o p) : Bij l np o (upd p (o l).toNat (-1)) := by
  obtain ⟨l0, l1, l2⟩ := h.one l (by omega)
  refine ⟨?_, ?_⟩
  · intro k hk
    obtain ⟨k0, k1, k2⟩ := h.one k (by omega)
    refine ⟨k0, k1, ?_⟩
    rw [upd_other _ _ _ _ (fun e => by have := h.inj (a := k) (b := l) (by omega) (by omega) (by omega); omega)]
    exact k2
  · intro q hq
    by_cases e : q = (o l).toNat
    · left; subst e; rw [upd_same]
    · rw [upd_other _ _ _ _ e]
      rcases h.two q hq with h1 | ⟨h1, h2, h3⟩
      · exact Or.inl h1
      · right
        refine ⟨h1, ?_, h3⟩
        by_cases e2 : p q = l
        · rw [e2, Int.toNat_natCast] at h3; omega
        · omega

/-- Counting over the order is counting over the pieces that are in it. -/
theorem Bij.count (R : Nat → Bool) (np : Nat) (o : Nat → Int) : ∀ (l : Nat) (p : Nat → Int), Bij l np o p → cntN (fun k => R (o k).toNat) l = cntN (fun q => !(p q == -1) && R q) np
  | 0, p, h => by
    rw [cntN_none _ np (fun q hq => ?_)]
    · rfl
    · rcases h.two q hq with h1 | h1
      · simp [h1]
      · omega
  | l + 1, p, h => by
    obtain ⟨l0, l1, l2⟩ := h.one l (by omega)
    have hq0 : (o l).toNat < np := by omega
    simp only [cntN]
    rw [Bij.count R np o l _ h.last]
    by_cases hR : R (o l).toNat = true
    · rw [if_pos hR, cntN_less (fun q => !(p q == -1) && R q) (o l).toNat (by
        have : (p (o l).toNat == -1) = false := by rw [beq_eq_false_iff_ne]; omega
        simp [this, hR]) np hq0]
      rw [cntN_congr _ _ np (fun q hq => ?_)]
      by_cases e : q = (o l).toNat
      · subst e; rw [upd_same]; simp
      · rw [upd_other _ _ _ _ e]
        have : (q == (o l).toNat) = false := by rw [beq_eq_false_iff_ne]; exact e
        simp [this]
    · rw [if_neg hR, Nat.add_zero]
      have hR : R (o l).toNat = false := by simpa using hR
      rw [cntN_congr _ _ np (fun q hq => ?_)]
      by_cases e : q = (o l).toNat
      · subst e; rw [hR]; simp
      · rw [upd_other _ _ _ _ e]

theorem cntLt_eq (v : Nat → Int) (g : Nat) : ∀ n, cntLt v g n = cntN (fun k => decide (0 ≤ v k ∧ v k < g)) n
  | 0 => rfl
  | n + 1 => by
    simp only [cntLt, cntN]
    rw [cntLt_eq v g n]
    simp

/-- Two valid states over the same counts that hold the same pieces: as long, and the same bounds. -/
theorem Valid.agree {l l' np nf nc : Nat} {o p f o' p' f' c : Nat → Int} (h : Valid l np nf nc o p f c) (h' : Valid l' np nf nc o' p' f' c) (hs : ∀ q, q < np → (p q = -1 ↔ p' q = -1)) :
    l = l' ∧ ∀ g, g < nf → f g = f' g := by
  have hb : ∀ q, q < np → (p q == -1) = (p' q == -1) := by
    intro q hq
    rw [Bool.eq_iff_iff]
    simp only [beq_iff_eq]
    exact hs q hq
  have key : ∀ R : Nat → Bool, cntN (fun k => R (o k).toNat) l = cntN (fun k => R (o' k).toNat) l' := by
    intro R
    rw [Bij.count R np o l p h.bij, Bij.count R np o' l' p' h'.bij]
    exact cntN_congr _ _ np (fun q hq => by rw [hb q hq])
  refine ⟨?_, ?_⟩
  · have := key (fun _ => true)
    rw [cntN_all _ l (fun _ _ => rfl), cntN_all _ l' (fun _ _ => rfl)] at this
    exact this
  · intro g hg
    rw [h.cnt g hg, h'.cnt g hg, cntLt_eq, cntLt_eq]
    have := key (fun q => decide (0 ≤ c q ∧ c q < g))
    rw [this]

/-- Dropping piece i (in the order or not). -/
theorem Valid.not_in {l np nf nc : Nat} {o p f c : Nat → Int} (h : Valid l np nf nc o p f c) {i : Nat} (hi : i < np) (hn : p i < 0) : p i = -1 := by
  rcases h.bij.two i hi with h1 | h1
  · exact h1
  · omega

end Go.Proofs.Qxb6000793a
