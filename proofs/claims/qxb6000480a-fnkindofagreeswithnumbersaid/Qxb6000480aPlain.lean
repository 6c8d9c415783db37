/-
  The plain law of a number's token: bytes as a function, no Go in sight.
-/
namespace Go.Proofs.Qxb6000480a

/-- Byte k of s; 256 past its end. -/
def bt (s : ByteArray) (k : Nat) : Nat := if h : k < s.size then s[k].toNat else 256

def isD (c : Nat) : Prop := 48 ≤ c ∧ c ≤ 57

/-- From i on the digits end at j. -/
structure Skp (b : Nat → Nat) (i j : Nat) : Prop where
  le : i ≤ j
  all : ∀ k, i ≤ k → k < j → isD (b k)
  stop : ¬ isD (b j)

theorem Skp.uniq {b : Nat → Nat} {i j j' : Nat} (h : Skp b i j) (h' : Skp b i j') : j = j' := by
  rcases Nat.lt_trichotomy j j' with e | e | e
  · exact absurd (h'.all j h.le e) h.stop
  · exact e
  · exact absurd (h.all j' h'.le e) h'.stop

theorem Skp.shift {b b' : Nat → Nat} {o i j : Nat} (h : Skp b (o + i) (o + j)) (he : ∀ k, k < j → b' k = b (o + k)) (hs : ¬ isD (b' j)) : Skp b' i j :=
  ⟨by have := h.le; omega, fun k h1 h2 => by rw [he k h2]; exact h.all (o + k) (by omega) (by omega), hs⟩

/-- The sign. -/
def S1 (b : Nat → Nat) (i i1 : Nat) : Prop := (b i = 45 ∧ i1 = i + 1) ∨ (b i ≠ 45 ∧ i1 = i)
/-- The integer part. -/
def S2 (b : Nat → Nat) (i1 i2 : Nat) : Prop := (b i1 = 48 ∧ i2 = i1 + 1) ∨ (b i1 ≠ 48 ∧ isD (b i1) ∧ Skp b i1 i2)
/-- The fraction. -/
def S3 (b : Nat → Nat) (i2 i3 : Nat) : Prop := (b i2 = 46 ∧ Skp b (i2 + 1) i3 ∧ i3 ≠ i2 + 1) ∨ (b i2 ≠ 46 ∧ i3 = i2)
/-- The exponent's sign. -/
def S5 (b : Nat → Nat) (i4 i5 : Nat) : Prop := ((b i4 = 43 ∨ b i4 = 45) ∧ i5 = i4 + 1) ∨ (¬ (b i4 = 43 ∨ b i4 = 45) ∧ i5 = i4)
/-- The exponent. -/
def S4 (b : Nat → Nat) (i3 e : Nat) : Prop := ((b i3 = 101 ∨ b i3 = 69) ∧ ∃ i5, S5 b (i3 + 1) i5 ∧ Skp b i5 e ∧ e ≠ i5) ∨ (¬ (b i3 = 101 ∨ b i3 = 69) ∧ e = i3)
/-- A number's token from i to e. -/
def Num (b : Nat → Nat) (i e : Nat) : Prop := ∃ i1 i2 i3, S1 b i i1 ∧ S2 b i1 i2 ∧ S3 b i2 i3 ∧ S4 b i3 e

theorem S1.uniq {b : Nat → Nat} {i j j' : Nat} (h : S1 b i j) (h' : S1 b i j') : j = j' := by
  unfold S1 at h h'; omega
theorem S2.uniq {b : Nat → Nat} {i j j' : Nat} (h : S2 b i j) (h' : S2 b i j') : j = j' := by
  rcases h with ⟨h1, h2⟩ | ⟨h1, _, h2⟩ <;> rcases h' with ⟨k1, k2⟩ | ⟨k1, _, k2⟩
  · omega
  · exact absurd h1 k1
  · exact absurd k1 h1
  · exact h2.uniq k2
theorem S3.uniq {b : Nat → Nat} {i j j' : Nat} (h : S3 b i j) (h' : S3 b i j') : j = j' := by
  rcases h with ⟨h1, h2, _⟩ | ⟨h1, h2⟩ <;> rcases h' with ⟨k1, k2, _⟩ | ⟨k1, k2⟩
  · exact h2.uniq k2
  · exact absurd h1 k1
  · exact absurd k1 h1
  · omega
theorem S5.uniq {b : Nat → Nat} {i j j' : Nat} (h : S5 b i j) (h' : S5 b i j') : j = j' := by
  unfold S5 at h h'; omega
theorem S4.uniq {b : Nat → Nat} {i j j' : Nat} (h : S4 b i j) (h' : S4 b i j') : j = j' := by
  rcases h with ⟨h1, x, h2, h3, _⟩ | ⟨h1, h2⟩ <;> rcases h' with ⟨k1, y, k2, k3, _⟩ | ⟨k1, k2⟩
  · have := h2.uniq k2; subst this; exact h3.uniq k3
  · exact absurd h1 k1
  · exact absurd k1 h1
  · omega
theorem Num.uniq {b : Nat → Nat} {i e e' : Nat} (h : Num b i e) (h' : Num b i e') : e = e' := by
  obtain ⟨x1, x2, x3, h1, h2, h3, h4⟩ := h
  obtain ⟨y1, y2, y3, k1, k2, k3, k4⟩ := h'
  have := h1.uniq k1; subst this
  have := h2.uniq k2; subst this
  have := h3.uniq k3; subst this
  exact h4.uniq k4

theorem no_int {b : Nat → Nat} {i i1 : Nat} (h1 : S1 b i i1) (h0 : b i1 ≠ 48) (hd : ¬ isD (b i1)) : ∀ e, ¬ Num b i e := by
  rintro e ⟨y1, y2, y3, k1, k2, _⟩
  have := h1.uniq k1; subst this
  rcases k2 with ⟨k, _⟩ | ⟨_, k, _⟩
  · exact h0 k
  · exact hd k
theorem no_frac {b : Nat → Nat} {i i1 i2 : Nat} (h1 : S1 b i i1) (h2 : S2 b i1 i2) (hp : b i2 = 46) (hs : Skp b (i2 + 1) (i2 + 1)) : ∀ e, ¬ Num b i e := by
  rintro e ⟨y1, y2, y3, k1, k2, k3, _⟩
  have := h1.uniq k1; subst this
  have := h2.uniq k2; subst this
  rcases k3 with ⟨_, k, k'⟩ | ⟨k, _⟩
  · exact k' (k.uniq hs)
  · exact k hp
theorem no_exp {b : Nat → Nat} {i i1 i2 i3 i5 : Nat} (h1 : S1 b i i1) (h2 : S2 b i1 i2) (h3 : S3 b i2 i3) (hp : b i3 = 101 ∨ b i3 = 69) (h5 : S5 b (i3 + 1) i5) (hs : Skp b i5 i5) : ∀ e, ¬ Num b i e := by
  rintro e ⟨y1, y2, y3, k1, k2, k3, k4⟩
  have := h1.uniq k1; subst this
  have := h2.uniq k2; subst this
  have := h3.uniq k3; subst this
  rcases k4 with ⟨_, y5, k5, k, k'⟩ | ⟨k, _⟩
  · have := h5.uniq k5; subst this
    exact k' (k.uniq hs)
  · exact k hp

/-- Each step goes on; where it went on, it read a byte of its own. -/
theorem S1.le {b : Nat → Nat} {i j : Nat} (h : S1 b i j) : i ≤ j := by unfold S1 at h; omega
theorem S2.lt {b : Nat → Nat} {i j : Nat} (h : S2 b i j) : i < j := by
  rcases h with ⟨_, h⟩ | ⟨_, h, k⟩
  · omega
  · rcases Nat.lt_or_ge i j with e | e
    · exact e
    · have := k.le
      have : i = j := by omega
      subst this
      exact absurd h k.stop
theorem S3.le {b : Nat → Nat} {i j : Nat} (h : S3 b i j) : i ≤ j := by
  rcases h with ⟨_, h, _⟩ | ⟨_, h⟩
  · have := h.le; omega
  · omega
theorem S5.le {b : Nat → Nat} {i j : Nat} (h : S5 b i j) : i ≤ j := by unfold S5 at h; omega
theorem S4.le {b : Nat → Nat} {i j : Nat} (h : S4 b i j) : i ≤ j := by
  rcases h with ⟨_, x, h1, h2, _⟩ | ⟨_, h⟩
  · have := h1.le; have := h2.le; omega
  · omega
theorem Num.lt {b : Nat → Nat} {i e : Nat} (h : Num b i e) : i < e := by
  obtain ⟨x1, x2, x3, h1, h2, h3, h4⟩ := h
  have := h1.le; have := h2.lt; have := h3.le; have := h4.le; omega

/-- Every byte of the token lies inside the text. -/
theorem Skp.mem {b : Nat → Nat} {i j n : Nat} (h : Skp b i j) (hb : ∀ k, n ≤ k → b k = 256) (hi : i ≤ n) : j ≤ n := by
  rcases Nat.lt_or_ge n j with e | e
  · have := h.all n hi e
    rw [hb n (Nat.le_refl _)] at this
    unfold isD at this; omega
  · exact e
theorem Num.mem {b : Nat → Nat} {i e n : Nat} (h : Num b i e) (hb : ∀ k, n ≤ k → b k = 256) (hi : i ≤ n) : e ≤ n := by
  obtain ⟨x1, x2, x3, h1, h2, h3, h4⟩ := h
  have lt : ∀ k v, b k = v → v < 256 → k < n := fun k v h1 h2 => by
    rcases Nat.lt_or_ge k n with e | e
    · exact e
    · rw [hb k e] at h1; omega
  have e1 : x1 ≤ n := by
    rcases h1 with ⟨h, e⟩ | ⟨_, e⟩
    · have := lt _ _ h (by omega); omega
    · omega
  have e2 : x2 ≤ n := by
    rcases h2 with ⟨h, e⟩ | ⟨_, _, e⟩
    · have := lt _ _ h (by omega); omega
    · exact e.mem hb e1
  have e3 : x3 ≤ n := by
    rcases h3 with ⟨h, e, _⟩ | ⟨_, e⟩
    · have := lt _ _ h (by omega)
      exact e.mem hb (by omega)
    · omega
  rcases h4 with ⟨h, x5, h5, e, _⟩ | ⟨_, e⟩
  · have l3 : x3 < n := by rcases h with h | h <;> exact lt _ _ h (by omega)
    have e5 : x5 ≤ n := by
      rcases h5 with ⟨h, e⟩ | ⟨_, e⟩
      · have : x3 + 1 < n := by rcases h with h | h <;> exact lt _ _ h (by omega)
        omega
      · omega
    exact e.mem hb e5
  · omega

/-- The token stands alone: b' reads as the token and then a byte that is no part of a number. -/
theorem Num.alone {b b' : Nat → Nat} {o l : Nat} (h : Num b o (o + l)) (he : ∀ k, k < l → b' k = b (o + k)) (hx : b' l = 256 ∨ b' l = 44) : Num b' 0 l := by
  obtain ⟨x1, x2, x3, h1, h2, h3, h4⟩ := h
  have l1 := h1.le; have l2 := h2.lt; have l3 := h3.le; have l4 := h4.le
  obtain ⟨y1, rfl⟩ : ∃ y, x1 = o + y := ⟨x1 - o, by omega⟩
  obtain ⟨y2, rfl⟩ : ∃ y, x2 = o + y := ⟨x2 - o, by omega⟩
  obtain ⟨y3, rfl⟩ : ∃ y, x3 = o + y := ⟨x3 - o, by omega⟩
  have at_ : ∀ k, k ≤ l → b' k = b (o + k) ∨ (k = l ∧ (b' k = 256 ∨ b' k = 44)) := fun k hk => by
    rcases Nat.lt_or_ge k l with e | e
    · exact Or.inl (he k e)
    · have : k = l := by omega
      subst this
      exact Or.inr ⟨rfl, hx⟩
  have skp : ∀ i j, Skp b (o + i) (o + j) → j ≤ l → Skp b' i j := fun i j h hj => by
    refine h.shift (fun k hk => he k (by omega)) ?_
    rcases at_ j hj with e | ⟨_, e⟩
    · rw [e]; exact h.stop
    · unfold isD; omega
  refine ⟨y1, y2, y3, ?_, ?_, ?_, ?_⟩
  · have := he 0 (by omega)
    simp only [Nat.add_zero] at this
    rcases h1 with ⟨h, e⟩ | ⟨h, e⟩
    · exact Or.inl ⟨this.trans h, by omega⟩
    · exact Or.inr ⟨by rw [this]; exact h, by omega⟩
  · have := he y1 (by omega)
    rcases h2 with ⟨h, e⟩ | ⟨h, hd, e⟩
    · exact Or.inl ⟨this.trans h, by omega⟩
    · exact Or.inr ⟨by rw [this]; exact h, by rw [this]; exact hd, skp _ _ e (by omega)⟩
  · rcases h3 with ⟨h, e, hn⟩ | ⟨h, e⟩
    · have := e.le
      have hl : y2 < l := by omega
      exact Or.inl ⟨(he y2 hl).trans h, skp (y2 + 1) y3 e (by omega), by omega⟩
    · refine Or.inr ⟨?_, by omega⟩
      rcases at_ y2 (by omega) with e | ⟨_, e⟩
      · rw [e]; exact h
      · omega
  · rcases h4 with ⟨h, x5, h5, e, hn⟩ | ⟨h, e⟩
    · have l5 := h5.le
      have l6 := e.le
      obtain ⟨y5, rfl⟩ : ∃ y, x5 = o + y := ⟨x5 - o, by omega⟩
      have hl : y3 < l := by omega
      refine Or.inl ⟨by rw [he y3 hl]; exact h, y5, ?_, skp _ _ e (Nat.le_refl _), by omega⟩
      have h4 : y3 + 1 < l := by omega
      have := he (y3 + 1) h4
      unfold S5 at h5 ⊢
      rw [this]
      rw [show o + (y3 + 1) = o + y3 + 1 by omega]
      omega
    · have e : l = y3 := by omega
      subst e
      refine Or.inr ⟨?_, rfl⟩
      omega

/-- A number's first byte is a minus or a digit. -/
theorem Num.first {b : Nat → Nat} {i e : Nat} (h : Num b i e) : b i = 45 ∨ isD (b i) := by
  obtain ⟨x1, x2, x3, h1, h2, _⟩ := h
  rcases h1 with ⟨h, _⟩ | ⟨_, rfl⟩
  · exact Or.inl h
  · right
    rcases h2 with ⟨h, _⟩ | ⟨_, h, _⟩
    · rw [h]; unfold isD; omega
    · exact h

end Go.Proofs.Qxb6000480a
