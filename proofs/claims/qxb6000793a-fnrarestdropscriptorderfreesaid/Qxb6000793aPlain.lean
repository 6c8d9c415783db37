/-
  The plain law: rows of numbers as functions, no Go in sight.
-/
namespace Go.Proofs.Qxb6000793a

/-- G with v laid at i. -/
def upd (G : Nat → Int) (i : Nat) (v : Int) : Nat → Int := fun t => if t = i then v else G t

theorem upd_same (G : Nat → Int) (i : Nat) (v : Int) : upd G i v i = v := by simp [upd]
theorem upd_other (G : Nat → Int) (i t : Nat) (v : Int) (h : t ≠ i) : upd G i v t = G t := by simp [upd, h]

/-- What swap makes of the order. -/
def swO (o : Nat → Int) (a b : Nat) : Nat → Int := upd (upd o a (o b)) b (o a)
/-- What swap makes of the places. -/
def swP (o p : Nat → Int) (a b : Nat) : Nat → Int := upd (upd p (o b).toNat a) (o a).toNat b

theorem swO_a (o : Nat → Int) (a b : Nat) : swO o a b a = o b := by
  unfold swO upd
  by_cases h : a = b
  · subst h; simp
  · simp [h]
theorem swO_b (o : Nat → Int) (a b : Nat) : swO o a b b = o a := by simp [swO, upd]
theorem swO_other (o : Nat → Int) (a b j : Nat) (ha : j ≠ a) (hb : j ≠ b) : swO o a b j = o j := by simp [swO, upd, ha, hb]

/-- The order of n pieces and the places of np pieces say the same. -/
structure Bij (n np : Nat) (o p : Nat → Int) : Prop where
  one : ∀ k, k < n → 0 ≤ o k ∧ o k < np ∧ p (o k).toNat = k
  two : ∀ q, q < np → p q = -1 ∨ (0 ≤ p q ∧ p q < n ∧ o (p q).toNat = q)

theorem Bij.inj {n np : Nat} {o p : Nat → Int} (h : Bij n np o p) {a b : Nat} (ha : a < n) (hb : b < n) (e : o a = o b) : a = b := by
  have h1 := (h.one a ha).2.2
  have h2 := (h.one b hb).2.2
  rw [e] at h1
  omega

theorem Bij.swap {n np : Nat} {o p : Nat → Int} (h : Bij n np o p) {a b : Nat} (ha : a < n) (hb : b < n) : Bij n np (swO o a b) (swP o p a b) := by
  obtain ⟨a0, a1, a2⟩ := h.one a ha
  obtain ⟨b0, b1, b2⟩ := h.one b hb
  have pa : swP o p a b (o a).toNat = b := by simp [swP, upd]
  have pb : swP o p a b (o b).toNat = a := by
    unfold swP upd
    by_cases e : (o b).toNat = (o a).toNat
    · have : a = b := h.inj ha hb (by omega)
      subst this; simp
    · simp [e]
  have po : ∀ q : Nat, q ≠ (o a).toNat → q ≠ (o b).toNat → swP o p a b q = p q := by
    intro q h1 h2; simp [swP, upd, h1, h2]
  refine ⟨?_, ?_⟩
  · intro k hk
    by_cases ka : k = a
    · subst ka; rw [swO_a]; exact ⟨b0, b1, pb⟩
    · by_cases kb : k = b
      · subst kb; rw [swO_b]; exact ⟨a0, a1, pa⟩
      · rw [swO_other _ _ _ _ ka kb]
        obtain ⟨k0, k1, k2⟩ := h.one k hk
        refine ⟨k0, k1, ?_⟩
        rw [po _ (fun e => ka (h.inj hk ha (by omega))) (fun e => kb (h.inj hk hb (by omega)))]
        exact k2
  · intro q hq
    by_cases qa : q = (o a).toNat
    · right; subst qa; rw [pa]; refine ⟨by omega, by omega, ?_⟩
      rw [Int.toNat_natCast, swO_b]; omega
    · by_cases qb : q = (o b).toNat
      · right; subst qb; rw [pb]; refine ⟨by omega, by omega, ?_⟩
        rw [Int.toNat_natCast, swO_a]; omega
      · rw [po _ qa qb]
        rcases h.two q hq with h1 | ⟨h1, h2, h3⟩
        · exact Or.inl h1
        · right
          refine ⟨h1, h2, ?_⟩
          rw [swO_other _ _ _ _ (fun e => by rw [e] at h3; omega) (fun e => by rw [e] at h3; omega)]
          exact h3

theorem Bij.swap_in {n np : Nat} {o p : Nat → Int} (h : Bij n np o p) {a b : Nat} (ha : a < n) (hb : b < n) (q : Nat) (hq : q < np) : swP o p a b q = -1 ↔ p q = -1 := by
  have hs := h.swap ha hb
  obtain ⟨a0, a1, a2⟩ := h.one a ha
  obtain ⟨b0, b1, b2⟩ := h.one b hb
  by_cases qa : q = (o a).toNat
  · have : swP o p a b q = b := by subst qa; simp [swP, upd]
    have : p q = a := by rw [qa]; exact a2
    omega
  · by_cases qb : q = (o b).toNat
    · have : swP o p a b q = a := by unfold swP upd; simp [qa, ← qb]
      have : p q = b := by rw [qb]; exact b2
      omega
    · simp [swP, upd, qa, qb]

/-- The pieces of the order come fewest holders first, and f x is the number of those with fewer than x. -/
def Grp (n nf : Nat) (c o f : Nat → Int) : Prop :=
  ∀ x, x < nf → 0 ≤ f x ∧ f x ≤ n ∧ ∀ j : Nat, j < n → ((j : Int) < f x ↔ c (o j).toNat < x)

/-- The same while piece i is on its way out: it lies at k, and the bounds below g leave it out. -/
structure Way (n np nf : Nat) (c p0 : Nat → Int) (i : Nat) (k g : Nat) (o p f : Nat → Int) : Prop where
  bij : Bij n np o p
  klt : k < n
  at_k : o k = i
  bnd : ∀ x, x < nf → 0 ≤ f x ∧ f x ≤ n ∧ (x < g → f x ≤ k) ∧ (g ≤ x → (k : Int) < f x) ∧ ∀ j : Nat, j < n → j ≠ k → ((j : Int) < f x ↔ c (o j).toNat < x)
  same : ∀ q, q < np → (p q = -1 ↔ p0 q = -1)

theorem Way.start {n np nf : Nat} {c o p f : Nat → Int} (hb : Bij n np o p) (hg : Grp n nf c o f) {i k : Nat} (hk : k < n) (hi : o k = i) {h : Nat} (hc : c i = h) : Way n np nf c p i k (h + 1) o p f where
  bij := hb
  klt := hk
  at_k := hi
  bnd := by
    intro x hx
    obtain ⟨f0, f1, f2⟩ := hg x hx
    have h2 := f2 k hk
    rw [hi, Int.toNat_natCast, hc] at h2
    refine ⟨f0, f1, fun h => ?_, fun h => ?_, fun j hj _ => f2 j hj⟩ <;> omega
  same := fun _ _ => Iff.rfl

theorem Way.step {n np nf : Nat} {c p0 o p f : Nat → Int} {i k g : Nat} (h : Way n np nf c p0 i k g o p f) (hg : g < nf) {b : Nat} (hb : f g - 1 = b) :
    Way n np nf c p0 i b (g + 1) (swO o k b) (swP o p k b) (upd f g b) := by
  obtain ⟨g0, g1, _, g3, g4⟩ := h.bnd g hg
  have hkb := g3 (Nat.le_refl _)
  have hbn : b < n := by omega
  have hk := h.klt
  refine ⟨h.bij.swap hk hbn, hbn, by rw [swO_b]; exact h.at_k, ?_, fun q hq => (h.bij.swap_in hk hbn q hq).trans (h.same q hq)⟩
  intro x hx
  obtain ⟨x0, x1, x2, x3, x4⟩ := h.bnd x hx
  have cb : b ≠ k → c (o b).toNat < g := fun hne => (g4 b hbn hne).1 (by omega)
  have xb : b ≠ k → ((b : Int) < f x ↔ c (o b).toNat < x) := x4 b hbn
  by_cases e : x = g
  · subst e
    rw [upd_same]
    refine ⟨by omega, by omega, fun _ => by omega, fun h => by omega, ?_⟩
    intro j hj hjb
    by_cases jk : j = k
    · subst jk
      rw [swO_a]
      have := cb (Ne.symm hjb)
      omega
    · rw [swO_other _ _ _ _ jk hjb]
      have := x4 j hj jk
      omega
  · rw [upd_other _ _ _ _ e]
    refine ⟨x0, x1, fun h => by omega, fun h => ?_, ?_⟩
    · by_cases bk : b = k
      · have := x3 (by omega); omega
      · have := cb bk; have := xb bk; omega
    · intro j hj hjb
      by_cases jk : j = k
      · subst jk
        rw [swO_a]
        have h1 := cb (Ne.symm hjb)
        have h2 := xb (Ne.symm hjb)
        omega
      · rw [swO_other _ _ _ _ jk hjb]
        exact x4 j hj jk

/-- What is left when the piece is out. -/
structure Out (n np nf : Nat) (c p0 : Nat → Int) (i : Nat) (o p f : Nat → Int) : Prop where
  bij : Bij n np o p
  grp : Grp n nf c o f
  gone : p i = -1
  same : ∀ q, q < np → q ≠ i → (p q = -1 ↔ p0 q = -1)

theorem Way.done {n np nf : Nat} {c p0 o p f : Nat → Int} {i k g : Nat} (h : Way n np nf c p0 i k g o p f) (hg : nf ≤ g) {l : Nat} (hl : l + 1 = n) :
    Out l np nf c p0 i (swO o k l) (upd (swP o p k l) i (-1)) f := by
  have hk := h.klt
  have hln : l < n := by omega
  have hs := h.bij.swap hk hln
  have el : swO o k l l = i := by rw [swO_b]; exact h.at_k
  have inn : (i : Int) < np := by have := (hs.one l hln).2.1; omega
  refine ⟨⟨?_, ?_⟩, ?_, upd_same _ _ _, ?_⟩
  · intro j hj
    obtain ⟨j0, j1, j2⟩ := hs.one j (by omega)
    refine ⟨j0, j1, ?_⟩
    have hne : swO o k l j ≠ i := by
      intro e
      rw [← el] at e
      have := hs.inj (by omega) hln e
      omega
    rw [upd_other _ _ _ _ (by omega)]
    exact j2
  · intro q hq
    by_cases e : q = i
    · subst e; left; rw [upd_same]
    · rw [upd_other _ _ _ _ e]
      rcases hs.two q hq with h1 | ⟨h1, h2, h3⟩
      · exact Or.inl h1
      · right
        refine ⟨h1, ?_, h3⟩
        by_cases e2 : swP o p k l q = l
        · rw [e2, Int.toNat_natCast, el] at h3; omega
        · omega
  · intro x hx
    obtain ⟨x0, x1, x2, _, x4⟩ := h.bnd x hx
    have x2 := x2 (by omega)
    refine ⟨x0, by omega, ?_⟩
    intro j hj
    by_cases jk : j = k
    · subst jk
      rw [swO_a]
      have := x4 l hln (by omega)
      omega
    · rw [swO_other _ _ _ _ jk (by omega)]
      exact x4 j (by omega) jk
  · intro q hq hqi
    rw [upd_other _ _ _ _ hqi]
    exact (h.bij.swap_in hk hln q hq).trans (h.same q hq)

/-! ### Counting -/
/-- Of the first n numbers v: how many are g. -/
def cntEq (v : Nat → Int) (g : Int) : Nat → Nat
  | 0 => 0
  | n + 1 => cntEq v g n + if v n = g then 1 else 0
/-- Of the first n numbers v: how many lie in [0, g). -/
def cntLt (v : Nat → Int) (g : Nat) : Nat → Nat
  | 0 => 0
  | n + 1 => cntLt v g n + if 0 ≤ v n ∧ v n < g then 1 else 0

theorem cntEq_le (v : Nat → Int) (g : Int) (n : Nat) : cntEq v g n ≤ n := by
  induction n with
  | zero => exact Nat.le_refl _
  | succ n ih => simp only [cntEq]; split <;> omega
theorem cntLt_le (v : Nat → Int) (g : Nat) (n : Nat) : cntLt v g n ≤ n := by
  induction n with
  | zero => exact Nat.le_refl _
  | succ n ih => simp only [cntLt]; split <;> omega
theorem cntLt_zero (v : Nat → Int) (n : Nat) : cntLt v 0 n = 0 := by
  induction n with
  | zero => rfl
  | succ n ih => simp only [cntLt]; split <;> omega
theorem cntLt_succ (v : Nat → Int) (g n : Nat) : cntLt v (g + 1) n = cntLt v g n + cntEq v g n := by
  induction n with
  | zero => rfl
  | succ n ih =>
    simp only [cntLt, cntEq, ih]
    by_cases h1 : v n = g
    · rw [if_pos (by omega), if_neg (by omega), if_pos h1]; omega
    · by_cases h2 : 0 ≤ v n ∧ v n < g
      · rw [if_pos (by omega), if_pos h2, if_neg h1]; omega
      · rw [if_neg (by omega), if_neg h2, if_neg h1]; omega

theorem cntLt_of (v : Nat → Int) (g : Nat) (F : Int) (n : Nat) (h0 : ∀ j, j < n → 0 ≤ v j) (hF : 0 ≤ F) (h : ∀ j : Nat, j < n → ((j : Int) < F ↔ v j < g)) : ∀ m, m ≤ n → (cntLt v g m : Int) = if F ≤ m then F else m := by
  intro m
  induction m with
  | zero => intro _; simp only [cntLt]; split <;> omega
  | succ m ih =>
    intro hm
    have ih := ih (by omega)
    have h0 := h0 m (by omega)
    have h := h m (by omega)
    simp only [cntLt]
    by_cases h2 : v m < g
    · rw [if_pos ⟨h0, h2⟩]
      have := h.2 h2
      rw [if_neg (by omega)] at ih
      split <;> omega
    · rw [if_neg (by omega)]
      have : ¬ (m : Int) < F := fun e => h2 (h.1 e)
      rw [if_pos (by omega)] at ih
      rw [if_pos (by omega)]
      omega

theorem cntLt_sorted (v : Nat → Int) (g : Nat) (n : Nat) (h0 : ∀ j, j < n → 0 ≤ v j) (hs : ∀ i j, i ≤ j → j < n → v i ≤ v j) : ∀ m, m ≤ n → (∀ j : Nat, j < m → (j < cntLt v g m ↔ v j < g)) := by
  intro m
  induction m with
  | zero => intro _ j hj; omega
  | succ m ih =>
    intro hm j hj
    have ih := ih (by omega)
    have hle := cntLt_le v g m
    have h0m := h0 m (by omega)
    simp only [cntLt]
    by_cases h2 : v m < g
    · rw [if_pos ⟨h0m, h2⟩]
      have all : ∀ t, t < m → v t < g := fun t ht => by have := hs t m (by omega) (by omega); omega
      have hfull : cntLt v g m = m := by
        rcases Nat.eq_zero_or_pos m with e | e
        · subst e; rfl
        · have := (ih (m - 1) (by omega)).2 (all _ (by omega)); omega
      have : v j < g := by have := hs j m (by omega) (by omega); omega
      omega
    · rw [if_neg (by omega), Nat.add_zero]
      by_cases e : j = m
      · subst e; omega
      · exact ih j (by omega)

/-- What rarestValid asks for. -/
structure Valid (n np nf nc : Nat) (o p f c : Nat → Int) : Prop where
  len : nc = np
  bij : Bij n np o p
  rng : ∀ k, k < n → 0 ≤ c (o k).toNat ∧ c (o k).toNat < nf
  asc : ∀ k, k < n → 0 < k → c (o (k - 1)).toNat ≤ c (o k).toNat
  cnt : ∀ g, g < nf → f g = cntLt (fun k => c (o k).toNat) g n

theorem Valid.sorted {n np nf nc : Nat} {o p f c : Nat → Int} (h : Valid n np nf nc o p f c) : ∀ i j, i ≤ j → j < n → c (o i).toNat ≤ c (o j).toNat := by
  intro i j hij
  induction j with
  | zero => intro _; have : i = 0 := by omega
            subst this; omega
  | succ j ih =>
    intro hj
    by_cases e : i = j + 1
    · subst e; omega
    · have := ih (by omega) (by omega)
      have := h.asc (j + 1) hj (by omega)
      simp only [Nat.add_sub_cancel] at this
      omega

theorem Valid.grp {n np nf nc : Nat} {o p f c : Nat → Int} (h : Valid n np nf nc o p f c) : Grp n nf c o f := by
  intro x hx
  have hle := cntLt_le (fun k => c (o k).toNat) x n
  have hs := cntLt_sorted (fun k => c (o k).toNat) x n (fun j hj => (h.rng j hj).1) h.sorted n (Nat.le_refl _)
  rw [h.cnt x hx]
  refine ⟨by omega, by omega, fun j hj => ?_⟩
  have := hs j hj
  omega

theorem Valid.of_grp {n np nf nc : Nat} {o p f c : Nat → Int} (hl : nc = np) (hb : Bij n np o p) (hr : ∀ k, k < n → 0 ≤ c (o k).toNat ∧ c (o k).toNat < nf) (hg : Grp n nf c o f) : Valid n np nf nc o p f c := by
  refine ⟨hl, hb, hr, ?_, ?_⟩
  · intro k hk h0
    obtain ⟨r0, r1⟩ := hr k hk
    obtain ⟨s0, s1⟩ := hr (k - 1) (by omega)
    by_cases hlt : c (o k).toNat < c (o (k - 1)).toNat
    · obtain ⟨x, hx⟩ := Int.eq_ofNat_of_zero_le s0
      obtain ⟨_, _, g⟩ := hg x (by omega)
      have g1 := g k hk
      have g2 := g (k - 1) (by omega)
      omega
    · omega
  · intro x hx
    obtain ⟨f0, f1, f2⟩ := hg x hx
    have := cntLt_of (fun k => c (o k).toNat) x (f x) n (fun j hj => (hr j hj).1) f0 f2 n (Nat.le_refl _)
    rw [if_pos f1] at this
    exact this.symm

/-- Out of a valid state, one piece out: a valid state. -/
theorem Out.valid {n l np nf nc : Nat} {o p f c o' p' f' : Nat → Int} {i : Nat} (h : Valid n np nf nc o p f c) (hO : Out l np nf c p i o' p' f') : Valid l np nf nc o' p' f' c := by
  refine Valid.of_grp h.len hO.bij ?_ hO.grp
  intro k hk
  obtain ⟨k0, k1, k2⟩ := hO.bij.one k hk
  have hq : (o' k).toNat < np := by omega
  have hne : (o' k).toNat ≠ i := by
    intro e
    rw [e, hO.gone] at k2
    omega
  have hp : ¬ p (o' k).toNat = -1 := by
    intro e
    have := (hO.same _ hq hne).2 e
    omega
  rcases h.bij.two _ hq with h1 | ⟨h1, h2, h3⟩
  · exact absurd h1 hp
  · have := h.rng (p (o' k).toNat).toNat (by omega)
    rw [h3, Int.toNat_natCast] at this
    exact this

end Go.Proofs.Qxb6000793a
