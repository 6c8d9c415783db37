/-
  For the script law: clone of any slice, ZZRarestDrop at any valid state, equalIntsSessB1.
-/
import Derived.Test.Qxb6000793aZz
import Derived.Test.Qxb6000793aValid
import Derived.Test.Qxb6000793aPlainB
namespace Go.Proofs.Qxb6000793a
open Go.RowKit

set_option maxHeartbeats 1000000 in
theorem clone_at (x : Addr) (n cap : Nat) (G : Nat → Int) (w : World) (hR : 0 < n → ∃ b off, x = ⟨b, off, none⟩ ∧ Reads w b off n G ∧ b < w.heap.size) (hn : n ≤ 1048576) :
    Calls Try.prog 15 #[.slice (some x) n cap] w fun e w' => e = .returned (.slice (some ⟨w.heap.size, 0, none⟩) n n) ∧
      Own w' w.heap.size n G ∧ Below w.heap.size w w' ∧ w'.heap.size = w.heap.size + 1 := by
  by_cases h0 : 0 < n
  · obtain ⟨b, off, rfl, h1, h2⟩ := hR h0
    exact clone_some b off n cap G w h1 hn (fun _ => h2)
  · obtain rfl : 0 = n := by omega
    have hnil : ∀ W, (binOp .eql 26 (.slice (some x) 0 cap) (.slice none 0 0)).run Try.prog W = .ok (.bool false) W := fun W => Lib.run_eql_slice_nil W _ _ (some x) 0 cap 0 0 Try.underlying26
    have hmk := run_make_ints 0 hn
    have hmk' : ∀ W, (Instr.makeSlice 26 (.int .i64 0) (.int .i64 0)).run Try.prog W = .ok (.slice (some ⟨W.heap.size, 0, none⟩) 0 0) (W.alloc (.cells (madeCells #[.int .i64 0] 0) 3)) := hmk
    clear hmk
    go_enter Try.func15, Try.ntmps15
    go_wp2
    clear hnil hmk'
    go_loop [4] (fun sk => sk = .int .i64 0) (fun _ => 0)
    case atStart => rfl
    case round =>
      subst hrel
      go_wp2
      go_ret
      exact ⟨rfl, fun j hj => by omega, below_made w 0, by simp⟩

/-- A row of the call's own, from block lo to hi (or no element at all). -/
def Mine (w : World) (lo hi : Nat) (a : Option Addr) (n : Nat) (G : Nat → Int) : Prop := n = 0 ∨ ∃ b, a = some ⟨b, 0, none⟩ ∧ lo ≤ b ∧ b < hi ∧ Own w b n G
theorem Mine.get {w : World} {lo hi n : Nat} {a : Option Addr} {G : Nat → Int} (h : Mine w lo hi a n G) (hn : 0 < n) : ∃ b, a = some ⟨b, 0, none⟩ ∧ lo ≤ b ∧ b < hi ∧ Own w b n G := by
  rcases h with h | h
  · omega
  · exact h
theorem Mine.row {w : World} {lo hi n : Nat} {a : Option Addr} {G : Nat → Int} (h : Mine w lo hi a n G) : Row w a n G := by
  rcases h with h | ⟨b, e, _, _, h⟩
  · exact Or.inl h
  · exact Or.inr ⟨b, 0, e, h.reads⟩
theorem Mine.below {B : Nat} {w w' : World} {lo hi n : Nat} {a : Option Addr} {G : Nat → Int} (h : Mine w lo hi a n G) (hB : Below B w w') (hh : hi ≤ B) : Mine w' lo hi a n G := by
  rcases h with h | ⟨b, e, h1, h2, h⟩
  · exact Or.inl h
  · exact Or.inr ⟨b, e, h1, h2, h.below hB (by omega)⟩
theorem Mine.wide {w : World} {lo hi lo' hi' n : Nat} {a : Option Addr} {G : Nat → Int} (h : Mine w lo hi a n G) (h1 : lo' ≤ lo) (h2 : hi ≤ hi') : Mine w lo' hi' a n G := by
  rcases h with h | ⟨b, e, k1, k2, h⟩
  · exact Or.inl h
  · exact Or.inr ⟨b, e, by omega, by omega, h⟩
theorem Mine.drewN {w : World} {lo hi n : Nat} {a : Option Addr} {G : Nat → Int} (h : Mine w lo hi a n G) (q : Nat) : Mine (w.drewN q) lo hi a n G := h

/-- The clone of any slice. -/
theorem clone_any (a : Option Addr) (n cap : Nat) (G : Nat → Int) (w : World) (hR : Row w a n G) (hnil : a = none → n = 0 ∧ cap = 0) (hn : n ≤ 1048576) :
    Calls Try.prog 15 #[.slice a n cap] w fun e w' => ∃ a' c', e = .returned (.slice a' n c') ∧ n ≤ c' ∧ (a' = none → n = 0 ∧ c' = 0) ∧ Below w.heap.size w w' ∧ Mine w' w.heap.size w'.heap.size a' n G := by
  cases a with
  | none =>
    obtain ⟨rfl, rfl⟩ := hnil rfl
    refine (clone_nil w).mono ?_
    rintro e w' ⟨rfl, rfl⟩
    exact ⟨none, 0, rfl, Nat.le_refl _, fun _ => ⟨rfl, rfl⟩, Below.refl _ _, Or.inl rfl⟩
  | some x =>
    refine (clone_at x n cap G w ?_ hn).mono ?_
    · intro h0
      obtain ⟨b, off, e, h⟩ := hR.get h0
      exact ⟨b, off, by cases e; rfl, h, h.lt h0⟩
    · rintro e w' ⟨rfl, h1, h2, h3⟩
      exact ⟨_, n, rfl, Nat.le_refl _, fun e => (by cases e), h2, Or.inr ⟨_, rfl, Nat.le_refl _, by omega, h1⟩⟩

/-- The state of a script: valid, in rows of the call's own, holding what p held but for what is gone. -/
def Sta (w : World) (B0 B1 B2 B3 : Nat) (ao ap af : Option Addr) (no np nf nc : Nat) (c p : Nat → Int) (gone : Nat → Prop) (l : Nat) : Prop :=
  ∃ o' p' f', Valid l np nf nc o' p' f' c ∧ (∀ q, q < np → (p' q = -1 ↔ p q = -1 ∨ gone q)) ∧ l ≤ no ∧ Mine w B0 B1 ao l o' ∧ Mine w B1 B2 ap np p' ∧ Mine w B2 B3 af nf f'

theorem Sta.congr {w : World} {B0 B1 B2 B3 : Nat} {ao ap af : Option Addr} {no np nf nc : Nat} {c p : Nat → Int} {g g' : Nat → Prop} {l : Nat} (h : Sta w B0 B1 B2 B3 ao ap af no np nf nc c p g l) (e : ∀ q, q < np → (g q ↔ g' q)) : Sta w B0 B1 B2 B3 ao ap af no np nf nc c p g' l := by
  obtain ⟨o', p', f', h1, h2, h3⟩ := h
  exact ⟨o', p', f', h1, fun q hq => by rw [h2 q hq, e q hq], h3⟩
theorem Sta.below {B : Nat} {w w' : World} {B0 B1 B2 B3 : Nat} {ao ap af : Option Addr} {no np nf nc : Nat} {c p : Nat → Int} {g : Nat → Prop} {l : Nat} (h : Sta w B0 B1 B2 B3 ao ap af no np nf nc c p g l) (hB : Below B w w') (h1 : B1 ≤ B) (h2 : B2 ≤ B) (h3 : B3 ≤ B) : Sta w' B0 B1 B2 B3 ao ap af no np nf nc c p g l := by
  obtain ⟨o', p', f', k1, k2, k3, k4, k5, k6⟩ := h
  exact ⟨o', p', f', k1, k2, k3, k4.below hB h1, k5.below hB h2, k6.below hB h3⟩

theorem zz_sta (B0 B1 B2 B3 : Nat) (ao ap af : Option Addr) (no co np cp nf cf nc : Nat) (c p : Nat → Int) (gone : Nat → Prop) (l i : Nat) (h : Int) (w : World)
    (hS : Sta w B0 B1 B2 B3 ao ap af no np nf nc c p gone l) (b1 : B0 ≤ B1) (hco : no ≤ co) (zo : no ≤ 1048576) (zf : nf ≤ 1048576) (hi : i < np) (hh : c i = h) (hB : B0 ≤ w.heap.size) :
    Calls Try.prog 16 #[.slice ao l co, .slice ap np cp, .slice af nf cf, .int .i64 i, .int .i64 h] w fun e w' =>
      ∃ l', e = .returned (.tuple #[.slice ao l' co, .slice ap np cp, .slice af nf cf]) ∧ Sta w' B0 B1 B2 B3 ao ap af no np nf nc c p (fun q => gone q ∨ q = i) l' ∧ Below B0 w w' := by
  obtain ⟨o', p', f', hV, hg, hl, m0, m1, m2⟩ := hS
  obtain ⟨pb, rfl, p1, p2, hp⟩ := m1.get (by omega)
  by_cases hn : p' i < 0
  · have hz0 : p' i = -1 := hV.not_in hi hn
    have hpb : pb < w.heap.size := World.block_lt_of_cell? w ⟨pb, i, none⟩ (hp i hi).1
    -- the rows lie below the world's end
    have lo : Mine w B0 B1 ao l o' := m0
    refine (zz_not ao af pb l co np cp nf cf p' i h w hp hi hn).mono ?_
    rintro e w' ⟨rfl, hb⟩
    refine ⟨l, rfl, ⟨o', p', f', hV, ?_, hl, ?_, Or.inr ⟨pb, rfl, p1, p2, hp.below hb hpb⟩, ?_⟩, hb.mono hB⟩
    · intro q hq
      rw [hg q hq]
      by_cases e : q = i
      · subst e
        have := (hg q hq).1 hz0
        exact ⟨fun _ => Or.inr (Or.inr rfl), fun _ => this⟩
      · exact ⟨fun h => by rcases h with h | h; exact Or.inl h; exact Or.inr (Or.inl h), fun h => by rcases h with h | h | h; exact Or.inl h; exact Or.inr h; exact absurd h e⟩
    · rcases m0 with m0 | ⟨b, e, k1, k2, k⟩
      · exact Or.inl m0
      · by_cases hl0 : l = 0
        · exact Or.inl hl0
        · exact Or.inr ⟨b, e, k1, k2, k.below hb (World.block_lt_of_cell? w ⟨b, 0, none⟩ (k 0 (by omega)).1)⟩
    · rcases m2 with m2 | ⟨b, e, k1, k2, k⟩
      · exact Or.inl m2
      · by_cases hl0 : nf = 0
        · exact Or.inl hl0
        · exact Or.inr ⟨b, e, k1, k2, k.below hb (World.block_lt_of_cell? w ⟨b, 0, none⟩ (k 0 (by omega)).1)⟩
  · obtain ⟨K, hK⟩ := Int.eq_ofNat_of_zero_le (show 0 ≤ p' i by omega)
    have hKo : K < l ∧ o' K = i := by
      rcases hV.bij.two i hi with h1 | h1
      · omega
      · rw [hK, Int.toNat_natCast] at h1; omega
    have hrg := hV.rng K hKo.1
    rw [hKo.2, Int.toNat_natCast, hh] at hrg
    obtain ⟨H, rfl⟩ := Int.eq_ofNat_of_zero_le hrg.1
    obtain ⟨ob, rfl, o1, o2, ho⟩ := m0.get (by omega)
    obtain ⟨fb, rfl, f1, f2, hf⟩ := m2.get (by omega)
    have b2 : B1 ≤ B2 := by omega
    refine (zz_in ob pb fb l co np cp nf cf o' p' f' c i H K w B0 ho hp hf (by omega) (by omega) (by omega) (by omega) (by omega) zf o1 (by omega) (by omega) hi hK (Way.start hV.bij hV.grp hKo.1 hKo.2 hh) (by omega)).mono ?_
    rintro e w' ⟨l', o2', p2', f2', rfl, hl', hO, k0, k1, k2, hb⟩
    refine ⟨l', rfl, ⟨o2', p2', f2', hO.valid hV, ?_, by omega, Or.inr ⟨ob, rfl, o1, o2, k0⟩, Or.inr ⟨pb, rfl, p1, p2, k1⟩, Or.inr ⟨fb, rfl, f1, f2, k2⟩⟩, hb⟩
    intro q hq
    by_cases e : q = i
    · subst e
      exact ⟨fun _ => Or.inr (Or.inr rfl), fun _ => hO.gone⟩
    · rw [hO.same q hq e, hg q hq]
      exact ⟨fun h => by rcases h with h | h; exact Or.inl h; exact Or.inr (Or.inl h), fun h => by rcases h with h | h | h; exact Or.inl h; exact Or.inr h; exact absurd h e⟩

set_option maxHeartbeats 1000000 in
/-- Two rows that read the same are equal. -/
theorem equal_yes (a b : Option Addr) (n c d : Nat) (G H : Nat → Int) (w : World) (r0 : Row w a n G) (r1 : Row w b n H) (hn : n ≤ 1048576) (he : ∀ j, j < n → G j = H j) :
    Calls Try.prog 18 #[.slice a n c, .slice b n d] w fun e w' => e = .returned (.bool true) ∧ ∃ q, w' = w.drewN q := by
  have HE : Hid (∀ j, j < n → G j = H j) := he
  clear he
  have hd0 : ((n : Int) != n) = false := by simp
  go_enter Try.func18, Try.ntmps18
  go_wp2
  go_loopw [5] (fun sk wr => ∃ k q : Nat, k ≤ n ∧ sk = .int .i64 k ∧ wr = w.drewN q) (fun sk _ => n - (intOf sk).toNat)
  case atStart => exact ⟨0, 0, Nat.zero_le _, rfl, rfl⟩
  case round =>
    obtain ⟨k, q, hk, rfl, rfl⟩ := hrel
    by_cases hlt : k < n
    · obtain ⟨b0, f0, rfl, R0⟩ := r0.get (by omega)
      obtain ⟨b1, f1, rfl, R1⟩ := r1.get (by omega)
      have hlt' : (k : Int) < n := by omega
      have c0 := R0 k hlt
      have c1 := R1 k hlt
      rw [← HE.out k hlt] at c1
      obtain ⟨x, hx⟩ : ∃ x, G k = x := ⟨_, rfl⟩
      rw [hx] at c0 c1
      have hdx : (x != x) = false := by simp
      clear hx
      go_wp2_with fail
      go_quiet (fail)
      go_wp2
      go_roundw
      case rel => exact ⟨k + 1, _, by omega, by go_num, rfl⟩
      case measure => simp [intOf]; omega
    · have hge : ¬ (k : Int) < n := by omega
      go_wp2
      go_ret
      exact ⟨rfl, q, rfl⟩

/-- Is q among the first k of ids? -/
def gn (ids : Nat → Int) : Nat → Nat → Bool
  | 0, _ => false
  | k + 1, q => gn ids k q || ids k == (q : Int)
theorem gn_iff (ids : Nat → Int) (q : Nat) : ∀ k, gn ids k q = true ↔ ∃ j, j < k ∧ ids j = q
  | 0 => by simp [gn]
  | k + 1 => by
    simp only [gn, Bool.or_eq_true, beq_iff_eq, gn_iff ids q k]
    constructor
    · rintro (⟨j, h1, h2⟩ | h)
      · exact ⟨j, by omega, h2⟩
      · exact ⟨k, by omega, h⟩
    · rintro ⟨j, h1, h2⟩
      by_cases e : j = k
      · subst e; exact Or.inr h2
      · exact Or.inl ⟨j, by omega, h2⟩

/-- Block b holds the n bools G 0, G 1, ..; none of those cells is frozen. -/
def OwnB (w : World) (b n : Nat) (G : Nat → Bool) : Prop :=
  ∀ j, j < n → w.cell? ⟨b, j, none⟩ = some (.bool (G j)) ∧ w.frozen? ⟨b, j, none⟩ = false
theorem OwnB.congr {w : World} {b n : Nat} {G G' : Nat → Bool} (h : OwnB w b n G) (e : ∀ j, j < n → G j = G' j) : OwnB w b n G' :=
  fun j hj => by rw [← e j hj]; exact h j hj
theorem OwnB.set {w : World} {b n : Nat} {G : Nat → Bool} (h : OwnB w b n G) {i : Nat} (hi : i < n) (v : Bool) : OwnB (w.setCell ⟨b, i, none⟩ (.bool v)) b n (fun t => if t = i then v else G t) := by
  intro j hj
  refine ⟨?_, by rw [World.frozen?_setCell]; exact (h j hj).2⟩
  show _ = some (Value.bool (if j = i then v else G j))
  by_cases e : j = i
  · subst e
    rw [if_pos rfl]
    exact World.cell?_setCell_same _ _ _ (h j hj).1
  · rw [if_neg e, World.cell?_setCell_other _ _ _ _ (ne_off (Ne.symm e))]
    exact (h j hj).1
theorem info4 : (Try.prog.info? 4).map (fun i => (i.zero, i.size, i.bytes)) = some (some (.bool false), 1, 1) := by kernel_rfl
theorem run_make_bools (n : Nat) (h : n ≤ 1048576) (w : World) :
    (Instr.makeSlice 34 (.int .i64 (n : Int)) (.int .i64 (n : Int))).run Try.prog w = .ok (.slice (some ⟨w.heap.size, 0, none⟩) n n) (w.alloc (.cells (madeCells #[.bool false] n) 4)) :=
  run_make_row' (P := Try.prog) 34 4 (.bool false) 1 Try.underlying34 info4 rfl .i64 .i64 n (by omega) (by omega) w
theorem ownB_made (w : World) (n : Nat) : OwnB (w.alloc (.cells (madeCells #[.bool false] n) 4)) w.heap.size n (fun _ => false) := by
  intro j hj
  refine ⟨?_, by simp⟩
  simp [madeCells, hj, Nat.mod_one]

end Go.Proofs.Qxb6000793a
