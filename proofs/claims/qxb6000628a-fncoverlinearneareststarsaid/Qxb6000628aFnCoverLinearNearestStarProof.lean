/-
  The proof of 'Rows.FnCoverLinearNearestStarSaid'. The frame is typed by hand after the guide's shells (a law over slices; a slice of slices opened by 'open_int_rows').
-/
import Derived.Test.Qxb6000628aRows
import Derived.Test.Qxb6000628aLaw
import Derived.WalkKit
import Derived.ProofKit
import Derived.OpenShut
import Derived.ShutString
import Derived.ChangeOld
import Derived.Below
import Derived.Deep.Matrix
namespace Go.Proofs.Qxb6000628a.fnCoverLinearNearestStar
open Go.ChangeShapes Go.WideShapes Go.ChangeAt Go.RowKit Go.Deep
set_option linter.unusedVariables false

theorem own : ownKnob Try.prog.godebug = none := by kernel_rfl
theorem laidOut : laidOutB Try.prog = true := by kernel_rfl
theorem cells54 : Try.prog.cellsOf 54 = 1 := by kernel_rfl
theorem cells21 : Try.prog.cellsOf 21 = 1 := by kernel_rfl
theorem cells5 : Try.prog.cellsOf 5 = 1 := by kernel_rfl

/-- A row that was read, as the walk takes it. -/
theorem row_of {k : IntKind} {W : World} {x : Addr} {len cap : Nat} {zs : List Int} (hl : len ≤ cap) (hz : zs.length = cap) (hc : ∀ i, i < zs.length → W.cell? (x.add i) = some (.int k (zs.getD i 0))) : Row W (some x) len (nums k (fun j => zs.getD j 0)) := by
  by_cases h0 : len = 0
  · exact Or.inl h0
  · right
    obtain ⟨b, off, spot⟩ := x
    have hspot : spot = none := by simpa [Addr.add] using World.cell?_spot (hc 0 (by omega))
    subst hspot
    exact ⟨b, off, rfl, fun j hj => by rw [← add_plain]; exact hc j (by omega)⟩
theorem rng_of {zs : List Int} {len : Nat} (hl : len ≤ zs.length) (hw : ∀ n ∈ zs, (Lit.int .i32 n).wf = true) : ∀ j, j < len → -2147483648 ≤ zs.getD j 0 ∧ zs.getD j 0 ≤ 2147483647 := by
  intro j hj
  have hm : zs.getD j 0 ∈ zs := by
    rw [List.getD_eq_getElem?_getD, List.getElem?_eq_getElem (by omega)]
    exact List.getElem_mem _
  have := bounds_i32 (hw _ hm)
  omega

set_option maxRecDepth 100000 in
theorem lifted (os : Os) (started : os.Started) (H : Type) (enc : TypeId × Value → H) :
    ReturnsInHanded {} Try.checked os 7 .any (Rows.fnCoverLinearNearestStarSpec.pre6 enc Try.prog Try.f7 Rows.fnCoverLinearNearestStarRow.domain false) (Rows.fnCoverLinearNearestStarSpec.post enc Try.prog Try.f7 false true false false) := by
  refine returnsInHanded_of_change (C := Try.checked) own started (by kernel_rfl) Try.func7
    (ChangeSpec.witness6 (enc := enc) (C := Try.checked) false ⟨#[], #[.slice none 0 0, .slice none 0 0, .slice none 0 0], []⟩ 8 (by kernel_rfl) (by kernel_rfl) (by kernel_rfl) (by kernel_rfl)) ?_
  intro W base args ds gs before hval0 hW hcnd _
  have hval : ∀ (j : Nat) t v, Try.f7.params[j]? = some t → args[j]? = some v → Value.okWide Try.prog W .any base t v := hval0
  have hW' := hW
  obtain ⟨p, q, hA0, hV, rfl, hfz, hnd⟩ := hW
  have hA : DataW.TrodAll enc Try.prog W 0 (fun _ => true) true Try.f7.params.toList args.toList ds p := hA0
  rw [Try.params7] at hA hval
  obtain ⟨v0, vs0, d0, ds0, p0, q0, hargs, rfl, rfl, h0, r0⟩ := trodAll_cons hA
  obtain ⟨v1, vs1, d1, ds1, p1, q1, rfl, rfl, rfl, h1, r1⟩ := trodAll_cons r0
  obtain ⟨v2, vs2, d2, ds2, p2, q2, rfl, rfl, rfl, h2, r2⟩ := trodAll_cons r1
  obtain ⟨rfl, rfl, rfl⟩ := trodAll_nil r2
  obtain rfl : args = #[v0, v1, v2] := by cases args; simp_all
  obtain ⟨rfl, rfl⟩ := trodVars_none hV
  obtain ⟨a0, len0, cap0, rfl⟩ := okWide_slice Try.underlying41 (hval 0 41 v0 rfl rfl)
  have k0 := h0
  have lt0 : ∀ x ∈ p0, x.block < W.heap.size := by obtain ⟨m, hm⟩ := k0; exact DataW.trod_lt m _ _ _ hm
  obtain ⟨op, w0, l0, n0⟩ : ∃ op, Row W a0 len0 (nums .u8 op) ∧ len0 ≤ maxLen ∧ (a0 = none → len0 = 0 ∧ cap0 = 0) := by
    obtain ⟨fuel, hf⟩ := h0
    rcases open_ints Try.underlying41 Try.underlying5 cells5 hf with ⟨hcs, _⟩ | ⟨x, l, c, zs, hcs, _, hl, hm, hz, _, hcell, hwz⟩
    · simp [Value.cells] at hcs
      obtain ⟨rfl, rfl, rfl⟩ := hcs
      exact ⟨fun _ => 0, Or.inl rfl, Nat.zero_le _, fun _ => ⟨rfl, rfl⟩⟩
    · simp [Value.cells] at hcs
      obtain ⟨rfl, rfl, rfl⟩ := hcs
      exact ⟨_, row_of hl (by simpa using hz) hcell, Nat.le_trans hl hm, fun e => by cases e⟩
  obtain ⟨a1, len1, cap1, rfl⟩ := okWide_slice Try.underlying54 (hval 1 54 v1 rfl rfl)
  have k1 := h1
  have lt1 : ∀ x ∈ p1, x.block < W.heap.size := by obtain ⟨m, hm⟩ := k1; exact DataW.trod_lt m _ _ _ hm
  obtain ⟨arg, w1, l1, n1, g1⟩ : ∃ arg, Row W a1 len1 (nums .i32 arg) ∧ len1 ≤ maxLen ∧ (a1 = none → len1 = 0 ∧ cap1 = 0) ∧ ∀ j, j < len1 → -2147483648 ≤ arg j ∧ arg j ≤ 2147483647 := by
    obtain ⟨fuel, hf⟩ := h1
    rcases open_ints Try.underlying54 Try.underlying21 cells21 hf with ⟨hcs, _⟩ | ⟨x, l, c, zs, hcs, _, hl, hm, hz, _, hcell, hwz⟩
    · simp [Value.cells] at hcs
      obtain ⟨rfl, rfl, rfl⟩ := hcs
      exact ⟨fun _ => 0, Or.inl rfl, Nat.zero_le _, fun _ => ⟨rfl, rfl⟩, fun j hj => by omega⟩
    · simp [Value.cells] at hcs
      obtain ⟨rfl, rfl, rfl⟩ := hcs
      have hz' : zs.length = cap1 := by simpa using hz
      exact ⟨_, row_of hl hz' hcell, Nat.le_trans hl hm, (fun e => by cases e), rng_of (by omega) hwz⟩
  obtain ⟨a2, len2, cap2, rfl⟩ := okWide_slice Try.underlying55 (hval 2 55 v2 rfl rfl)
  have k2 := h2
  have lt2 : ∀ x ∈ p2, x.block < W.heap.size := by obtain ⟨m, hm⟩ := k2; exact DataW.trod_lt m _ _ _ hm
  obtain ⟨A, L, C, G, w2, l2, n2, g2⟩ : ∃ A L C G, Cls W a2 len2 A L C G ∧ len2 ≤ maxLen ∧ (a2 = none → len2 = 0 ∧ cap2 = 0) ∧ ∀ r, r < len2 → L r ≤ maxLen := by
    obtain ⟨fuel, hf⟩ := h2
    rcases open_int_rows Try.underlying55 Try.underlying54 Try.underlying21 cells54 cells21 hf with ⟨hcs, _⟩ | ⟨x, l, c, A, L, C, Z, hcs, _, hl, hm, _, hr⟩
    · simp [Value.cells] at hcs
      obtain ⟨rfl, rfl, rfl⟩ := hcs
      exact ⟨fun _ => none, fun _ => 0, fun _ => 0, fun _ _ => 0, ⟨Or.inl rfl, fun r hr => by omega, fun r hr => by omega, fun r hr => by omega⟩, Nat.zero_le _, fun _ => ⟨rfl, rfl⟩, fun r hr => by omega⟩
    · simp [Value.cells] at hcs
      obtain ⟨rfl, rfl, rfl⟩ := hcs
      refine ⟨A, L, C, fun r j => (Z r).getD j 0, ⟨?_, ?_, ?_, ?_⟩, Nat.le_trans hl hm, (fun e => by cases e), fun r hr' => ?_⟩
      · by_cases h0 : len2 = 0
        · exact Or.inl h0
        · right
          obtain ⟨b, off, spot⟩ := x
          have hspot : spot = none := by simpa [Addr.add] using World.cell?_spot (hr 0 (by omega)).1
          subst hspot
          exact ⟨b, off, rfl, fun j hj => by rw [← add_plain]; exact (hr j (by omega)).1⟩
      · intro r hr'
        obtain ⟨_, u1, u2, u3, u4, u5, u6⟩ := hr r (by omega)
        cases hA' : A r with
        | none => exact Or.inl (by have := u5 hA'; omega)
        | some a' => exact row_of u1 u3 (fun i hi => (u6 a' hA').2 i (by omega))
      · intro r hr' e
        obtain ⟨_, u1, u2, u3, u4, u5, u6⟩ := hr r (by omega)
        have := u5 e
        omega
      · intro r hr'
        obtain ⟨_, u1, u2, u3, u4, u5, u6⟩ := hr r (by omega)
        exact rng_of (by omega) u4
      · obtain ⟨_, u1, u2, _⟩ := hr r (by omega)
        exact Nat.le_trans u1 u2
  clear hA0 hval0
  refine (lawC a0 a1 a2 len0 cap0 len1 cap1 len2 cap2 op arg A L C G W l0 l1 l2 w0 w1 w2 g2 g1 n0 n1 n2).mono fun e W' ⟨he, bel⟩ => ?_
  subst he
  exact ⟨_, rfl, _, _, _, [], _, [], hW', trodAll_mk1 (shut_bool Try.underlying4 _), (trodAll_cons_mk (Below.trod laidOut (by kernel_rfl) (of_decide_eq_true (by kernel_rfl)) k0 bel lt0) (trodAll_cons_mk (Below.trod laidOut (by kernel_rfl) (of_decide_eq_true (by kernel_rfl)) k1 bel lt1) (trodAll_cons_mk (Below.trod laidOut (by kernel_rfl) (of_decide_eq_true (by kernel_rfl)) k2 bel lt2) trodAll_mk0))), rfl, bel.frame _, fun h => by cases h⟩

theorem over : Rows.fnCoverLinearNearestStarRow.holds Try.pinned (OpenSpec.ofChange Rows.fnCoverLinearNearestStarSpec) :=
  OpenClaim.holds_of_wide 7 Try.f7 rfl rfl rfl rfl rfl rfl rfl ⟨rfl, rfl, rfl, rfl, rfl⟩ rfl rfl rfl rfl rfl (by kernel_rfl) Try.func7 (by kernel_rfl)
    (of_decide_eq_true (by kernel_rfl)) (by unfold Func.isWrapper; first | (rw [if_pos (by decide +kernel)]; kernel_rfl) | (rw [if_neg (by decide +kernel)]; exact ⟨rfl, rfl⟩))
    (fun os started H enc _ => lifted os started H enc)

/-- THE STATEMENT -/
theorem proved : Rows.FnCoverLinearNearestStarSaid := over
end Go.Proofs.Qxb6000628a.fnCoverLinearNearestStar
