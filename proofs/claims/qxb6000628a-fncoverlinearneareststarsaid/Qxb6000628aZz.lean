/-
  The walk of ZZCover.
-/
import Derived.Test.Qxb6000628aCover
import Derived.Deep.DeepCutAuto
namespace Go.Proofs.Qxb6000628a
open Go.RowKit

theorem info89 : (Try.prog.info? 89).map (fun i => (i.zero, i.size, i.bytes)) = some (some (.agg #[.int .u8 0, .int .i32 0, .slice none 0 0, .int .i32 0]), 4, 40) := by kernel_rfl
/-- The world with a new row of n zero instructions. -/
def mkI (W : World) (n : Nat) : World := W.alloc (.cells (madeCells #[.int .u8 0, .int .i32 0, .slice none 0 0, .int .i32 0] (n * 4)) 89)
def mkC (W : World) (n : Nat) : World := W.alloc (.cells (madeCells #[.slice none 0 0] n) 86)
theorem mkI_size (W : World) (n : Nat) : (mkI W n).heap.size = W.heap.size + 1 := by simp [mkI]
theorem mkC_size (W : World) (n : Nat) : (mkC W n).heap.size = W.heap.size + 1 := by simp [mkC]
theorem mkC_own (W : World) (n : Nat) : Own (mkC W n) W.heap.size n (fun _ => .slice none 0 0) := made_own W _ _ n
theorem mkI_own (W : World) (n : Nat) : ∃ V, Own (mkI W n) W.heap.size (n * 4) V := by
  refine ⟨fun j => (#[.int .u8 0, .int .i32 0, .slice none 0 0, .int .i32 0] : Array Value)[j % 4]!, fun j hj => ⟨?_, by simp [mkI]⟩⟩
  unfold mkI
  rw [World.cell?_alloc_new]
  simp [madeCells, hj]
theorem make80 (n : Nat) (h : n ≤ 1048576) (w : World) :
    (Instr.makeSlice 80 (.int .i64 (n : Int)) (.int .i64 (n : Int))).run Try.prog w = .ok (.slice (some ⟨w.heap.size, 0, none⟩) n n) (mkI w n) := by
  obtain ⟨i, hi, hzz⟩ := Option.map_eq_some_iff.1 info89
  simp only [Prod.mk.injEq] at hzz
  obtain ⟨hz, hs, hb⟩ := hzz
  have := run_make (P := Try.prog) w 80 89 i _ Try.underlying80 hi hz .i64 .i64 n n (by omega) (Int.le_refl _) (by rw [hb]; omega) (by omega)
  rw [hs] at this
  simp only [Int.toNat_natCast] at this
  exact this
theorem make81' (n : Nat) (h : n ≤ 1048576) (w : World) :
    (Instr.makeSlice 81 (.int .i64 (n : Int)) (.int .i64 (n : Int))).run Try.prog w = .ok (.slice (some ⟨w.heap.size, 0, none⟩) n n) (mkC w n) := make81 n (by omega) w

/-- The program as it is laid out at the start. -/
structure Z0 (w wc : World) (ib cb gb n m : Nat) : Prop where
  gi : wc.cell? ⟨gb, 0, none⟩ = some (.slice (some ⟨ib, 0, none⟩) n n)
  gc : wc.cell? ⟨gb, 1, none⟩ = some (.slice (some ⟨cb, 0, none⟩) m m)
  oi : ∃ V, Own wc ib (n * 4) V
  oc : Own wc cb m (fun _ => .slice none 0 0)
  below : Below w.heap.size w wc
  bi : w.heap.size ≤ ib
  bc : w.heap.size ≤ cb
  bg : w.heap.size ≤ gb
  li : ib < wc.heap.size
  lc : cb < wc.heap.size
  lg : gb < wc.heap.size
  ic : ib ≠ cb
  gib : gb ≠ ib
  gcb : gb ≠ cb
theorem z0_a (w : World) (n m : Nat) (c : Array Value) (h0 : c[0]? = some (.slice (some ⟨w.heap.size + 1, 0, none⟩) n n)) (h1 : c[1]? = some (.slice (some ⟨w.heap.size, 0, none⟩) m m)) :
    Z0 w ((mkI (mkC w.drew m) n).alloc (.cells c 85)) (w.heap.size + 1) w.heap.size (w.heap.size + 1 + 1) n m := by
  have e : (mkI (mkC w.drew m) n).heap.size = w.heap.size + 1 + 1 := by rw [mkI_size, mkC_size]; rfl
  have bC : Below w.heap.size w (mkC w.drew m) := (Below.refl w.heap.size w).drew.trans (below_alloc w.drew _)
  have eC : (mkC w.drew m).heap.size = w.heap.size + 1 := by rw [mkC_size]; rfl
  have bI := below_alloc (mkC w.drew m) (.cells (madeCells #[.int .u8 0, .int .i32 0, .slice none 0 0, .int .i32 0] (n * 4)) 89)
  have bG := below_alloc (mkI (mkC w.drew m) n) (.cells c 85)
  obtain ⟨V, hV⟩ := mkI_own (mkC w.drew m) n
  have hC := mkC_own w.drew m
  rw [eC] at bI hV
  rw [e] at bG
  refine ⟨?_, ?_, ⟨V, hV.below bG (by omega)⟩, (hC.below bI (by show w.heap.size < _; omega)).below bG (by show w.heap.size < _; omega), (bC.trans (bI.mono (by omega))).trans (bG.mono (by omega)), by omega, by omega, by omega, by simp [e], by simp [e]; omega, by simp [e], by omega, by omega, by omega⟩
  · rw [← e, World.cell?_alloc_new]; exact h0
  · rw [← e, World.cell?_alloc_new]; exact h1
theorem z0_b (w : World) (n m : Nat) (c : Array Value) (h0 : c[0]? = some (.slice (some ⟨w.heap.size, 0, none⟩) n n)) (h1 : c[1]? = some (.slice (some ⟨w.heap.size + 1, 0, none⟩) m m)) :
    Z0 w ((mkC (mkI w.drew n) m).alloc (.cells c 85)) w.heap.size (w.heap.size + 1) (w.heap.size + 1 + 1) n m := by
  have e : (mkC (mkI w.drew n) m).heap.size = w.heap.size + 1 + 1 := by rw [mkC_size, mkI_size]; rfl
  have bC : Below w.heap.size w (mkI w.drew n) := (Below.refl w.heap.size w).drew.trans (below_alloc w.drew _)
  have eC : (mkI w.drew n).heap.size = w.heap.size + 1 := by rw [mkI_size]; rfl
  have bI := below_alloc (mkI w.drew n) (.cells (madeCells #[.slice none 0 0] m) 86)
  have bG := below_alloc (mkC (mkI w.drew n) m) (.cells c 85)
  obtain ⟨V, hV⟩ := mkI_own w.drew n
  have hC := mkC_own (mkI w.drew n) m
  rw [eC] at bI hC
  rw [e] at bG
  refine ⟨?_, ?_, ⟨V, (hV.below bI (by show w.heap.size < _; omega)).below bG (by show w.heap.size < _; omega)⟩, hC.below bG (by omega), (bC.trans (bI.mono (by omega))).trans (bG.mono (by omega)), by omega, by omega, by omega, by simp [e]; omega, by simp [e], by simp [e], by omega, by omega, by omega⟩
  · rw [← e, World.cell?_alloc_new]; exact h0
  · rw [← e, World.cell?_alloc_new]; exact h1

/-- The end: a new row of the numbers cv; nothing old has turned. -/
def CEnd (n : Nat) (cv : Nat → Int) (w : World) (e : Ending) (w' : World) : Prop :=
  ∃ b', e = .returned (.slice (some ⟨b', 0, none⟩) n n) ∧ Own w' b' n (nums .i32 cv) ∧ Below w.heap.size w w' ∧ b' < w'.heap.size

set_option maxHeartbeats 8000000 in
set_option maxRecDepth 1000000 in
theorem zz_any (aO aA aL aC : Option Addr) (n cO cA cL m cC : Nat) (op arg : Nat → Int) (A : Nat → Option Addr) (L C : Nat → Nat) (G : Nat → Nat → Int) (sl : Nat → Bool) (w : World) (hn : n ≤ 65536) (hm : m ≤ 65536)
    (rO : Row w aO n (nums .u8 op)) (rA : Row w aA n (nums .i32 arg)) (rL : Row w aL n (fun _ => .slice none 0 0)) (hC : Cls w aC m A L C G)
    (hL : ∀ r, r < m → L r ≤ 1048576) (hW : ∀ r, r < m → WF (G r) (L r)) (hS : SlOk n m op arg L G sl) (hops : ∀ i, i < n → op i = 0 ∨ op i = 1 ∨ op i = 2 ∨ op i = 3 ∨ op i = 6) :
    Calls Try.prog 37 #[.slice aO n cO, .slice aA n cA, .slice aL n cL, .slice aC m cC] w fun e w' => CEnd n (cov op sl n) w e w' := by
  have m80 := make80 n (by omega)
  have m81 := make81' m (by omega)
  have zI := mkI_size
  have zC := mkC_size
  go_enter Try.func37, Try.ntmps37
  go_upto_region 1 with fail
  go_cut [9] (fun s9 wc => ∃ ib cb gb, s9 = .pointer (some ⟨gb, 0, none⟩) ∧ Z0 w wc ib cb gb n m)
  case first =>
    go_region
    all_goals
      go_wp2
      go_meet
      case rel => first | exact ⟨_, _, _, rfl, z0_a w n m _ rfl rfl⟩ | exact ⟨_, _, _, rfl, z0_b w n m _ rfl rfl⟩
  case rest =>
    obtain ⟨ib, cb, gb, rfl, hZ⟩ := hcut
    rename World => w0
    clear m80 m81 zI zC
    go_wp2
    go_loopw [10] (fun s10 wr => ∃ k : Nat, k ≤ m ∧ s10 = .int .i64 k ∧ Own wr cb m (fun r => if r < k then sls A L C r else .slice none 0 0) ∧ Kept cb w0.heap.size w0 wr ∧ wr.heap.size = w0.heap.size) (fun s10 _ => m - (intOf s10).toNat)
    case atStart => exact ⟨0, Nat.zero_le _, rfl, hZ.oc.congr (fun j hj => by rw [if_neg (by omega)]), ⟨rfl, rfl, rfl, Nat.le_refl _, fun _ _ _ => rfl⟩, rfl⟩
    case round =>
      obtain ⟨k, hk, rfl, hO, hK, hs⟩ := hrel
      rename World => wr
      have li := hZ.li
      have lc := hZ.lc
      have lg := hZ.lg
      have ic := hZ.ic
      have gib := hZ.gib
      have gcb := hZ.gcb
      have bi := hZ.bi
      have bc := hZ.bc
      have bg := hZ.bg
      have hBw : Below w.heap.size w wr := hZ.below.trans (hK.below (by have := hZ.below.size; omega) hZ.bc)
      by_cases hlt : k < m
      · have hlt' : (k : Int) < m := by omega
        have y1 : wr.cell? ⟨gb, 1, none⟩ = some (.slice (some ⟨cb, 0, none⟩) m m) := by rw [hK.cell (p := ⟨gb, 1, none⟩) lg gcb]; exact hZ.gc
        obtain ⟨bC, oC, hx, R⟩ := (hC.outer.below hBw (Nat.le_refl _)).get (by omega)
        subst hx
        have ck := R k hlt
        rw [sls_at] at ck
        obtain ⟨co0, fo⟩ := hO k hlt
        have co1 : wr.cell? ⟨cb, k, none⟩ = some (.slice none 0 0) := by rw [co0]; simp
        clear co0
        have NX : Own (wr.setCell ⟨cb, k, none⟩ (.slice (A k) (L k) (C k))) cb m (fun r => if r < k + 1 then sls A L C r else .slice none 0 0) := by
          refine (hO.set hlt _).congr ?_
          intro j hj
          by_cases e : j = k
          · subst e; rw [upd_same, if_pos (by omega), sls_at]
          · rw [upd_other _ _ _ _ e]
            by_cases e2 : j < k
            · rw [if_pos e2, if_pos (by omega)]
            · rw [if_neg e2, if_neg (by omega)]
        go_wp2_with fail
        go_region
        go_wp2
        go_roundw
        case rel => exact ⟨k + 1, by omega, by go_num, NX, ⟨hK.os, hK.tape, hK.output, (hK.setCell (Or.inl rfl) _).size, (hK.setCell (Or.inl rfl) _).block⟩, by simp [hs]⟩
        case measure => simp [intOf]; omega
      · have hge : ¬ (k : Int) < m := by omega
        have hO' : Own wr cb m (sls A L C) := hO.congr (fun j hj => by rw [if_pos (by omega)])
        obtain ⟨V0, hV0⟩ := hZ.oi
        have hV : Own wr ib (n * 4) V0 := fun j hj => by
          have hb : wr.heap[ib]? = w0.heap[ib]? := hK.block ib li ic
          rw [World.cell?_of_block (w := w0) (a := ⟨ib, j, none⟩) hb, World.frozen?_of_block (w := w0) (a := ⟨ib, j, none⟩) hb]
          exact hV0 j hj
        have x0 : wr.cell? ⟨gb, 0, none⟩ = some (.slice (some ⟨ib, 0, none⟩) n n) := by rw [hK.cell (p := ⟨gb, 0, none⟩) lg gcb]; exact hZ.gi
        have x1 : wr.cell? ⟨gb, 1, none⟩ = some (.slice (some ⟨cb, 0, none⟩) m m) := by rw [hK.cell (p := ⟨gb, 1, none⟩) lg gcb]; exact hZ.gc
        clear hO hV0 hK hZ hlt hk
        rename World => x
        go_wp2
        go_loopw [11] (fun s11 wr => ∃ (k : Nat) (V : Nat → Value), k ≤ n ∧ s11 = .int .i64 k ∧ Own wr ib (n * 4) V ∧ Hid (∀ i, i < k → V (i * 4) = .int .u8 (op i) ∧ V (i * 4 + 1) = .int .i32 (arg i) ∧ V (i * 4 + 3) = .int .i32 (-1)) ∧ Kept ib x.heap.size x wr ∧ wr.heap.size = x.heap.size) (fun s11 _ => n - (intOf s11).toNat)
        case atStart => exact ⟨0, V0, Nat.zero_le _, rfl, hV, fun i hi => by omega, ⟨rfl, rfl, rfl, Nat.le_refl _, fun _ _ _ => rfl⟩, rfl⟩
        case round =>
          obtain ⟨k, V, hk, rfl, hO, hVk, hK, hs2⟩ := hrel
          rename World => y
          have hBy : Below w.heap.size w y := hBw.trans (hK.below (by have := hBw.size; omega) bi)
          have y0 : y.cell? ⟨gb, 0, none⟩ = some (.slice (some ⟨ib, 0, none⟩) n n) := by rw [hK.cell (p := ⟨gb, 0, none⟩) (by show gb < _; omega) gib]; exact x0
          by_cases hlt : k < n
          · have hlt' : (k : Int) < n := by omega
            obtain ⟨bO, oO, rfl, RO⟩ := (rO.below hBy (Nat.le_refl _)).get (by omega)
            obtain ⟨bA, oA, rfl, RA⟩ := (rA.below hBy (Nat.le_refl _)).get (by omega)
            obtain ⟨bL, oL, rfl, RL⟩ := (rL.below hBy (Nat.le_refl _)).get (by omega)
            have co := RO k hlt
            have ca := RA k hlt
            have cl := RL k hlt
            rw [nums_at] at co ca
            obtain ⟨v0, f0⟩ := hO (k * 4) (by omega)
            obtain ⟨v1, f1⟩ := hO (k * 4 + 1) (by omega)
            obtain ⟨v2, f2⟩ := hO (k * 4 + 2) (by omega)
            obtain ⟨v3, f3⟩ := hO (k * 4 + 3) (by omega)
            go_wp2_with fail
            go_region
            go_wp2
            go_roundw
            case rel =>
              refine ⟨k + 1, _, by omega, by go_num, ((((hO.set (i := k * 4) (by omega) _).set (i := k * 4 + 1) (by omega) _).set (i := k * 4 + 2) (by omega) _).set (i := k * 4 + 3) (by omega) _), ?_, ?_, by simp [hs2]⟩
              · intro i hi
                by_cases e : i = k
                · subst e
                  refine ⟨?_, ?_, ?_⟩
                  · rw [upd_other _ _ _ _ (by omega), upd_other _ _ _ _ (by omega), upd_other _ _ _ _ (by omega), upd_same]
                  · rw [upd_other _ _ _ _ (by omega), upd_other _ _ _ _ (by omega), upd_same]
                  · rw [upd_same]
                · obtain ⟨h1, h2, h3⟩ := hVk.out i (by omega)
                  refine ⟨?_, ?_, ?_⟩
                  · rw [upd_other _ _ _ _ (by omega), upd_other _ _ _ _ (by omega), upd_other _ _ _ _ (by omega), upd_other _ _ _ _ (by omega)]; exact h1
                  · rw [upd_other _ _ _ _ (by omega), upd_other _ _ _ _ (by omega), upd_other _ _ _ _ (by omega), upd_other _ _ _ _ (by omega)]; exact h2
                  · rw [upd_other _ _ _ _ (by omega), upd_other _ _ _ _ (by omega), upd_other _ _ _ _ (by omega), upd_other _ _ _ _ (by omega)]; exact h3
              · have K4 := (((hK.setCell (p := ⟨ib, k * 4, none⟩) (Or.inl rfl) (.int .u8 (op k))).setCell (p := ⟨ib, k * 4 + 1, none⟩) (Or.inl rfl) (.int .i32 (arg k))).setCell (p := ⟨ib, k * 4 + 2, none⟩) (Or.inl rfl) (.slice none 0 0)).setCell (p := ⟨ib, k * 4 + 3, none⟩) (Or.inl rfl) (.int .i32 (-1))
                exact ⟨K4.os, K4.tape, K4.output, K4.size, K4.block⟩
            case measure => simp [intOf]; omega
          · have hge2 : ¬ (k : Int) < n := by omega
            have IN : Insts y ib n op arg (fun _ => -1) := by
              refine ⟨fun i hi => ?_, fun i hi => ?_, fun i hi => ?_, fun i hi => (hO (i * 4 + 3) (by omega)).2⟩
              · rw [(hO (i * 4) (by omega)).1, (hVk.out i (by omega)).1]
              · rw [(hO (i * 4 + 1) (by omega)).1, (hVk.out i (by omega)).2.1]
              · rw [(hO (i * 4 + 3) (by omega)).1, (hVk.out i (by omega)).2.2]
            have y1 : y.cell? ⟨gb, 1, none⟩ = some (.slice (some ⟨cb, 0, none⟩) m m) := by rw [hK.cell (p := ⟨gb, 1, none⟩) (by show gb < _; omega) gib]; exact x1
            have yc : ∀ r, r < m → y.cell? ⟨cb, r, none⟩ = some (sls A L C r) := fun r hr => by
              rw [hK.cell (p := ⟨cb, r, none⟩) (by show cb < _; omega) (Ne.symm ic)]; exact (hO' r hr).1
            have HYC : Hid (∀ r, r < m → y.cell? ⟨cb, r, none⟩ = some (sls A L C r)) := yc
            have HOPS : Hid (∀ i, i < n → op i = 0 ∨ op i = 1 ∨ op i = 2 ∨ op i = 3 ∨ op i = 6) := hops
            clear yc hops hO hVk hV hK hO'
            go_wp2_with fail
            refine (cover_any gb ib cb n m op arg (fun _ => -1) A L C G sl y hn y0 y1 (by omega) (by omega) gib (Ne.symm ic) w hBy bi HYC.out hC.inner hC.bare hC.rng IN hL hW hS HOPS.out).mono ?_
            rintro e y2 ⟨rfl, IC, KC⟩
            have hBc : Below w.heap.size w y2 := hBy.trans (KC.below (by have := hBy.size; omega) bi)
            have c0 : y2.cell? ⟨gb, 0, none⟩ = some (.slice (some ⟨ib, 0, none⟩) n n) := by rw [KC.cell (p := ⟨gb, 0, none⟩) (by show gb < _; omega) gib]; exact y0
            have zc := KC.size
            have m54 : ∀ W, (Instr.makeSlice 54 (.int .i64 (n : Int)) (.int .i64 (n : Int))).run Try.prog W = .ok (.slice (some ⟨W.heap.size, 0, none⟩) n n) (mk32 W n) := make54 n (by omega)
            clear KC IN y0 y1 HYC HOPS x0 x1
            go_wp2
            clear m54
            have BO := mk32_below y2 n
            go_loopw [13] (fun s13 wr => ∃ k : Nat, k ≤ n ∧ s13 = .int .i64 k ∧ Own wr y2.heap.size n (fun j => if j < k then .int .i32 (cov op sl n j) else .int .i32 0) ∧ Below y2.heap.size y2 wr ∧ y2.heap.size < wr.heap.size) (fun s13 _ => n - (intOf s13).toNat)
            case atStart => exact ⟨0, Nat.zero_le _, rfl, (mk32_own y2 n).congr (fun j hj => by rw [if_neg (by omega)]), BO, by rw [mk32_size]; omega⟩
            case round =>
              obtain ⟨k2, hk2, rfl, hO2, hB2, hs3⟩ := hrel
              rename World => v
              clear BO
              have q0 : v.cell? ⟨gb, 0, none⟩ = some (.slice (some ⟨ib, 0, none⟩) n n) := by rw [hB2.cell (p := ⟨gb, 0, none⟩) (by show gb < y2.heap.size; omega)]; exact c0
              by_cases hlt2 : k2 < n
              · have hlt2' : (k2 : Int) < n := by omega
                have cc := (IC.below hB2 (by omega)).cov k2 hlt2
                obtain ⟨t, ht⟩ : ∃ t, cov op sl n k2 = t := ⟨_, rfl⟩
                rw [ht] at cc
                have HT : Hid (cov op sl n k2 = t) := ht
                obtain ⟨o0, fo⟩ := hO2 k2 hlt2
                have o1 : v.cell? ⟨y2.heap.size, k2, none⟩ = some (.int .i32 0) := by rw [o0]; simp
                clear ht o0 c0 IC
                go_wp2
                go_roundw
                case rel =>
                  refine ⟨k2 + 1, by omega, by go_num, (hO2.set hlt2 _).congr ?_, hB2.setCell (Nat.le_refl _) _, by simp; omega⟩
                  intro j hj
                  by_cases e : j = k2
                  · subst e; rw [upd_same, if_pos (by omega), HT.out]
                  · rw [upd_other _ _ _ _ e]
                    by_cases e2 : j < k2
                    · rw [if_pos e2, if_pos (by omega)]
                    · rw [if_neg e2, if_neg (by omega)]
                case measure => simp [intOf]; omega
              · have hge3 : ¬ (k2 : Int) < n := by omega
                have RES : Own v y2.heap.size n (nums .i32 (cov op sl n)) := hO2.congr (fun j hj => by rw [if_pos (by omega), nums_at])
                have BF := hBc.trans (hB2.mono (by omega))
                clear IC hO2 hB2
                go_wp2
                go_ret
                exact ⟨_, rfl, RES, BF, hs3⟩
end Go.Proofs.Qxb6000628a
