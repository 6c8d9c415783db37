/-
  The walk of step1.
-/
import Derived.Test.Qxb6000751aCut
namespace Go.Proofs.Qxb6000751a
open Go.RowKit

/-- All but the last of the l letters of V are letters of O. -/
structure Pre (n0 l : Nat) (O V : Nat → Int) : Prop where
  pos : 1 ≤ l
  le : l ≤ n0
  same : ∀ j, j + 1 < l → V j = O j
  rng : ∀ j, j < n0 → 0 ≤ V j ∧ V j ≤ 255

/-- The end of step1. -/
def OEnd (B sb bb n0 : Nat) (O : Nat → Int) (w : World) (e : Ending) (w' : World) : Prop :=
  e = .returned (.tuple #[]) ∧ ∃ l V, Stm w' sb bb l n0 V ∧ Pre n0 l O V ∧ Below B w w'

theorem Stm.lt {w : World} {sb bb l cap : Nat} {V : Nat → Int} (h : Stm w sb bb l cap V) (hc : 0 < cap) : sb < w.heap.size ∧ bb < w.heap.size :=
  ⟨World.block_lt_of_cell? w ⟨sb, 0, none⟩ h.fld, World.block_lt_of_cell? w ⟨bb, 0, none⟩ (h.row 0 hc).1⟩
theorem Stm.below {B : Nat} {w w' : World} {sb bb l cap : Nat} {V : Nat → Int} (h : Stm w sb bb l cap V) (hB : Below B w w') (h1 : sb < B) (h2 : bb < B) : Stm w' sb bb l cap V :=
  ⟨by rw [hB.cell (p := ⟨sb, 0, none⟩) h1]; exact h.fld, by rw [hB.frozen (p := ⟨sb, 0, none⟩) h1]; exact h.fz, h.row.below hB h2, h.ne, h.le, h.cap_le⟩
/-- One byte laid at i. -/
theorem Stm.put {w : World} {sb bb l cap : Nat} {V : Nat → Int} (h : Stm w sb bb l cap V) {i : Nat} (hi : i < cap) (x : Int) : Stm (w.setCell ⟨bb, i, none⟩ (.int .u8 x)) sb bb l cap (fun j => if j = i then x else V j) :=
  ⟨by rw [World.cell?_setCell_other _ _ _ _ (ne_block (Ne.symm h.ne))]; exact h.fld, by rw [World.frozen?_setCell]; exact h.fz,
   (h.row.set hi _).congr (fun j hj => by
     rw [nums_at]
     by_cases e : j = i
     · subst e; rw [upd_same, if_pos rfl]
     · rw [upd_other _ _ _ _ e, if_neg e, nums_at]), h.ne, h.le, h.cap_le⟩
/-- The word is now l' bytes long. -/
theorem Stm.cutTo {w : World} {sb bb l l' cap : Nat} {V : Nat → Int} (h : Stm w sb bb l cap V) (hl : l' ≤ cap) : Stm (w.setCell ⟨sb, 0, none⟩ (.slice (some ⟨bb, 0, none⟩) l' cap)) sb bb l' cap V :=
  ⟨World.cell?_setCell_same _ _ _ h.fld, by rw [World.frozen?_setCell]; exact h.fz, h.row.other h.ne _, h.ne, hl, h.cap_le⟩
theorem Stm.push {w : World} {sb bb l cap : Nat} {V : Nat → Int} (h : Stm w sb bb l cap V) (hl : l < cap) (o : Obj) (x : Int) :
    Stm (((w.setCell ⟨bb, l, none⟩ (.int .u8 x)).setCell ⟨sb, 0, none⟩ (.slice (some ⟨bb, 0, none⟩) (l + 1) cap)).alloc o) sb bb (l + 1) cap (fun j => if j = l then x else V j) := by
  have h2 := (h.put hl x).cutTo (l' := l + 1) (by omega)
  obtain ⟨h3, h4⟩ := h2.lt (by omega)
  exact h2.below (below_alloc _ o) h3 h4
theorem Stm.push_below {B : Nat} {w0 w : World} {sb bb l cap : Nat} {V : Nat → Int} (h : Stm w sb bb l cap V) (hB : Below B w0 w) (hl : l < cap) (o : Obj) (x : Int) (b1 : B ≤ sb) (b2 : B ≤ bb) :
    Below B w0 (((w.setCell ⟨bb, l, none⟩ (.int .u8 x)).setCell ⟨sb, 0, none⟩ (.slice (some ⟨bb, 0, none⟩) (l + 1) cap)).alloc o) := by
  have h2 := (h.put hl x).cutTo (l' := l + 1) (by omega)
  obtain ⟨h3, h4⟩ := h2.lt (by omega)
  exact ((hB.setCell b2 _).setCell b1 _).alloc (by omega) _

theorem over_same {V : Nat → Int} {n : Nat} {str : ByteArray} (h : ∀ j, j < str.size → V (n + j) = (byteAt str j : Int)) : ∀ j, over V n str j = V j := by
  intro j
  unfold over
  by_cases e : n ≤ j ∧ j < n + str.size
  · rw [if_pos e]
    have := h (j - n) (by omega)
    rw [show n + (j - n) = j by omega] at this
    exact this.symm
  · rw [if_neg e]

set_option maxHeartbeats 8000000 in
set_option maxRecDepth 1000000 in
theorem step1_any (B sb bb n0 : Nat) (O : Nat → Int) (w : World) (h : Stm w sb bb n0 n0 O) (h0 : 0 < n0) (hO : ∀ j, j < n0 → 0 ≤ O j ∧ O j ≤ 255) (b1 : B ≤ sb) (b2 : B ≤ bb) :
    Calls Try.prog 34 #[.pointer (some ⟨sb, 0, none⟩)] w fun e w' => OEnd B sb bb n0 O w e w' := by
  have HO : Hid (∀ j, j < n0 → 0 ≤ O j ∧ O j ≤ 255) := hO
  clear hO
  obtain ⟨i0, hi0, hzz⟩ := Option.map_eq_some_iff.1 info5
  simp only [Prod.mk.injEq] at hzz
  have hz1 := hzz.2.1
  clear hzz
  have hn4 : n0 ≤ 4096 := h.cap_le
  have hB1 : B ≤ w.heap.size := by have := h.lt h0; omega
  go_enter Try.func34, Try.ntmps34
  go_upto_block 0 with fail
  go_cut [0] (fun s0 wc => s0 = .pointer (some ⟨sb, 0, none⟩) ∧ ∃ l, 1 ≤ l ∧ l ≤ n0 ∧ Stm wc sb bb l n0 O ∧ Below B w wc)
  case first =>
    as_aux_lemma =>
    go_wp2_with fail
    refine (ends_any sb bb n0 n0 ⟨#[115, 115, 101, 115]⟩ O w h (by decide) (by decide) HO.out).mono ?_
    rintro e w' ⟨bb1, rfl, hE, rfl⟩
    rename World => w
    cases bb1 with
    | true =>
      as_aux_lemma =>
      obtain ⟨e1, e2⟩ := hE rfl
      have e3 : n0 - 4 + 4 = n0 := by
        have : (⟨#[115, 115, 101, 115]⟩ : ByteArray).size = 4 := rfl
        omega
      have h' : Stm w sb bb (n0 - 4 + 4) n0 O := by rw [e3]; exact h
      have E2 : Hid (∀ j, j < (⟨#[115, 115]⟩ : ByteArray).size → O (n0 - 4 + j) = (byteAt ⟨#[115, 115]⟩ j : Int)) := fun j hj => by
        have hj : j < 2 := hj
        have := e2 j (by show j < 4; omega)
        rw [show n0 - (⟨#[115, 115, 101, 115]⟩ : ByteArray).size + j = n0 - 4 + j from rfl] at this
        rw [this]
        match j, hj with
        | 0, _ => rfl
        | 1, _ => rfl
      have e4 : 4 < n0 := e1
      clear hE e2 e1 e3
      go_wp2_with fail
      refine (set_suffix B sb bb (n0 - 4) n0 ⟨#[115, 115, 101, 115]⟩ ⟨#[115, 115]⟩ O w h' (by decide) b1 b2).mono ?_
      rintro e w1 ⟨rfl, hS, hB⟩
      have hS' : Stm w1 sb bb (n0 - 4 + 2) n0 O := by
        have : Stm w1 sb bb (n0 - 4 + 2) n0 (over O (n0 - 4) ⟨#[115, 115]⟩) := hS
        exact this.congr (fun j hj => over_same E2.out j)
      clear hS
      go_wp2
      go_meet
      case rel => exact ⟨rfl, n0 - 4 + 2, by omega, by omega, hS', hB⟩
    | false =>
      as_aux_lemma =>
      clear hE
      go_wp2_with fail
      refine (ends_any sb bb n0 n0 ⟨#[105, 101, 115]⟩ O w h (by decide) (by decide) HO.out).mono ?_
      rintro e w' ⟨bb1, rfl, hE, rfl⟩
      rename World => w
      cases bb1 with
      | true =>
        as_aux_lemma =>
        obtain ⟨e1, e2⟩ := hE rfl
        have e4 : 3 < n0 := e1
        have h' : Stm w sb bb (n0 - 3 + 3) n0 O := by rw [show n0 - 3 + 3 = n0 by omega]; exact h
        have E2 : Hid (∀ j, j < (⟨#[105]⟩ : ByteArray).size → O (n0 - 3 + j) = (byteAt ⟨#[105]⟩ j : Int)) := fun j hj => by
          have hj : j < 1 := hj
          have := e2 j (by show j < 3; omega)
          rw [show n0 - (⟨#[105, 101, 115]⟩ : ByteArray).size + j = n0 - 3 + j from rfl] at this
          rw [this]
          match j, hj with
          | 0, _ => rfl
        clear hE e2 e1
        go_wp2_with fail
        refine (set_suffix B sb bb (n0 - 3) n0 ⟨#[105, 101, 115]⟩ ⟨#[105]⟩ O w h' (by decide) b1 b2).mono ?_
        rintro e w1 ⟨rfl, hS, hB⟩
        have hS' : Stm w1 sb bb (n0 - 3 + 1) n0 O := by
          have : Stm w1 sb bb (n0 - 3 + 1) n0 (over O (n0 - 3) ⟨#[105]⟩) := hS
          exact this.congr (fun j hj => over_same E2.out j)
        clear hS
        go_wp2
        go_meet
        case rel => exact ⟨rfl, n0 - 3 + 1, by omega, by omega, hS', hB⟩
      | false =>
        as_aux_lemma =>
        clear hE
        go_wp2_with fail
        refine (ends_any sb bb n0 n0 ⟨#[115, 115]⟩ O w h (by decide) (by decide) HO.out).mono ?_
        rintro e w' ⟨bb1, rfl, hE, rfl⟩
        rename World => w
        clear hE
        cases bb1 with
        | true =>
          as_aux_lemma =>
          go_wp2
          go_meet
          case rel => exact ⟨rfl, n0, by omega, by omega, h, Below.refl _ _⟩
        | false =>
          as_aux_lemma =>
          go_wp2_with fail
          refine (ends_any sb bb n0 n0 ⟨#[115]⟩ O w h (by decide) (by decide) HO.out).mono ?_
          rintro e w' ⟨bb1, rfl, hE, rfl⟩
          rename World => w
          cases bb1 with
          | true =>
            as_aux_lemma =>
            have e4 : 1 < n0 := (hE rfl).1
            have h' : Stm w sb bb (n0 - 1 + 1) n0 O := by rw [show n0 - 1 + 1 = n0 by omega]; exact h
            clear hE
            go_wp2_with fail
            refine (set_suffix B sb bb (n0 - 1) n0 ⟨#[115]⟩ ⟨#[]⟩ O w h' (by decide) b1 b2).mono ?_
            rintro e w1 ⟨rfl, hS, hB⟩
            have hS' : Stm w1 sb bb (n0 - 1) n0 O := by
              have : Stm w1 sb bb (n0 - 1) n0 (over O (n0 - 1) ⟨#[]⟩) := hS
              exact this.congr (fun j hj => over_same (fun j hj => absurd hj (Nat.not_lt_zero _)) j)
            clear hS
            go_wp2
            go_meet
            case rel => exact ⟨rfl, n0 - 1, by omega, by omega, hS', hB⟩
          | false =>
            as_aux_lemma =>
            clear hE
            go_wp2
            go_meet
            case rel => exact ⟨rfl, n0, by omega, by omega, h, Below.refl _ _⟩
  case rest =>
    as_aux_lemma =>
    obtain ⟨rfl, l, hl1, hl2, hs, hBw⟩ := hcut
    rename World => w1
    have hl4 : l ≤ 4096 := by omega
    go_wp2_with fail
    refine (ends_any sb bb l n0 ⟨#[101, 101, 100]⟩ O w1 hs (by decide) (by decide) HO.out).mono ?_
    rintro e w' ⟨bb1, rfl, hE, rfl⟩
    rename World => w1
    have HE : Hid (bb1 = true → Ends O l ⟨#[101, 101, 100]⟩) := hE
    clear hE
    go_upto_if 22 with fail
    go_cut [0] (fun s0 wc => s0 = .pointer (some ⟨sb, 0, none⟩) ∧ ∃ l2 V2, Stm wc sb bb l2 n0 V2 ∧ Pre n0 l2 O V2 ∧ Below B w wc)
    case first =>
      as_aux_lemma =>
      have PRE0 : Pre n0 l O O := ⟨hl1, hl2, fun _ _ => rfl, HO.out⟩
      cases bb1 with
      | true =>
        as_aux_lemma =>
        obtain ⟨e1, e2⟩ := HE.out rfl
        have e4 : 3 < l := e1
        have h' : Stm w1 sb bb (l - 3 + 3) n0 O := by rw [show l - 3 + 3 = l by omega]; exact hs
        have E2 : Hid (∀ j, j < (⟨#[101, 101]⟩ : ByteArray).size → O (l - 3 + j) = (byteAt ⟨#[101, 101]⟩ j : Int)) := fun j hj => by
          have hj : j < 2 := hj
          have := e2 j (by show j < 3; omega)
          rw [show l - (⟨#[101, 101, 100]⟩ : ByteArray).size + j = l - 3 + j from rfl] at this
          rw [this]
          match j, hj with
          | 0, _ => rfl
          | 1, _ => rfl
        clear HE e2 e1
        go_wp2_with fail
        refine (stemLen_any sb (l - 3) n0 _ ⟨#[101, 101, 100]⟩ w1 h'.fld (by show l - 3 + 3 ≤ 4096; omega)).mono ?_
        rintro e w' ⟨rfl, rfl⟩
        rename World => w1
        go_wp2_with fail
        refine (measure_any sb bb l n0 (l - 3) O w1 hs (by omega)).mono ?_
        rintro e w' ⟨m, rfl, hm, rfl⟩
        rename World => w1
        by_cases hm0 : 0 < m
        · have hd : decide ((0 : Int) < m) = true := decide_eq_true (by omega)
          go_wp2_with fail
          refine (set_suffix B sb bb (l - 3) n0 ⟨#[101, 101, 100]⟩ ⟨#[101, 101]⟩ O w1 h' (by decide) b1 b2).mono ?_
          rintro e w2 ⟨rfl, hS, hB⟩
          have hS' : Stm w2 sb bb (l - 3 + 2) n0 O := by
            have : Stm w2 sb bb (l - 3 + 2) n0 (over O (l - 3) ⟨#[101, 101]⟩) := hS
            exact this.congr (fun j hj => over_same E2.out j)
          have PRE1 : Pre n0 (l - 3 + 2) O O := ⟨by omega, by omega, fun _ _ => rfl, HO.out⟩
          clear hS
          go_wp2
          go_meet
          case rel => exact ⟨rfl, _, _, hS', PRE1, hBw.trans hB⟩
        · have hd : decide ((0 : Int) < m) = false := decide_eq_false (by omega)
          go_wp2
          go_meet
          case rel => exact ⟨rfl, _, _, hs, PRE0, hBw⟩
      | false =>
        as_aux_lemma =>
        clear HE
        go_wp2_with fail
        refine (cut_any B sb bb l n0 ⟨#[101, 100]⟩ O w1 hs (by decide) (by decide) HO.out b1 b2).mono ?_
        intro e w' hCE
        rcases hCE with ⟨rfl, rfl⟩ | ⟨rfl, n1, hn1, hn2, hSy, hBy0⟩
        · rename World => w1
          go_wp2_with fail
          refine (cut_any B sb bb l n0 ⟨#[105, 110, 103]⟩ O w1 hs (by decide) (by decide) HO.out b1 b2).mono ?_
          intro e w' hCE
          rcases hCE with ⟨rfl, rfl⟩ | ⟨rfl, n1, hn1, hn2, hSy, hBy0⟩
          · go_wp2
            go_meet
            case rel => exact ⟨rfl, _, _, hs, PRE0, hBw⟩
          · rename World => y
            have hn3 : l = n1 + 3 := hn1
            have hn4' : n1 + 3 ≤ n0 := by omega
            have hBy := hBw.trans hBy0
            clear hn1 hn3 hBy0 hs hBw PRE0
            obtain ⟨k, rfl⟩ : ∃ k, n1 = k + 1 := ⟨n1 - 1, by omega⟩
            have fldY := hSy.fld
            go_wp2_with fail
            refine (ends_any sb bb (k + 1) n0 ⟨#[97, 116]⟩ O y hSy (by decide) (by decide) HO.out).mono ?_
            rintro e w' ⟨bb3, rfl, hE3, rfl⟩
            rename World => y
            clear hE3
            cases bb3 with
            | true =>
              as_aux_lemma =>
              clear fldY
              obtain ⟨pc, pf⟩ := hSy.row (k + 1) (by omega)
              obtain ⟨lt1, lt2⟩ := hSy.lt (by omega)
              have PU := hSy.push (by omega) (.cells #[.int .u8 101] 5) 101
              have fldy := hSy.fld
              have fzy := hSy.fz
              have pcs : ((y.alloc (.cells #[.int .u8 101] 5)).cell? ⟨bb, k + 1, none⟩).isSome = true ∧ (y.alloc (.cells #[.int .u8 101] 5)).frozen? ⟨bb, k + 1, none⟩ = false := by
                rw [World.cell?_alloc_old _ _ _ (by show bb ≠ _; omega), World.frozen?_alloc_old _ _ _ (by show bb ≠ _; omega), pc]; exact ⟨rfl, pf⟩
              have PCS : Hid (((y.alloc (.cells #[.int .u8 101] 5)).cell? ⟨bb, k + 1, none⟩).isSome = true ∧ (y.alloc (.cells #[.int .u8 101] 5)).frozen? ⟨bb, k + 1, none⟩ = false) := pcs
              have fls : ∀ v, ((y.alloc (.cells #[.int .u8 101] 5)).setCell ⟨bb, k + 1, none⟩ v).cell? ⟨sb, 0, none⟩ = some (.slice (some ⟨bb, 0, none⟩) (k + 1) n0) := fun v => by
                rw [World.cell?_setCell_other _ _ _ _ (ne_block (Ne.symm hSy.ne)), World.cell?_alloc_old _ _ _ (by show sb ≠ _; omega)]; exact fldy
              have fzs : ∀ v, ((y.alloc (.cells #[.int .u8 101] 5)).setCell ⟨bb, k + 1, none⟩ v).frozen? ⟨sb, 0, none⟩ = false := fun v => by
                rw [World.frozen?_setCell, World.frozen?_alloc_old _ _ _ (by show sb ≠ _; omega)]; exact fzy
              have BPU := hSy.push_below hBy (by omega) (.cells #[.int .u8 101] 5) 101 b1 b2
              have PRE : Pre n0 (k + 1 + 1) O (fun j => if j = k + 1 then 101 else O j) := ⟨by omega, by omega, fun j hj => by rw [if_neg (by omega)], fun j hj => by
                by_cases e : j = k + 1
                · rw [if_pos e]; omega
                · rw [if_neg e]; exact HO.out j hj⟩
              clear pc pf pcs
              go_wp2_with (at_builtin; refine wpList_append_one _ rfl (.tmp 52) (.tmp 53) 22 rfl 5 i0 Try.underlying22 hi0 hz1 bb (k + 1) n0 rfl ⟨y.heap.size, 0, none⟩ 1 (.int .u8 101) rfl (by simp [Addr.add]) rfl (by omega) PCS.out ?_)
              go_meet
              case rel => exact ⟨rfl, k + 1 + 1, _, PU, PRE, BPU⟩
            | false =>
              as_aux_lemma =>
              go_wp2_with fail
              refine (ends_any sb bb (k + 1) n0 ⟨#[98, 108]⟩ O y hSy (by decide) (by decide) HO.out).mono ?_
              rintro e w' ⟨bb3, rfl, hE3, rfl⟩
              rename World => y
              clear hE3
              cases bb3 with
              | true =>
                as_aux_lemma =>
                clear fldY
                obtain ⟨pc, pf⟩ := hSy.row (k + 1) (by omega)
                obtain ⟨lt1, lt2⟩ := hSy.lt (by omega)
                have PU := hSy.push (by omega) (.cells #[.int .u8 101] 5) 101
                have fldy := hSy.fld
                have fzy := hSy.fz
                have pcs : ((y.alloc (.cells #[.int .u8 101] 5)).cell? ⟨bb, k + 1, none⟩).isSome = true ∧ (y.alloc (.cells #[.int .u8 101] 5)).frozen? ⟨bb, k + 1, none⟩ = false := by
                  rw [World.cell?_alloc_old _ _ _ (by show bb ≠ _; omega), World.frozen?_alloc_old _ _ _ (by show bb ≠ _; omega), pc]; exact ⟨rfl, pf⟩
                have PCS : Hid (((y.alloc (.cells #[.int .u8 101] 5)).cell? ⟨bb, k + 1, none⟩).isSome = true ∧ (y.alloc (.cells #[.int .u8 101] 5)).frozen? ⟨bb, k + 1, none⟩ = false) := pcs
                have fls : ∀ v, ((y.alloc (.cells #[.int .u8 101] 5)).setCell ⟨bb, k + 1, none⟩ v).cell? ⟨sb, 0, none⟩ = some (.slice (some ⟨bb, 0, none⟩) (k + 1) n0) := fun v => by
                  rw [World.cell?_setCell_other _ _ _ _ (ne_block (Ne.symm hSy.ne)), World.cell?_alloc_old _ _ _ (by show sb ≠ _; omega)]; exact fldy
                have fzs : ∀ v, ((y.alloc (.cells #[.int .u8 101] 5)).setCell ⟨bb, k + 1, none⟩ v).frozen? ⟨sb, 0, none⟩ = false := fun v => by
                  rw [World.frozen?_setCell, World.frozen?_alloc_old _ _ _ (by show sb ≠ _; omega)]; exact fzy
                have BPU := hSy.push_below hBy (by omega) (.cells #[.int .u8 101] 5) 101 b1 b2
                have PRE : Pre n0 (k + 1 + 1) O (fun j => if j = k + 1 then 101 else O j) := ⟨by omega, by omega, fun j hj => by rw [if_neg (by omega)], fun j hj => by
                  by_cases e : j = k + 1
                  · rw [if_pos e]; omega
                  · rw [if_neg e]; exact HO.out j hj⟩
                clear pc pf pcs
                go_wp2_with (at_builtin; refine wpList_append_one _ rfl (.tmp 52) (.tmp 53) 22 rfl 5 i0 Try.underlying22 hi0 hz1 bb (k + 1) n0 rfl ⟨y.heap.size, 0, none⟩ 1 (.int .u8 101) rfl (by simp [Addr.add]) rfl (by omega) PCS.out ?_)
                go_meet
                case rel => exact ⟨rfl, k + 1 + 1, _, PU, PRE, BPU⟩
              | false =>
                as_aux_lemma =>
                go_wp2_with fail
                refine (ends_any sb bb (k + 1) n0 ⟨#[105, 122]⟩ O y hSy (by decide) (by decide) HO.out).mono ?_
                rintro e w' ⟨bb3, rfl, hE3, rfl⟩
                rename World => y
                clear hE3
                cases bb3 with
                | true =>
                  as_aux_lemma =>
                  clear fldY
                  obtain ⟨pc, pf⟩ := hSy.row (k + 1) (by omega)
                  obtain ⟨lt1, lt2⟩ := hSy.lt (by omega)
                  have PU := hSy.push (by omega) (.cells #[.int .u8 101] 5) 101
                  have fldy := hSy.fld
                  have fzy := hSy.fz
                  have pcs : ((y.alloc (.cells #[.int .u8 101] 5)).cell? ⟨bb, k + 1, none⟩).isSome = true ∧ (y.alloc (.cells #[.int .u8 101] 5)).frozen? ⟨bb, k + 1, none⟩ = false := by
                    rw [World.cell?_alloc_old _ _ _ (by show bb ≠ _; omega), World.frozen?_alloc_old _ _ _ (by show bb ≠ _; omega), pc]; exact ⟨rfl, pf⟩
                  have PCS : Hid (((y.alloc (.cells #[.int .u8 101] 5)).cell? ⟨bb, k + 1, none⟩).isSome = true ∧ (y.alloc (.cells #[.int .u8 101] 5)).frozen? ⟨bb, k + 1, none⟩ = false) := pcs
                  have fls : ∀ v, ((y.alloc (.cells #[.int .u8 101] 5)).setCell ⟨bb, k + 1, none⟩ v).cell? ⟨sb, 0, none⟩ = some (.slice (some ⟨bb, 0, none⟩) (k + 1) n0) := fun v => by
                    rw [World.cell?_setCell_other _ _ _ _ (ne_block (Ne.symm hSy.ne)), World.cell?_alloc_old _ _ _ (by show sb ≠ _; omega)]; exact fldy
                  have fzs : ∀ v, ((y.alloc (.cells #[.int .u8 101] 5)).setCell ⟨bb, k + 1, none⟩ v).frozen? ⟨sb, 0, none⟩ = false := fun v => by
                    rw [World.frozen?_setCell, World.frozen?_alloc_old _ _ _ (by show sb ≠ _; omega)]; exact fzy
                  have BPU := hSy.push_below hBy (by omega) (.cells #[.int .u8 101] 5) 101 b1 b2
                  have PRE : Pre n0 (k + 1 + 1) O (fun j => if j = k + 1 then 101 else O j) := ⟨by omega, by omega, fun j hj => by rw [if_neg (by omega)], fun j hj => by
                    by_cases e : j = k + 1
                    · rw [if_pos e]; omega
                    · rw [if_neg e]; exact HO.out j hj⟩
                  clear pc pf pcs
                  go_wp2_with (at_builtin; refine wpList_append_one _ rfl (.tmp 52) (.tmp 53) 22 rfl 5 i0 Try.underlying22 hi0 hz1 bb (k + 1) n0 rfl ⟨y.heap.size, 0, none⟩ 1 (.int .u8 101) rfl (by simp [Addr.add]) rfl (by omega) PCS.out ?_)
                  go_meet
                  case rel => exact ⟨rfl, k + 1 + 1, _, PU, PRE, BPU⟩
                | false =>
                  as_aux_lemma =>
                  go_wp2_with fail
                  refine (double_any sb bb (k + 1) n0 (k + 1) O y hSy (Nat.le_refl _)).mono ?_
                  rintro e y2 ⟨bb4, rfl, hd2, q, hq⟩
                  have hSz : Stm y2 sb bb (k + 1) n0 O := by rw [hq]; exact hSy.drewN q
                  have hBz : Below B w y2 := by rw [hq]; exact below_drewN hBy
                  clear hq hSy hBy fldY
                  have hSy := hSz
                  have hBy := hBz
                  clear hSz hBz
                  rename World => y
                  cases bb4 with
                  | false =>
                    as_aux_lemma =>
                    clear hd2
                    go_wp2_with fail
                    refine (measure_any sb bb (k + 1) n0 (k + 1) O y hSy (Nat.le_refl _)).mono ?_
                    rintro e w' ⟨m, rfl, hm, rfl⟩
                    rename World => y
                    by_cases hm1 : m = 1
                    · have hd1 : ((m : Int) == 1) = true := by rw [beq_iff_eq]; omega
                      clear hm1
                      go_wp2_with fail
                      refine (cvc_any sb bb (k + 1) n0 (k + 1) O y hSy (Nat.le_refl _)).mono ?_
                      rintro e w' ⟨bb5, rfl, rfl⟩
                      rename World => y
                      cases bb5 with
                      | true =>
                        as_aux_lemma =>
                        obtain ⟨pc, pf⟩ := hSy.row (k + 1) (by omega)
                        obtain ⟨lt1, lt2⟩ := hSy.lt (by omega)
                        have PU := hSy.push (by omega) (.cells #[.int .u8 101] 5) 101
                        have fldy := hSy.fld
                        have fzy := hSy.fz
                        have pcs : ((y.alloc (.cells #[.int .u8 101] 5)).cell? ⟨bb, k + 1, none⟩).isSome = true ∧ (y.alloc (.cells #[.int .u8 101] 5)).frozen? ⟨bb, k + 1, none⟩ = false := by
                          rw [World.cell?_alloc_old _ _ _ (by show bb ≠ _; omega), World.frozen?_alloc_old _ _ _ (by show bb ≠ _; omega), pc]; exact ⟨rfl, pf⟩
                        have PCS : Hid (((y.alloc (.cells #[.int .u8 101] 5)).cell? ⟨bb, k + 1, none⟩).isSome = true ∧ (y.alloc (.cells #[.int .u8 101] 5)).frozen? ⟨bb, k + 1, none⟩ = false) := pcs
                        have fls : ∀ v, ((y.alloc (.cells #[.int .u8 101] 5)).setCell ⟨bb, k + 1, none⟩ v).cell? ⟨sb, 0, none⟩ = some (.slice (some ⟨bb, 0, none⟩) (k + 1) n0) := fun v => by
                          rw [World.cell?_setCell_other _ _ _ _ (ne_block (Ne.symm hSy.ne)), World.cell?_alloc_old _ _ _ (by show sb ≠ _; omega)]; exact fldy
                        have fzs : ∀ v, ((y.alloc (.cells #[.int .u8 101] 5)).setCell ⟨bb, k + 1, none⟩ v).frozen? ⟨sb, 0, none⟩ = false := fun v => by
                          rw [World.frozen?_setCell, World.frozen?_alloc_old _ _ _ (by show sb ≠ _; omega)]; exact fzy
                        have BPU := hSy.push_below hBy (by omega) (.cells #[.int .u8 101] 5) 101 b1 b2
                        have PRE : Pre n0 (k + 1 + 1) O (fun j => if j = k + 1 then 101 else O j) := ⟨by omega, by omega, fun j hj => by rw [if_neg (by omega)], fun j hj => by
                          by_cases e : j = k + 1
                          · rw [if_pos e]; omega
                          · rw [if_neg e]; exact HO.out j hj⟩
                        clear pc pf pcs
                        go_wp2_with (at_builtin; refine wpList_append_one _ rfl (.tmp 118) (.tmp 119) 22 rfl 5 i0 Try.underlying22 hi0 hz1 bb (k + 1) n0 rfl ⟨y.heap.size, 0, none⟩ 1 (.int .u8 101) rfl (by simp [Addr.add]) rfl (by omega) PCS.out ?_)
                        go_meet
                        case rel => exact ⟨rfl, k + 1 + 1, _, PU, PRE, BPU⟩
                      | false =>
                        as_aux_lemma =>
                        have PRE : Pre n0 (k + 1) O O := ⟨by omega, by omega, fun _ _ => rfl, HO.out⟩
                        go_wp2
                        go_meet
                        case rel => exact ⟨rfl, k + 1, _, hSy, PRE, hBy⟩
                    · have hd1 : ((m : Int) == 1) = false := by rw [beq_eq_false_iff_ne]; omega
                      clear hm1
                      have PRE : Pre n0 (k + 1) O O := ⟨by omega, by omega, fun _ _ => rfl, HO.out⟩
                      go_wp2
                      go_meet
                      case rel => exact ⟨rfl, k + 1, _, hSy, PRE, hBy⟩
                  | true =>
                    as_aux_lemma =>
                    have hk2 : 1 ≤ k := by have := hd2 rfl; omega
                    clear hd2
                    have fldY := hSy.fld
                    have fzY := hSy.fz
                    obtain ⟨cx, _⟩ := hSy.row k (by omega)
                    rw [nums_at] at cx
                    obtain ⟨x, hx⟩ : ∃ x, O k = x := ⟨_, rfl⟩
                    rw [hx] at cx
                    clear hx
                    have hkk : (k : Int) < (k : Int) + 1 := by omega
                    by_cases x1 : x = 108
                    · have d1 : (x != 108) = false := by rw [bne_eq_false_iff_eq]; exact x1
                      clear x1
                      go_wp2_with fail
                      refine (measure_any sb bb (k + 1) n0 (k + 1) O y hSy (Nat.le_refl _)).mono ?_
                      rintro e w' ⟨m, rfl, hm, rfl⟩
                      rename World => y
                      by_cases hm1 : m = 1
                      · have hd1 : ((m : Int) == 1) = true := by rw [beq_iff_eq]; omega
                        clear hm1
                        go_wp2_with fail
                        refine (cvc_any sb bb (k + 1) n0 (k + 1) O y hSy (Nat.le_refl _)).mono ?_
                        rintro e w' ⟨bb5, rfl, rfl⟩
                        rename World => y
                        cases bb5 with
                        | true =>
                          as_aux_lemma =>
                          obtain ⟨pc, pf⟩ := hSy.row (k + 1) (by omega)
                          obtain ⟨lt1, lt2⟩ := hSy.lt (by omega)
                          have PU := hSy.push (by omega) (.cells #[.int .u8 101] 5) 101
                          have fldy := hSy.fld
                          have fzy := hSy.fz
                          have pcs : ((y.alloc (.cells #[.int .u8 101] 5)).cell? ⟨bb, k + 1, none⟩).isSome = true ∧ (y.alloc (.cells #[.int .u8 101] 5)).frozen? ⟨bb, k + 1, none⟩ = false := by
                            rw [World.cell?_alloc_old _ _ _ (by show bb ≠ _; omega), World.frozen?_alloc_old _ _ _ (by show bb ≠ _; omega), pc]; exact ⟨rfl, pf⟩
                          have PCS : Hid (((y.alloc (.cells #[.int .u8 101] 5)).cell? ⟨bb, k + 1, none⟩).isSome = true ∧ (y.alloc (.cells #[.int .u8 101] 5)).frozen? ⟨bb, k + 1, none⟩ = false) := pcs
                          have fls : ∀ v, ((y.alloc (.cells #[.int .u8 101] 5)).setCell ⟨bb, k + 1, none⟩ v).cell? ⟨sb, 0, none⟩ = some (.slice (some ⟨bb, 0, none⟩) (k + 1) n0) := fun v => by
                            rw [World.cell?_setCell_other _ _ _ _ (ne_block (Ne.symm hSy.ne)), World.cell?_alloc_old _ _ _ (by show sb ≠ _; omega)]; exact fldy
                          have fzs : ∀ v, ((y.alloc (.cells #[.int .u8 101] 5)).setCell ⟨bb, k + 1, none⟩ v).frozen? ⟨sb, 0, none⟩ = false := fun v => by
                            rw [World.frozen?_setCell, World.frozen?_alloc_old _ _ _ (by show sb ≠ _; omega)]; exact fzy
                          have BPU := hSy.push_below hBy (by omega) (.cells #[.int .u8 101] 5) 101 b1 b2
                          have PRE : Pre n0 (k + 1 + 1) O (fun j => if j = k + 1 then 101 else O j) := ⟨by omega, by omega, fun j hj => by rw [if_neg (by omega)], fun j hj => by
                            by_cases e : j = k + 1
                            · rw [if_pos e]; omega
                            · rw [if_neg e]; exact HO.out j hj⟩
                          clear pc pf pcs
                          go_wp2_with (at_builtin; refine wpList_append_one _ rfl (.tmp 118) (.tmp 119) 22 rfl 5 i0 Try.underlying22 hi0 hz1 bb (k + 1) n0 rfl ⟨y.heap.size, 0, none⟩ 1 (.int .u8 101) rfl (by simp [Addr.add]) rfl (by omega) PCS.out ?_)
                          go_meet
                          case rel => exact ⟨rfl, k + 1 + 1, _, PU, PRE, BPU⟩
                        | false =>
                          as_aux_lemma =>
                          have PRE : Pre n0 (k + 1) O O := ⟨by omega, by omega, fun _ _ => rfl, HO.out⟩
                          go_wp2
                          go_meet
                          case rel => exact ⟨rfl, k + 1, _, hSy, PRE, hBy⟩
                      · have hd1 : ((m : Int) == 1) = false := by rw [beq_eq_false_iff_ne]; omega
                        clear hm1
                        have PRE : Pre n0 (k + 1) O O := ⟨by omega, by omega, fun _ _ => rfl, HO.out⟩
                        go_wp2
                        go_meet
                        case rel => exact ⟨rfl, k + 1, _, hSy, PRE, hBy⟩
                    · have d1 : (x != 108) = true := by rw [bne_iff_ne]; exact x1
                      by_cases x2 : x = 115
                      · have d2 : (x != 115) = false := by rw [bne_eq_false_iff_eq]; exact x2
                        clear x1 x2
                        go_wp2_with fail
                        refine (measure_any sb bb (k + 1) n0 (k + 1) O y hSy (Nat.le_refl _)).mono ?_
                        rintro e w' ⟨m, rfl, hm, rfl⟩
                        rename World => y
                        by_cases hm1 : m = 1
                        · have hd1 : ((m : Int) == 1) = true := by rw [beq_iff_eq]; omega
                          clear hm1
                          go_wp2_with fail
                          refine (cvc_any sb bb (k + 1) n0 (k + 1) O y hSy (Nat.le_refl _)).mono ?_
                          rintro e w' ⟨bb5, rfl, rfl⟩
                          rename World => y
                          cases bb5 with
                          | true =>
                            as_aux_lemma =>
                            obtain ⟨pc, pf⟩ := hSy.row (k + 1) (by omega)
                            obtain ⟨lt1, lt2⟩ := hSy.lt (by omega)
                            have PU := hSy.push (by omega) (.cells #[.int .u8 101] 5) 101
                            have fldy := hSy.fld
                            have fzy := hSy.fz
                            have pcs : ((y.alloc (.cells #[.int .u8 101] 5)).cell? ⟨bb, k + 1, none⟩).isSome = true ∧ (y.alloc (.cells #[.int .u8 101] 5)).frozen? ⟨bb, k + 1, none⟩ = false := by
                              rw [World.cell?_alloc_old _ _ _ (by show bb ≠ _; omega), World.frozen?_alloc_old _ _ _ (by show bb ≠ _; omega), pc]; exact ⟨rfl, pf⟩
                            have PCS : Hid (((y.alloc (.cells #[.int .u8 101] 5)).cell? ⟨bb, k + 1, none⟩).isSome = true ∧ (y.alloc (.cells #[.int .u8 101] 5)).frozen? ⟨bb, k + 1, none⟩ = false) := pcs
                            have fls : ∀ v, ((y.alloc (.cells #[.int .u8 101] 5)).setCell ⟨bb, k + 1, none⟩ v).cell? ⟨sb, 0, none⟩ = some (.slice (some ⟨bb, 0, none⟩) (k + 1) n0) := fun v => by
                              rw [World.cell?_setCell_other _ _ _ _ (ne_block (Ne.symm hSy.ne)), World.cell?_alloc_old _ _ _ (by show sb ≠ _; omega)]; exact fldy
                            have fzs : ∀ v, ((y.alloc (.cells #[.int .u8 101] 5)).setCell ⟨bb, k + 1, none⟩ v).frozen? ⟨sb, 0, none⟩ = false := fun v => by
                              rw [World.frozen?_setCell, World.frozen?_alloc_old _ _ _ (by show sb ≠ _; omega)]; exact fzy
                            have BPU := hSy.push_below hBy (by omega) (.cells #[.int .u8 101] 5) 101 b1 b2
                            have PRE : Pre n0 (k + 1 + 1) O (fun j => if j = k + 1 then 101 else O j) := ⟨by omega, by omega, fun j hj => by rw [if_neg (by omega)], fun j hj => by
                              by_cases e : j = k + 1
                              · rw [if_pos e]; omega
                              · rw [if_neg e]; exact HO.out j hj⟩
                            clear pc pf pcs
                            go_wp2_with (at_builtin; refine wpList_append_one _ rfl (.tmp 118) (.tmp 119) 22 rfl 5 i0 Try.underlying22 hi0 hz1 bb (k + 1) n0 rfl ⟨y.heap.size, 0, none⟩ 1 (.int .u8 101) rfl (by simp [Addr.add]) rfl (by omega) PCS.out ?_)
                            go_meet
                            case rel => exact ⟨rfl, k + 1 + 1, _, PU, PRE, BPU⟩
                          | false =>
                            as_aux_lemma =>
                            have PRE : Pre n0 (k + 1) O O := ⟨by omega, by omega, fun _ _ => rfl, HO.out⟩
                            go_wp2
                            go_meet
                            case rel => exact ⟨rfl, k + 1, _, hSy, PRE, hBy⟩
                        · have hd1 : ((m : Int) == 1) = false := by rw [beq_eq_false_iff_ne]; omega
                          clear hm1
                          have PRE : Pre n0 (k + 1) O O := ⟨by omega, by omega, fun _ _ => rfl, HO.out⟩
                          go_wp2
                          go_meet
                          case rel => exact ⟨rfl, k + 1, _, hSy, PRE, hBy⟩
                      · have d2 : (x != 115) = true := by rw [bne_iff_ne]; exact x2
                        by_cases x3 : x = 122
                        · have d3 : (x != 122) = false := by rw [bne_eq_false_iff_eq]; exact x3
                          clear x1 x2 x3
                          go_wp2_with fail
                          refine (measure_any sb bb (k + 1) n0 (k + 1) O y hSy (Nat.le_refl _)).mono ?_
                          rintro e w' ⟨m, rfl, hm, rfl⟩
                          rename World => y
                          by_cases hm1 : m = 1
                          · have hd1 : ((m : Int) == 1) = true := by rw [beq_iff_eq]; omega
                            clear hm1
                            go_wp2_with fail
                            refine (cvc_any sb bb (k + 1) n0 (k + 1) O y hSy (Nat.le_refl _)).mono ?_
                            rintro e w' ⟨bb5, rfl, rfl⟩
                            rename World => y
                            cases bb5 with
                            | true =>
                              as_aux_lemma =>
                              obtain ⟨pc, pf⟩ := hSy.row (k + 1) (by omega)
                              obtain ⟨lt1, lt2⟩ := hSy.lt (by omega)
                              have PU := hSy.push (by omega) (.cells #[.int .u8 101] 5) 101
                              have fldy := hSy.fld
                              have fzy := hSy.fz
                              have pcs : ((y.alloc (.cells #[.int .u8 101] 5)).cell? ⟨bb, k + 1, none⟩).isSome = true ∧ (y.alloc (.cells #[.int .u8 101] 5)).frozen? ⟨bb, k + 1, none⟩ = false := by
                                rw [World.cell?_alloc_old _ _ _ (by show bb ≠ _; omega), World.frozen?_alloc_old _ _ _ (by show bb ≠ _; omega), pc]; exact ⟨rfl, pf⟩
                              have PCS : Hid (((y.alloc (.cells #[.int .u8 101] 5)).cell? ⟨bb, k + 1, none⟩).isSome = true ∧ (y.alloc (.cells #[.int .u8 101] 5)).frozen? ⟨bb, k + 1, none⟩ = false) := pcs
                              have fls : ∀ v, ((y.alloc (.cells #[.int .u8 101] 5)).setCell ⟨bb, k + 1, none⟩ v).cell? ⟨sb, 0, none⟩ = some (.slice (some ⟨bb, 0, none⟩) (k + 1) n0) := fun v => by
                                rw [World.cell?_setCell_other _ _ _ _ (ne_block (Ne.symm hSy.ne)), World.cell?_alloc_old _ _ _ (by show sb ≠ _; omega)]; exact fldy
                              have fzs : ∀ v, ((y.alloc (.cells #[.int .u8 101] 5)).setCell ⟨bb, k + 1, none⟩ v).frozen? ⟨sb, 0, none⟩ = false := fun v => by
                                rw [World.frozen?_setCell, World.frozen?_alloc_old _ _ _ (by show sb ≠ _; omega)]; exact fzy
                              have BPU := hSy.push_below hBy (by omega) (.cells #[.int .u8 101] 5) 101 b1 b2
                              have PRE : Pre n0 (k + 1 + 1) O (fun j => if j = k + 1 then 101 else O j) := ⟨by omega, by omega, fun j hj => by rw [if_neg (by omega)], fun j hj => by
                                by_cases e : j = k + 1
                                · rw [if_pos e]; omega
                                · rw [if_neg e]; exact HO.out j hj⟩
                              clear pc pf pcs
                              go_wp2_with (at_builtin; refine wpList_append_one _ rfl (.tmp 118) (.tmp 119) 22 rfl 5 i0 Try.underlying22 hi0 hz1 bb (k + 1) n0 rfl ⟨y.heap.size, 0, none⟩ 1 (.int .u8 101) rfl (by simp [Addr.add]) rfl (by omega) PCS.out ?_)
                              go_meet
                              case rel => exact ⟨rfl, k + 1 + 1, _, PU, PRE, BPU⟩
                            | false =>
                              as_aux_lemma =>
                              have PRE : Pre n0 (k + 1) O O := ⟨by omega, by omega, fun _ _ => rfl, HO.out⟩
                              go_wp2
                              go_meet
                              case rel => exact ⟨rfl, k + 1, _, hSy, PRE, hBy⟩
                          · have hd1 : ((m : Int) == 1) = false := by rw [beq_eq_false_iff_ne]; omega
                            clear hm1
                            have PRE : Pre n0 (k + 1) O O := ⟨by omega, by omega, fun _ _ => rfl, HO.out⟩
                            go_wp2
                            go_meet
                            case rel => exact ⟨rfl, k + 1, _, hSy, PRE, hBy⟩
                        · have d3 : (x != 122) = true := by rw [bne_iff_ne]; exact x3
                          have RES := hSy.cutTo (l' := k) (by omega)
                          have PRE : Pre n0 k O O := ⟨by omega, by omega, fun _ _ => rfl, HO.out⟩
                          have hkn : (k : Int) ≤ n0 := by omega
                          clear x1 x2 x3
                          go_wp2
                          go_meet
                          case rel => exact ⟨rfl, k, _, RES, PRE, hBy.setCell b1 _⟩
        · rename World => y
          have hn3 : l = n1 + 2 := hn1
          have hn4' : n1 + 2 ≤ n0 := by omega
          have hBy := hBw.trans hBy0
          clear hn1 hn3 hBy0 hs hBw PRE0
          obtain ⟨k, rfl⟩ : ∃ k, n1 = k + 1 := ⟨n1 - 1, by omega⟩
          have fldY := hSy.fld
          go_wp2_with fail
          refine (ends_any sb bb (k + 1) n0 ⟨#[97, 116]⟩ O y hSy (by decide) (by decide) HO.out).mono ?_
          rintro e w' ⟨bb3, rfl, hE3, rfl⟩
          rename World => y
          clear hE3
          cases bb3 with
          | true =>
            as_aux_lemma =>
            clear fldY
            obtain ⟨pc, pf⟩ := hSy.row (k + 1) (by omega)
            obtain ⟨lt1, lt2⟩ := hSy.lt (by omega)
            have PU := hSy.push (by omega) (.cells #[.int .u8 101] 5) 101
            have fldy := hSy.fld
            have fzy := hSy.fz
            have pcs : ((y.alloc (.cells #[.int .u8 101] 5)).cell? ⟨bb, k + 1, none⟩).isSome = true ∧ (y.alloc (.cells #[.int .u8 101] 5)).frozen? ⟨bb, k + 1, none⟩ = false := by
              rw [World.cell?_alloc_old _ _ _ (by show bb ≠ _; omega), World.frozen?_alloc_old _ _ _ (by show bb ≠ _; omega), pc]; exact ⟨rfl, pf⟩
            have PCS : Hid (((y.alloc (.cells #[.int .u8 101] 5)).cell? ⟨bb, k + 1, none⟩).isSome = true ∧ (y.alloc (.cells #[.int .u8 101] 5)).frozen? ⟨bb, k + 1, none⟩ = false) := pcs
            have fls : ∀ v, ((y.alloc (.cells #[.int .u8 101] 5)).setCell ⟨bb, k + 1, none⟩ v).cell? ⟨sb, 0, none⟩ = some (.slice (some ⟨bb, 0, none⟩) (k + 1) n0) := fun v => by
              rw [World.cell?_setCell_other _ _ _ _ (ne_block (Ne.symm hSy.ne)), World.cell?_alloc_old _ _ _ (by show sb ≠ _; omega)]; exact fldy
            have fzs : ∀ v, ((y.alloc (.cells #[.int .u8 101] 5)).setCell ⟨bb, k + 1, none⟩ v).frozen? ⟨sb, 0, none⟩ = false := fun v => by
              rw [World.frozen?_setCell, World.frozen?_alloc_old _ _ _ (by show sb ≠ _; omega)]; exact fzy
            have BPU := hSy.push_below hBy (by omega) (.cells #[.int .u8 101] 5) 101 b1 b2
            have PRE : Pre n0 (k + 1 + 1) O (fun j => if j = k + 1 then 101 else O j) := ⟨by omega, by omega, fun j hj => by rw [if_neg (by omega)], fun j hj => by
              by_cases e : j = k + 1
              · rw [if_pos e]; omega
              · rw [if_neg e]; exact HO.out j hj⟩
            clear pc pf pcs
            go_wp2_with (at_builtin; refine wpList_append_one _ rfl (.tmp 52) (.tmp 53) 22 rfl 5 i0 Try.underlying22 hi0 hz1 bb (k + 1) n0 rfl ⟨y.heap.size, 0, none⟩ 1 (.int .u8 101) rfl (by simp [Addr.add]) rfl (by omega) PCS.out ?_)
            go_meet
            case rel => exact ⟨rfl, k + 1 + 1, _, PU, PRE, BPU⟩
          | false =>
            as_aux_lemma =>
            go_wp2_with fail
            refine (ends_any sb bb (k + 1) n0 ⟨#[98, 108]⟩ O y hSy (by decide) (by decide) HO.out).mono ?_
            rintro e w' ⟨bb3, rfl, hE3, rfl⟩
            rename World => y
            clear hE3
            cases bb3 with
            | true =>
              as_aux_lemma =>
              clear fldY
              obtain ⟨pc, pf⟩ := hSy.row (k + 1) (by omega)
              obtain ⟨lt1, lt2⟩ := hSy.lt (by omega)
              have PU := hSy.push (by omega) (.cells #[.int .u8 101] 5) 101
              have fldy := hSy.fld
              have fzy := hSy.fz
              have pcs : ((y.alloc (.cells #[.int .u8 101] 5)).cell? ⟨bb, k + 1, none⟩).isSome = true ∧ (y.alloc (.cells #[.int .u8 101] 5)).frozen? ⟨bb, k + 1, none⟩ = false := by
                rw [World.cell?_alloc_old _ _ _ (by show bb ≠ _; omega), World.frozen?_alloc_old _ _ _ (by show bb ≠ _; omega), pc]; exact ⟨rfl, pf⟩
              have PCS : Hid (((y.alloc (.cells #[.int .u8 101] 5)).cell? ⟨bb, k + 1, none⟩).isSome = true ∧ (y.alloc (.cells #[.int .u8 101] 5)).frozen? ⟨bb, k + 1, none⟩ = false) := pcs
              have fls : ∀ v, ((y.alloc (.cells #[.int .u8 101] 5)).setCell ⟨bb, k + 1, none⟩ v).cell? ⟨sb, 0, none⟩ = some (.slice (some ⟨bb, 0, none⟩) (k + 1) n0) := fun v => by
                rw [World.cell?_setCell_other _ _ _ _ (ne_block (Ne.symm hSy.ne)), World.cell?_alloc_old _ _ _ (by show sb ≠ _; omega)]; exact fldy
              have fzs : ∀ v, ((y.alloc (.cells #[.int .u8 101] 5)).setCell ⟨bb, k + 1, none⟩ v).frozen? ⟨sb, 0, none⟩ = false := fun v => by
                rw [World.frozen?_setCell, World.frozen?_alloc_old _ _ _ (by show sb ≠ _; omega)]; exact fzy
              have BPU := hSy.push_below hBy (by omega) (.cells #[.int .u8 101] 5) 101 b1 b2
              have PRE : Pre n0 (k + 1 + 1) O (fun j => if j = k + 1 then 101 else O j) := ⟨by omega, by omega, fun j hj => by rw [if_neg (by omega)], fun j hj => by
                by_cases e : j = k + 1
                · rw [if_pos e]; omega
                · rw [if_neg e]; exact HO.out j hj⟩
              clear pc pf pcs
              go_wp2_with (at_builtin; refine wpList_append_one _ rfl (.tmp 52) (.tmp 53) 22 rfl 5 i0 Try.underlying22 hi0 hz1 bb (k + 1) n0 rfl ⟨y.heap.size, 0, none⟩ 1 (.int .u8 101) rfl (by simp [Addr.add]) rfl (by omega) PCS.out ?_)
              go_meet
              case rel => exact ⟨rfl, k + 1 + 1, _, PU, PRE, BPU⟩
            | false =>
              as_aux_lemma =>
              go_wp2_with fail
              refine (ends_any sb bb (k + 1) n0 ⟨#[105, 122]⟩ O y hSy (by decide) (by decide) HO.out).mono ?_
              rintro e w' ⟨bb3, rfl, hE3, rfl⟩
              rename World => y
              clear hE3
              cases bb3 with
              | true =>
                as_aux_lemma =>
                clear fldY
                obtain ⟨pc, pf⟩ := hSy.row (k + 1) (by omega)
                obtain ⟨lt1, lt2⟩ := hSy.lt (by omega)
                have PU := hSy.push (by omega) (.cells #[.int .u8 101] 5) 101
                have fldy := hSy.fld
                have fzy := hSy.fz
                have pcs : ((y.alloc (.cells #[.int .u8 101] 5)).cell? ⟨bb, k + 1, none⟩).isSome = true ∧ (y.alloc (.cells #[.int .u8 101] 5)).frozen? ⟨bb, k + 1, none⟩ = false := by
                  rw [World.cell?_alloc_old _ _ _ (by show bb ≠ _; omega), World.frozen?_alloc_old _ _ _ (by show bb ≠ _; omega), pc]; exact ⟨rfl, pf⟩
                have PCS : Hid (((y.alloc (.cells #[.int .u8 101] 5)).cell? ⟨bb, k + 1, none⟩).isSome = true ∧ (y.alloc (.cells #[.int .u8 101] 5)).frozen? ⟨bb, k + 1, none⟩ = false) := pcs
                have fls : ∀ v, ((y.alloc (.cells #[.int .u8 101] 5)).setCell ⟨bb, k + 1, none⟩ v).cell? ⟨sb, 0, none⟩ = some (.slice (some ⟨bb, 0, none⟩) (k + 1) n0) := fun v => by
                  rw [World.cell?_setCell_other _ _ _ _ (ne_block (Ne.symm hSy.ne)), World.cell?_alloc_old _ _ _ (by show sb ≠ _; omega)]; exact fldy
                have fzs : ∀ v, ((y.alloc (.cells #[.int .u8 101] 5)).setCell ⟨bb, k + 1, none⟩ v).frozen? ⟨sb, 0, none⟩ = false := fun v => by
                  rw [World.frozen?_setCell, World.frozen?_alloc_old _ _ _ (by show sb ≠ _; omega)]; exact fzy
                have BPU := hSy.push_below hBy (by omega) (.cells #[.int .u8 101] 5) 101 b1 b2
                have PRE : Pre n0 (k + 1 + 1) O (fun j => if j = k + 1 then 101 else O j) := ⟨by omega, by omega, fun j hj => by rw [if_neg (by omega)], fun j hj => by
                  by_cases e : j = k + 1
                  · rw [if_pos e]; omega
                  · rw [if_neg e]; exact HO.out j hj⟩
                clear pc pf pcs
                go_wp2_with (at_builtin; refine wpList_append_one _ rfl (.tmp 52) (.tmp 53) 22 rfl 5 i0 Try.underlying22 hi0 hz1 bb (k + 1) n0 rfl ⟨y.heap.size, 0, none⟩ 1 (.int .u8 101) rfl (by simp [Addr.add]) rfl (by omega) PCS.out ?_)
                go_meet
                case rel => exact ⟨rfl, k + 1 + 1, _, PU, PRE, BPU⟩
              | false =>
                as_aux_lemma =>
                go_wp2_with fail
                refine (double_any sb bb (k + 1) n0 (k + 1) O y hSy (Nat.le_refl _)).mono ?_
                rintro e y2 ⟨bb4, rfl, hd2, q, hq⟩
                have hSz : Stm y2 sb bb (k + 1) n0 O := by rw [hq]; exact hSy.drewN q
                have hBz : Below B w y2 := by rw [hq]; exact below_drewN hBy
                clear hq hSy hBy fldY
                have hSy := hSz
                have hBy := hBz
                clear hSz hBz
                rename World => y
                cases bb4 with
                | false =>
                  as_aux_lemma =>
                  clear hd2
                  go_wp2_with fail
                  refine (measure_any sb bb (k + 1) n0 (k + 1) O y hSy (Nat.le_refl _)).mono ?_
                  rintro e w' ⟨m, rfl, hm, rfl⟩
                  rename World => y
                  by_cases hm1 : m = 1
                  · have hd1 : ((m : Int) == 1) = true := by rw [beq_iff_eq]; omega
                    clear hm1
                    go_wp2_with fail
                    refine (cvc_any sb bb (k + 1) n0 (k + 1) O y hSy (Nat.le_refl _)).mono ?_
                    rintro e w' ⟨bb5, rfl, rfl⟩
                    rename World => y
                    cases bb5 with
                    | true =>
                      as_aux_lemma =>
                      obtain ⟨pc, pf⟩ := hSy.row (k + 1) (by omega)
                      obtain ⟨lt1, lt2⟩ := hSy.lt (by omega)
                      have PU := hSy.push (by omega) (.cells #[.int .u8 101] 5) 101
                      have fldy := hSy.fld
                      have fzy := hSy.fz
                      have pcs : ((y.alloc (.cells #[.int .u8 101] 5)).cell? ⟨bb, k + 1, none⟩).isSome = true ∧ (y.alloc (.cells #[.int .u8 101] 5)).frozen? ⟨bb, k + 1, none⟩ = false := by
                        rw [World.cell?_alloc_old _ _ _ (by show bb ≠ _; omega), World.frozen?_alloc_old _ _ _ (by show bb ≠ _; omega), pc]; exact ⟨rfl, pf⟩
                      have PCS : Hid (((y.alloc (.cells #[.int .u8 101] 5)).cell? ⟨bb, k + 1, none⟩).isSome = true ∧ (y.alloc (.cells #[.int .u8 101] 5)).frozen? ⟨bb, k + 1, none⟩ = false) := pcs
                      have fls : ∀ v, ((y.alloc (.cells #[.int .u8 101] 5)).setCell ⟨bb, k + 1, none⟩ v).cell? ⟨sb, 0, none⟩ = some (.slice (some ⟨bb, 0, none⟩) (k + 1) n0) := fun v => by
                        rw [World.cell?_setCell_other _ _ _ _ (ne_block (Ne.symm hSy.ne)), World.cell?_alloc_old _ _ _ (by show sb ≠ _; omega)]; exact fldy
                      have fzs : ∀ v, ((y.alloc (.cells #[.int .u8 101] 5)).setCell ⟨bb, k + 1, none⟩ v).frozen? ⟨sb, 0, none⟩ = false := fun v => by
                        rw [World.frozen?_setCell, World.frozen?_alloc_old _ _ _ (by show sb ≠ _; omega)]; exact fzy
                      have BPU := hSy.push_below hBy (by omega) (.cells #[.int .u8 101] 5) 101 b1 b2
                      have PRE : Pre n0 (k + 1 + 1) O (fun j => if j = k + 1 then 101 else O j) := ⟨by omega, by omega, fun j hj => by rw [if_neg (by omega)], fun j hj => by
                        by_cases e : j = k + 1
                        · rw [if_pos e]; omega
                        · rw [if_neg e]; exact HO.out j hj⟩
                      clear pc pf pcs
                      go_wp2_with (at_builtin; refine wpList_append_one _ rfl (.tmp 118) (.tmp 119) 22 rfl 5 i0 Try.underlying22 hi0 hz1 bb (k + 1) n0 rfl ⟨y.heap.size, 0, none⟩ 1 (.int .u8 101) rfl (by simp [Addr.add]) rfl (by omega) PCS.out ?_)
                      go_meet
                      case rel => exact ⟨rfl, k + 1 + 1, _, PU, PRE, BPU⟩
                    | false =>
                      as_aux_lemma =>
                      have PRE : Pre n0 (k + 1) O O := ⟨by omega, by omega, fun _ _ => rfl, HO.out⟩
                      go_wp2
                      go_meet
                      case rel => exact ⟨rfl, k + 1, _, hSy, PRE, hBy⟩
                  · have hd1 : ((m : Int) == 1) = false := by rw [beq_eq_false_iff_ne]; omega
                    clear hm1
                    have PRE : Pre n0 (k + 1) O O := ⟨by omega, by omega, fun _ _ => rfl, HO.out⟩
                    go_wp2
                    go_meet
                    case rel => exact ⟨rfl, k + 1, _, hSy, PRE, hBy⟩
                | true =>
                  as_aux_lemma =>
                  have hk2 : 1 ≤ k := by have := hd2 rfl; omega
                  clear hd2
                  have fldY := hSy.fld
                  have fzY := hSy.fz
                  obtain ⟨cx, _⟩ := hSy.row k (by omega)
                  rw [nums_at] at cx
                  obtain ⟨x, hx⟩ : ∃ x, O k = x := ⟨_, rfl⟩
                  rw [hx] at cx
                  clear hx
                  have hkk : (k : Int) < (k : Int) + 1 := by omega
                  by_cases x1 : x = 108
                  · have d1 : (x != 108) = false := by rw [bne_eq_false_iff_eq]; exact x1
                    clear x1
                    go_wp2_with fail
                    refine (measure_any sb bb (k + 1) n0 (k + 1) O y hSy (Nat.le_refl _)).mono ?_
                    rintro e w' ⟨m, rfl, hm, rfl⟩
                    rename World => y
                    by_cases hm1 : m = 1
                    · have hd1 : ((m : Int) == 1) = true := by rw [beq_iff_eq]; omega
                      clear hm1
                      go_wp2_with fail
                      refine (cvc_any sb bb (k + 1) n0 (k + 1) O y hSy (Nat.le_refl _)).mono ?_
                      rintro e w' ⟨bb5, rfl, rfl⟩
                      rename World => y
                      cases bb5 with
                      | true =>
                        as_aux_lemma =>
                        obtain ⟨pc, pf⟩ := hSy.row (k + 1) (by omega)
                        obtain ⟨lt1, lt2⟩ := hSy.lt (by omega)
                        have PU := hSy.push (by omega) (.cells #[.int .u8 101] 5) 101
                        have fldy := hSy.fld
                        have fzy := hSy.fz
                        have pcs : ((y.alloc (.cells #[.int .u8 101] 5)).cell? ⟨bb, k + 1, none⟩).isSome = true ∧ (y.alloc (.cells #[.int .u8 101] 5)).frozen? ⟨bb, k + 1, none⟩ = false := by
                          rw [World.cell?_alloc_old _ _ _ (by show bb ≠ _; omega), World.frozen?_alloc_old _ _ _ (by show bb ≠ _; omega), pc]; exact ⟨rfl, pf⟩
                        have PCS : Hid (((y.alloc (.cells #[.int .u8 101] 5)).cell? ⟨bb, k + 1, none⟩).isSome = true ∧ (y.alloc (.cells #[.int .u8 101] 5)).frozen? ⟨bb, k + 1, none⟩ = false) := pcs
                        have fls : ∀ v, ((y.alloc (.cells #[.int .u8 101] 5)).setCell ⟨bb, k + 1, none⟩ v).cell? ⟨sb, 0, none⟩ = some (.slice (some ⟨bb, 0, none⟩) (k + 1) n0) := fun v => by
                          rw [World.cell?_setCell_other _ _ _ _ (ne_block (Ne.symm hSy.ne)), World.cell?_alloc_old _ _ _ (by show sb ≠ _; omega)]; exact fldy
                        have fzs : ∀ v, ((y.alloc (.cells #[.int .u8 101] 5)).setCell ⟨bb, k + 1, none⟩ v).frozen? ⟨sb, 0, none⟩ = false := fun v => by
                          rw [World.frozen?_setCell, World.frozen?_alloc_old _ _ _ (by show sb ≠ _; omega)]; exact fzy
                        have BPU := hSy.push_below hBy (by omega) (.cells #[.int .u8 101] 5) 101 b1 b2
                        have PRE : Pre n0 (k + 1 + 1) O (fun j => if j = k + 1 then 101 else O j) := ⟨by omega, by omega, fun j hj => by rw [if_neg (by omega)], fun j hj => by
                          by_cases e : j = k + 1
                          · rw [if_pos e]; omega
                          · rw [if_neg e]; exact HO.out j hj⟩
                        clear pc pf pcs
                        go_wp2_with (at_builtin; refine wpList_append_one _ rfl (.tmp 118) (.tmp 119) 22 rfl 5 i0 Try.underlying22 hi0 hz1 bb (k + 1) n0 rfl ⟨y.heap.size, 0, none⟩ 1 (.int .u8 101) rfl (by simp [Addr.add]) rfl (by omega) PCS.out ?_)
                        go_meet
                        case rel => exact ⟨rfl, k + 1 + 1, _, PU, PRE, BPU⟩
                      | false =>
                        as_aux_lemma =>
                        have PRE : Pre n0 (k + 1) O O := ⟨by omega, by omega, fun _ _ => rfl, HO.out⟩
                        go_wp2
                        go_meet
                        case rel => exact ⟨rfl, k + 1, _, hSy, PRE, hBy⟩
                    · have hd1 : ((m : Int) == 1) = false := by rw [beq_eq_false_iff_ne]; omega
                      clear hm1
                      have PRE : Pre n0 (k + 1) O O := ⟨by omega, by omega, fun _ _ => rfl, HO.out⟩
                      go_wp2
                      go_meet
                      case rel => exact ⟨rfl, k + 1, _, hSy, PRE, hBy⟩
                  · have d1 : (x != 108) = true := by rw [bne_iff_ne]; exact x1
                    by_cases x2 : x = 115
                    · have d2 : (x != 115) = false := by rw [bne_eq_false_iff_eq]; exact x2
                      clear x1 x2
                      go_wp2_with fail
                      refine (measure_any sb bb (k + 1) n0 (k + 1) O y hSy (Nat.le_refl _)).mono ?_
                      rintro e w' ⟨m, rfl, hm, rfl⟩
                      rename World => y
                      by_cases hm1 : m = 1
                      · have hd1 : ((m : Int) == 1) = true := by rw [beq_iff_eq]; omega
                        clear hm1
                        go_wp2_with fail
                        refine (cvc_any sb bb (k + 1) n0 (k + 1) O y hSy (Nat.le_refl _)).mono ?_
                        rintro e w' ⟨bb5, rfl, rfl⟩
                        rename World => y
                        cases bb5 with
                        | true =>
                          as_aux_lemma =>
                          obtain ⟨pc, pf⟩ := hSy.row (k + 1) (by omega)
                          obtain ⟨lt1, lt2⟩ := hSy.lt (by omega)
                          have PU := hSy.push (by omega) (.cells #[.int .u8 101] 5) 101
                          have fldy := hSy.fld
                          have fzy := hSy.fz
                          have pcs : ((y.alloc (.cells #[.int .u8 101] 5)).cell? ⟨bb, k + 1, none⟩).isSome = true ∧ (y.alloc (.cells #[.int .u8 101] 5)).frozen? ⟨bb, k + 1, none⟩ = false := by
                            rw [World.cell?_alloc_old _ _ _ (by show bb ≠ _; omega), World.frozen?_alloc_old _ _ _ (by show bb ≠ _; omega), pc]; exact ⟨rfl, pf⟩
                          have PCS : Hid (((y.alloc (.cells #[.int .u8 101] 5)).cell? ⟨bb, k + 1, none⟩).isSome = true ∧ (y.alloc (.cells #[.int .u8 101] 5)).frozen? ⟨bb, k + 1, none⟩ = false) := pcs
                          have fls : ∀ v, ((y.alloc (.cells #[.int .u8 101] 5)).setCell ⟨bb, k + 1, none⟩ v).cell? ⟨sb, 0, none⟩ = some (.slice (some ⟨bb, 0, none⟩) (k + 1) n0) := fun v => by
                            rw [World.cell?_setCell_other _ _ _ _ (ne_block (Ne.symm hSy.ne)), World.cell?_alloc_old _ _ _ (by show sb ≠ _; omega)]; exact fldy
                          have fzs : ∀ v, ((y.alloc (.cells #[.int .u8 101] 5)).setCell ⟨bb, k + 1, none⟩ v).frozen? ⟨sb, 0, none⟩ = false := fun v => by
                            rw [World.frozen?_setCell, World.frozen?_alloc_old _ _ _ (by show sb ≠ _; omega)]; exact fzy
                          have BPU := hSy.push_below hBy (by omega) (.cells #[.int .u8 101] 5) 101 b1 b2
                          have PRE : Pre n0 (k + 1 + 1) O (fun j => if j = k + 1 then 101 else O j) := ⟨by omega, by omega, fun j hj => by rw [if_neg (by omega)], fun j hj => by
                            by_cases e : j = k + 1
                            · rw [if_pos e]; omega
                            · rw [if_neg e]; exact HO.out j hj⟩
                          clear pc pf pcs
                          go_wp2_with (at_builtin; refine wpList_append_one _ rfl (.tmp 118) (.tmp 119) 22 rfl 5 i0 Try.underlying22 hi0 hz1 bb (k + 1) n0 rfl ⟨y.heap.size, 0, none⟩ 1 (.int .u8 101) rfl (by simp [Addr.add]) rfl (by omega) PCS.out ?_)
                          go_meet
                          case rel => exact ⟨rfl, k + 1 + 1, _, PU, PRE, BPU⟩
                        | false =>
                          as_aux_lemma =>
                          have PRE : Pre n0 (k + 1) O O := ⟨by omega, by omega, fun _ _ => rfl, HO.out⟩
                          go_wp2
                          go_meet
                          case rel => exact ⟨rfl, k + 1, _, hSy, PRE, hBy⟩
                      · have hd1 : ((m : Int) == 1) = false := by rw [beq_eq_false_iff_ne]; omega
                        clear hm1
                        have PRE : Pre n0 (k + 1) O O := ⟨by omega, by omega, fun _ _ => rfl, HO.out⟩
                        go_wp2
                        go_meet
                        case rel => exact ⟨rfl, k + 1, _, hSy, PRE, hBy⟩
                    · have d2 : (x != 115) = true := by rw [bne_iff_ne]; exact x2
                      by_cases x3 : x = 122
                      · have d3 : (x != 122) = false := by rw [bne_eq_false_iff_eq]; exact x3
                        clear x1 x2 x3
                        go_wp2_with fail
                        refine (measure_any sb bb (k + 1) n0 (k + 1) O y hSy (Nat.le_refl _)).mono ?_
                        rintro e w' ⟨m, rfl, hm, rfl⟩
                        rename World => y
                        by_cases hm1 : m = 1
                        · have hd1 : ((m : Int) == 1) = true := by rw [beq_iff_eq]; omega
                          clear hm1
                          go_wp2_with fail
                          refine (cvc_any sb bb (k + 1) n0 (k + 1) O y hSy (Nat.le_refl _)).mono ?_
                          rintro e w' ⟨bb5, rfl, rfl⟩
                          rename World => y
                          cases bb5 with
                          | true =>
                            as_aux_lemma =>
                            obtain ⟨pc, pf⟩ := hSy.row (k + 1) (by omega)
                            obtain ⟨lt1, lt2⟩ := hSy.lt (by omega)
                            have PU := hSy.push (by omega) (.cells #[.int .u8 101] 5) 101
                            have fldy := hSy.fld
                            have fzy := hSy.fz
                            have pcs : ((y.alloc (.cells #[.int .u8 101] 5)).cell? ⟨bb, k + 1, none⟩).isSome = true ∧ (y.alloc (.cells #[.int .u8 101] 5)).frozen? ⟨bb, k + 1, none⟩ = false := by
                              rw [World.cell?_alloc_old _ _ _ (by show bb ≠ _; omega), World.frozen?_alloc_old _ _ _ (by show bb ≠ _; omega), pc]; exact ⟨rfl, pf⟩
                            have PCS : Hid (((y.alloc (.cells #[.int .u8 101] 5)).cell? ⟨bb, k + 1, none⟩).isSome = true ∧ (y.alloc (.cells #[.int .u8 101] 5)).frozen? ⟨bb, k + 1, none⟩ = false) := pcs
                            have fls : ∀ v, ((y.alloc (.cells #[.int .u8 101] 5)).setCell ⟨bb, k + 1, none⟩ v).cell? ⟨sb, 0, none⟩ = some (.slice (some ⟨bb, 0, none⟩) (k + 1) n0) := fun v => by
                              rw [World.cell?_setCell_other _ _ _ _ (ne_block (Ne.symm hSy.ne)), World.cell?_alloc_old _ _ _ (by show sb ≠ _; omega)]; exact fldy
                            have fzs : ∀ v, ((y.alloc (.cells #[.int .u8 101] 5)).setCell ⟨bb, k + 1, none⟩ v).frozen? ⟨sb, 0, none⟩ = false := fun v => by
                              rw [World.frozen?_setCell, World.frozen?_alloc_old _ _ _ (by show sb ≠ _; omega)]; exact fzy
                            have BPU := hSy.push_below hBy (by omega) (.cells #[.int .u8 101] 5) 101 b1 b2
                            have PRE : Pre n0 (k + 1 + 1) O (fun j => if j = k + 1 then 101 else O j) := ⟨by omega, by omega, fun j hj => by rw [if_neg (by omega)], fun j hj => by
                              by_cases e : j = k + 1
                              · rw [if_pos e]; omega
                              · rw [if_neg e]; exact HO.out j hj⟩
                            clear pc pf pcs
                            go_wp2_with (at_builtin; refine wpList_append_one _ rfl (.tmp 118) (.tmp 119) 22 rfl 5 i0 Try.underlying22 hi0 hz1 bb (k + 1) n0 rfl ⟨y.heap.size, 0, none⟩ 1 (.int .u8 101) rfl (by simp [Addr.add]) rfl (by omega) PCS.out ?_)
                            go_meet
                            case rel => exact ⟨rfl, k + 1 + 1, _, PU, PRE, BPU⟩
                          | false =>
                            as_aux_lemma =>
                            have PRE : Pre n0 (k + 1) O O := ⟨by omega, by omega, fun _ _ => rfl, HO.out⟩
                            go_wp2
                            go_meet
                            case rel => exact ⟨rfl, k + 1, _, hSy, PRE, hBy⟩
                        · have hd1 : ((m : Int) == 1) = false := by rw [beq_eq_false_iff_ne]; omega
                          clear hm1
                          have PRE : Pre n0 (k + 1) O O := ⟨by omega, by omega, fun _ _ => rfl, HO.out⟩
                          go_wp2
                          go_meet
                          case rel => exact ⟨rfl, k + 1, _, hSy, PRE, hBy⟩
                      · have d3 : (x != 122) = true := by rw [bne_iff_ne]; exact x3
                        have RES := hSy.cutTo (l' := k) (by omega)
                        have PRE : Pre n0 k O O := ⟨by omega, by omega, fun _ _ => rfl, HO.out⟩
                        have hkn : (k : Int) ≤ n0 := by omega
                        clear x1 x2 x3
                        go_wp2
                        go_meet
                        case rel => exact ⟨rfl, k, _, RES, PRE, hBy.setCell b1 _⟩
    case rest =>
      as_aux_lemma =>
      obtain ⟨rfl, l2, V2, hs2, hP2, hBw2⟩ := hcut
      rename World => w2
      have HR2 : Hid (∀ j, j < n0 → 0 ≤ V2 j ∧ V2 j ≤ 255) := hP2.rng
      have hp1 := hP2.pos
      have hp2 := hP2.le
      go_wp2_with fail
      refine (ends_any sb bb l2 n0 ⟨#[121]⟩ V2 w2 hs2 (by decide) (by decide) HR2.out).mono ?_
      rintro e w' ⟨bb1, rfl, hE, rfl⟩
      rename World => w2
      cases bb1 with
      | false =>
        as_aux_lemma =>
        clear hE
        go_wp2
        go_end0
        exact ⟨rfl, l2, V2, hs2, hP2, hBw2⟩
      | true =>
      as_aux_lemma =>
      have e4 : 1 < l2 := (hE rfl).1
      clear hE
      obtain ⟨n, rfl⟩ : ∃ n, l2 = n + 1 := ⟨l2 - 1, by omega⟩
      go_wp2_with fail
      refine (stemLen_any sb n n0 _ ⟨#[121]⟩ w2 hs2.fld (by show n + 1 ≤ 4096; omega)).mono ?_
      rintro e w' ⟨rfl, rfl⟩
      rename World => w2
      go_wp2_with fail
      refine (vowel_any sb bb (n + 1) n0 n V2 w2 hs2 (by omega)).mono ?_
      rintro e w' ⟨bb2, rfl, rfl⟩
      rename World => w2
      cases bb2 with
      | false =>
        as_aux_lemma =>
        go_wp2
        go_end0
        exact ⟨rfl, n + 1, V2, hs2, hP2, hBw2⟩
      | true =>
      as_aux_lemma =>
      have fld2 := hs2.fld
      obtain ⟨cn, fn⟩ := hs2.row n (by omega)
      have hnn : (n : Int) < (n : Int) + 1 := by omega
      have RES := hs2.put (i := n) (by omega) 105
      have PR : Pre n0 (n + 1) O (fun j => if j = n then 105 else V2 j) := ⟨by omega, by omega, fun j hj => by rw [if_neg (by omega)]; exact hP2.same j hj, fun j hj => by
        by_cases e : j = n
        · rw [if_pos e]; omega
        · rw [if_neg e]; exact HR2.out j hj⟩
      go_wp2_with fail
      go_region
      all_goals
        go_wp2
        go_end0
        exact ⟨rfl, n + 1, _, RES.drewN 1, PR, (hBw2.setCell b2 _).drew⟩
end Go.Proofs.Qxb6000751a
