/-
  The walks of endsWith, stemLen, setSuffix, cutIfVowelBefore.
-/
import Derived.Test.Qxb6000751aStep
import Derived.Test.Qxb6000751aClone
import Derived.Deep.RegionLaw
import Derived.Deep.AppendSrc
import Derived.Laws.BytesArg
namespace Go.Proofs.Qxb6000751a
open Go.RowKit

theorem stemLen_any (sb n cap : Nat) (a : Option Addr) (str : ByteArray) (w : World) (fld : w.cell? ⟨sb, 0, none⟩ = some (.slice a (n + str.size) cap)) (hl : n + str.size ≤ 4096) :
    Calls Try.prog 39 #[.pointer (some ⟨sb, 0, none⟩), .string str] w fun e w' => e = .returned (.int .i64 n) ∧ w' = w := by
  go_enter Try.func39, Try.ntmps39
  go_wp2
  go_ret
  exact ⟨rfl, rfl⟩

theorem ends_short (sb l cap : Nat) (a : Option Addr) (str : ByteArray) (w : World) (fld : w.cell? ⟨sb, 0, none⟩ = some (.slice a l cap)) (hl : l ≤ 4096) (hz : str.size ≤ 4096) (hs : l ≤ str.size) :
    Calls Try.prog 37 #[.pointer (some ⟨sb, 0, none⟩), .string str] w fun e w' => e = .returned (.bool false) ∧ w' = w := by
  have hd : decide ((0 : Int) < (l : Int) - str.size) = false := decide_eq_false (by omega)
  go_enter Try.func37, Try.ntmps37
  go_wp2
  go_ret
  exact ⟨rfl, rfl⟩

/-- The bytes V n, V (n + 1), .., k of them, as a string. -/
def tail (V : Nat → Int) (n k : Nat) : ByteArray := strOfNums ((List.range k).map fun j => V (n + j))

set_option maxHeartbeats 1000000 in
theorem ends_long (sb bb n cap : Nat) (str : ByteArray) (V : Nat → Int) (w : World) (h : Stm w sb bb (n + str.size) cap V) (hn : 0 < n) (hk : 0 < str.size) :
    Calls Try.prog 37 #[.pointer (some ⟨sb, 0, none⟩), .string str] w fun e w' => e = .returned (.bool ((tail V n str.size).toList == str.toList)) ∧ w' = w := by
  have hd : decide ((0 : Int) < n) = true := decide_eq_true (by omega)
  have fld := h.fld
  have hlc := h.le
  have hcl := h.cap_le
  have hcv : (convert 22 9 (.slice (some ⟨bb, n, none⟩) str.size (cap - n))).run Try.prog w = .ok (.string (tail V n str.size)) w := by
    refine run_convert_bytes_arg w 22 5 Try.underlying22 Try.underlying5 bb n str.size (cap - n) _ (by simp) (fun i hi => ?_) 9 Try.underlying9
    rw [(h.row (n + i) (by omega)).1, nums_at]
    simp [List.getD, hi]
  generalize tail V n str.size = S at hcv ⊢
  have n1 : (n : Int) < cap := by omega
  go_enter Try.func37, Try.ntmps37
  go_wp2
  go_ret
  exact ⟨rfl, rfl⟩

/-- Byte j of a string. -/
def byteAt (str : ByteArray) (j : Nat) : Nat := ((str.data.toList[j]?).map (·.toNat)).getD 0
/-- The word ends in str, and keeps more than nothing ahead of it. -/
def Ends (V : Nat → Int) (l : Nat) (str : ByteArray) : Prop := str.size < l ∧ ∀ j, j < str.size → V (l - str.size + j) = (byteAt str j : Int)

theorem ends_of {V : Nat → Int} {n : Nat} {str : ByteArray} (hn : 0 < n) (hV : ∀ j, j < str.size → 0 ≤ V (n + j) ∧ V (n + j) ≤ 255) (h : ((tail V n str.size).toList == str.toList) = true) : Ends V (n + str.size) str := by
  rw [beq_iff_eq, ByteArray.toList_eq, ByteArray.toList_eq] at h
  refine ⟨by omega, fun j hj => ?_⟩
  rw [Nat.add_sub_cancel]
  have h1 := congrArg (fun l : List UInt8 => ((l[j]?).map (·.toNat)).getD 0) h
  simp only [tail, strOfNums_data, List.getElem?_map] at h1
  rw [List.getElem?_range hj] at h1
  simp only [Option.map_some, Option.getD_some, UInt8.toNat_ofNat'] at h1
  have := hV j hj
  have e : (V (n + j)).toNat % 2 ^ 8 = (V (n + j)).toNat := by omega
  rw [e] at h1
  unfold byteAt
  rw [← h1]
  omega

/-- endsWith answers; if yes, the word ends so; nothing has turned. -/
def EEnd (V : Nat → Int) (l : Nat) (str : ByteArray) (w : World) (e : Ending) (w' : World) : Prop := ∃ bb, e = .returned (.bool bb) ∧ (bb = true → Ends V l str) ∧ w' = w
theorem ends_any (sb bb l cap : Nat) (str : ByteArray) (V : Nat → Int) (w : World) (h : Stm w sb bb l cap V) (hk : 0 < str.size) (hz : str.size ≤ 4096) (hV : ∀ j, j < cap → 0 ≤ V j ∧ V j ≤ 255) :
    Calls Try.prog 37 #[.pointer (some ⟨sb, 0, none⟩), .string str] w fun e w' => EEnd V l str w e w' := by
  by_cases hs : str.size < l
  · obtain ⟨n, rfl⟩ : ∃ n, l = n + str.size := ⟨l - str.size, by omega⟩
    refine (ends_long sb bb n cap str V w h (by omega) hk).mono ?_
    rintro e w' ⟨rfl, rfl⟩
    exact ⟨_, rfl, fun hb => ends_of (by omega) (fun j hj => hV _ (by have := h.le; omega)) hb, rfl⟩
  · refine (ends_short sb l cap _ str w h.fld (Nat.le_trans h.le h.cap_le) hz (by omega)).mono ?_
    rintro e w' ⟨rfl, rfl⟩
    exact ⟨_, rfl, fun hb => (by cases hb), rfl⟩

/-- 'append(b, s...)', s a string, where there is room: one step of a region that draws. -/
theorem step_append_str {P : Program} {ops : Array Oper} {o : Oper} {a : Act} {w : World} {K : Act → World → Prop} {Q : Exit → Act → World → Prop} {E : Prop}
    (hg : o.guard = none) (s x : Operand) (t tx : TypeId) (hop : o.op = Op.call { callee := Callee.builtin Builtin.append, args := #[s, x], argTypes := #[t, tx] })
    (e : TypeId) (i : TypeInfo) (h1 : P.underlying t = some (.slice e)) (hk : P.underlying tx = some .string) (h2 : P.info? e = some i) (h4 : i.size = 1)
    (b n cap : Nat) (hs : a.eval s = .slice (some ⟨b, 0, none⟩) n cap) (str : ByteArray) (hx : a.eval x = .string str)
    (hroom : n + str.size ≤ cap) (hspare : ∀ j, j < str.size → (w.cell? ⟨b, n + j, none⟩).isSome = true ∧ w.frozen? ⟨b, n + j, none⟩ = false)
    (hK : K (a.put o.dst (.slice (some ⟨b, 0, none⟩) (n + str.size) cap)) (w.setCells b n (byteCells str))) :
    if Region.wanted o (yielded ops a.tmps) = true then Oper.wp P o a w K Q else E := by
  have hw : Region.wanted o (yielded ops a.tmps) = true := by simp [Region.wanted, hg]
  rw [if_pos hw]
  have hsrc := Src.ofString (P := P) w hk str
  have hrun := run_append_room_src (P := P) w t tx o.type e i h1 h2 b 0 n cap (.string str) str.size (byteCells str) (by rw [h4]; exact hsrc) hroom
    (fun j hj => by rw [byteCells_length] at hj; rw [h4, Nat.mul_one, Nat.zero_add]; exact (hspare j hj).1)
    (fun j hj => by rw [byteCells_length] at hj; rw [h4, Nat.mul_one, Nat.zero_add]; exact (hspare j hj).2)
  rw [h4, Nat.mul_one, Nat.zero_add] at hrun
  unfold Oper.wp
  simp [execOp, hop, resolve, invoke, builtin, hs, hx, hrun, Result.andThen]
  exact hK

/-- V with the bytes of str laid from n on. -/
def over (V : Nat → Int) (n : Nat) (str : ByteArray) : Nat → Int := fun j => if n ≤ j ∧ j < n + str.size then (byteAt str (j - n) : Int) else V j

theorem own_setCells : ∀ (vs : List Value) (w : World) (b cap n : Nat) (V : Nat → Value), Own w b cap V → n + vs.length ≤ cap → Own (w.setCells b n vs) b cap (fun j => if n ≤ j ∧ j < n + vs.length then vs.getD (j - n) undef else V j)
  | [], w, b, cap, n, V, h, _ => h.congr (fun j hj => by rw [if_neg (by simp)])
  | v :: vs, w, b, cap, n, V, h, hl => by
    simp only [List.length_cons] at hl
    rw [World.setCells]
    refine (own_setCells vs _ b cap (n + 1) _ (h.set (i := n) (by omega) v) (by omega)).congr ?_
    intro j hj
    simp only [List.length_cons]
    by_cases e : j = n
    · subst e
      rw [if_neg (by omega), upd_same, if_pos (by omega), Nat.sub_self]
      rfl
    · by_cases e2 : n + 1 ≤ j ∧ j < n + 1 + vs.length
      · rw [if_pos e2, if_pos (by omega), show j - n = (j - (n + 1)) + 1 by omega]
        rfl
      · rw [if_neg e2, upd_other _ _ _ _ e, if_neg (by omega)]
theorem over_cells (V : Nat → Int) (n : Nat) (str : ByteArray) (j : Nat) : (if n ≤ j ∧ j < n + (byteCells str).length then (byteCells str).getD (j - n) undef else nums .u8 V j) = nums .u8 (over V n str) j := by
  rw [byteCells_length, nums_at, nums_at]
  unfold over
  by_cases h : n ≤ j ∧ j < n + str.size
  · rw [if_pos h, if_pos h]
    have hlt : j - n < str.data.toList.length := by
      have : str.data.toList.length = str.size := Array.length_toList
      omega
    simp only [byteCells, List.getD_eq_getElem?_getD, List.getElem?_map, byteAt, List.getElem?_eq_getElem hlt, Option.map_some, Option.getD_some]
  · rw [if_neg h, if_neg h]

theorem Stm.laid {w w' : World} {sb bb l cap n : Nat} {V : Nat → Int} {str : ByteArray} (h : Stm w sb bb l cap V) (hr : n + str.size ≤ cap)
    (hw : w' = (w.setCells bb n (byteCells str)).setCell ⟨sb, 0, none⟩ (.slice (some ⟨bb, 0, none⟩) (n + str.size) cap)) : Stm w' sb bb (n + str.size) cap (over V n str) := by
  subst hw
  have hO := own_setCells (byteCells str) w bb cap n _ h.row (by rw [byteCells_length]; exact hr)
  have hf : (w.setCells bb n (byteCells str)).cell? ⟨sb, 0, none⟩ = some (.slice (some ⟨bb, 0, none⟩) l cap) := by
    rw [World.cell?_setCells_out bb _ _ _ _ (fun e => absurd e h.ne)]; exact h.fld
  refine ⟨World.cell?_setCell_same _ _ _ hf, by rw [World.frozen?_setCell, World.frozen?_setCells]; exact h.fz, ?_, h.ne, hr, h.cap_le⟩
  exact (hO.other h.ne _).congr (fun j hj => over_cells V n str j)

set_option maxHeartbeats 4000000 in
set_option maxRecDepth 1000000 in
theorem set_any (sb bb n cap : Nat) (old new : ByteArray) (V : Nat → Int) (w : World) (h : Stm w sb bb (n + old.size) cap V) (hr : new.size ≤ old.size) :
    Calls Try.prog 38 #[.pointer (some ⟨sb, 0, none⟩), .string old, .string new] w fun e w' => e = .returned (.tuple #[]) ∧
      w' = (w.drew.setCells bb n (byteCells new)).setCell ⟨sb, 0, none⟩ (.slice (some ⟨bb, 0, none⟩) (n + new.size) cap) := by
  obtain ⟨i0, hi0, hzz⟩ := Option.map_eq_some_iff.1 info5
  simp only [Prod.mk.injEq] at hzz
  have hz1 := hzz.2.1
  clear hzz
  have fld := h.fld
  have fz := h.fz
  have hlc := h.le
  have hcl := h.cap_le
  have hroom : n + new.size ≤ cap := by omega
  have hsp : ∀ j, j < new.size → (w.cell? ⟨bb, n + j, none⟩).isSome = true ∧ w.frozen? ⟨bb, n + j, none⟩ = false := fun j hj => by
    obtain ⟨c, f⟩ := h.row (n + j) (by omega)
    exact ⟨by rw [c]; rfl, f⟩
  have HSP : Hid (∀ j, j < new.size → (w.cell? ⟨bb, n + j, none⟩).isSome = true ∧ w.frozen? ⟨bb, n + j, none⟩ = false) := hsp
  have hfs : (w.drew.setCells bb n (byteCells new)).cell? ⟨sb, 0, none⟩ = some (.slice (some ⟨bb, 0, none⟩) (n + old.size) cap) := by
    rw [World.cell?_setCells_out bb _ _ _ _ (fun e => absurd e h.ne)]; exact h.fld
  have hzs : (w.drew.setCells bb n (byteCells new)).frozen? ⟨sb, 0, none⟩ = false := by rw [World.frozen?_setCells]; exact h.fz
  have hnc : (n : Int) ≤ cap := by omega
  have HST : Hid (Calls Try.prog 39 #[.pointer (some ⟨sb, 0, none⟩), .string old] w.drew fun e w' => e = .returned (.int .i64 n) ∧ w' = w.drew) := stemLen_any sb n cap _ old w.drew fld (by omega)
  clear hsp
  go_enter Try.func38, Try.ntmps38
  go_wp2_with fail
  go_region_law (first | (refine step_stem rfl (.tmp 11) (.tmp 12) 39 9 rfl _ _ (.int .i64 n) rfl rfl HST.out ?_) | (refine step_append_str rfl (.tmp 14) (.tmp 15) 22 9 rfl 5 i0 Try.underlying22 Try.underlying9 hi0 hz1 bb n cap rfl new rfl hroom HSP.out ?_))
  all_goals
    go_wp2
    go_end0
    exact ⟨rfl, rfl⟩

/-- setSuffix: the bytes of the new ending lie behind the stem; nothing below has turned. -/
theorem set_suffix (B sb bb n cap : Nat) (old new : ByteArray) (V : Nat → Int) (w : World) (h : Stm w sb bb (n + old.size) cap V) (hr : new.size ≤ old.size) (b1 : B ≤ sb) (b2 : B ≤ bb) :
    Calls Try.prog 38 #[.pointer (some ⟨sb, 0, none⟩), .string old, .string new] w fun e w' => e = .returned (.tuple #[]) ∧ Stm w' sb bb (n + new.size) cap (over V n new) ∧ Below B w w' := by
  refine (set_any sb bb n cap old new V w h hr).mono ?_
  rintro e w' ⟨rfl, rfl⟩
  refine ⟨rfl, (h.drewN 1).laid (by have := h.le; omega) rfl, ?_⟩
  exact ((Below.refl B w).drew.trans (below_setCells _ _ _ _ b2)).setCell b1 _

end Go.Proofs.Qxb6000751a
