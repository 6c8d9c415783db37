/-
  The walk of cutIfVowelBefore; one byte appended where there is room.
-/
import Derived.Test.Qxb6000751aEnds
namespace Go.Proofs.Qxb6000751a
open Go.RowKit

theorem wpList_append_one {P : Program} (w : World) {ops : Array Oper} {rest : List Oper} {o : Oper} {a : Act} {Q : Exit → Act → World → Prop}
    (hg : o.guard = none) (s x : Operand) (t : TypeId) (hop : o.op = Op.call { callee := Callee.builtin Builtin.append, args := #[s, x], argTypes := #[t, t] })
    (e : TypeId) (i : TypeInfo) (h1 : P.underlying t = some (.slice e)) (h2 : P.info? e = some i) (h4 : i.size = 1)
    (b n cap : Nat) (hs : a.eval s = .slice (some ⟨b, 0, none⟩) n cap) (ad : Addr) (c : Nat) (v : Value) (hx : a.eval x = .slice (some ad) 1 c) (hv : w.cell? (ad.add 0) = some v) (h1c : v.oneCell' = true)
    (hroom : n + 1 ≤ cap) (hsp : (w.cell? ⟨b, n, none⟩).isSome = true ∧ w.frozen? ⟨b, n, none⟩ = false)
    (hK : wpList P ops Q rest (a.put o.dst (.slice (some ⟨b, 0, none⟩) (n + 1) cap)) (w.setCell ⟨b, n, none⟩ v)) :
    wpList P ops Q (o :: rest) a w := by
  refine wpList_plain hg fun K hK' => ?_
  have hsrc := Src.ofSlice (P := P) w (size := 1) h1 ad 1 c [v] (by simp) (fun j u hj => by
    match j, hj with
    | 0, hj => simp at hj; subst hj; exact hv) (fun u hu => by simp at hu; subst hu; exact h1c)
  have hrun := run_append_room_src (P := P) w t t o.type e i h1 h2 b 0 n cap _ 1 [v] (by rw [h4]; exact hsrc) hroom
    (fun j hj => by
      have : j = 0 := by simpa using hj
      subst this; rw [h4, Nat.mul_one, Nat.zero_add, Nat.add_zero]; exact hsp.1)
    (fun j hj => by
      have : j = 0 := by simpa using hj
      subst this; rw [h4, Nat.mul_one, Nat.zero_add, Nat.add_zero]; exact hsp.2)
  rw [h4, Nat.mul_one, Nat.zero_add] at hrun
  unfold Oper.wp
  simp [execOp, hop, resolve, invoke, builtin, hs, hx, hrun, Result.andThen]
  exact hK' _ _ hK

/-- cutIfVowelBefore: it says no and nothing has turned, or yes and the ending is off. -/
def CEnd (B sb bb l cap : Nat) (V : Nat → Int) (str : ByteArray) (w : World) (e : Ending) (w' : World) : Prop :=
  (e = .returned (.bool false) ∧ w' = w) ∨ (e = .returned (.bool true) ∧ ∃ n, l = n + str.size ∧ 0 < n ∧ Stm w' sb bb n cap V ∧ Below B w w')

theorem Stm.congr {w : World} {sb bb l cap : Nat} {V V' : Nat → Int} (h : Stm w sb bb l cap V) (e : ∀ j, j < cap → V j = V' j) : Stm w sb bb l cap V' :=
  ⟨h.fld, h.fz, h.row.congr (fun j hj => by rw [nums_at, nums_at, e j hj]), h.ne, h.le, h.cap_le⟩

set_option maxHeartbeats 2000000 in
theorem cut_any (B sb bb l cap : Nat) (str : ByteArray) (V : Nat → Int) (w : World) (h : Stm w sb bb l cap V) (hk : 0 < str.size) (hz : str.size ≤ 4096) (hV : ∀ j, j < cap → 0 ≤ V j ∧ V j ≤ 255) (b1 : B ≤ sb) (b2 : B ≤ bb) :
    Calls Try.prog 40 #[.pointer (some ⟨sb, 0, none⟩), .string str] w fun e w' => CEnd B sb bb l cap V str w e w' := by
  have HV : Hid (∀ j, j < cap → 0 ≤ V j ∧ V j ≤ 255) := hV
  clear hV
  have hl : l ≤ 4096 := Nat.le_trans h.le h.cap_le
  go_enter Try.func40, Try.ntmps40
  go_wp2_with fail
  refine (ends_any sb bb l cap str V w h hk hz HV.out).mono ?_
  rintro e w' ⟨bb1, rfl, hE, rfl⟩
  rename World => w
  cases bb1 with
  | false =>
    clear hE
    go_wp2
    go_ret
    exact Or.inl ⟨rfl, rfl⟩
  | true =>
  have hE1 := (hE rfl).1
  clear hE
  obtain ⟨n, rfl⟩ : ∃ n, l = n + str.size := ⟨l - str.size, by omega⟩
  go_wp2_with fail
  refine (stemLen_any sb n cap _ str w h.fld (by omega)).mono ?_
  rintro e w' ⟨rfl, rfl⟩
  rename World => w
  go_wp2_with fail
  refine (vowel_any sb bb (n + str.size) cap n V w h (by omega)).mono ?_
  rintro e w' ⟨bb2, rfl, rfl⟩
  rename World => w
  cases bb2 with
  | false =>
    go_wp2
    go_ret
    exact Or.inl ⟨rfl, rfl⟩
  | true =>
  go_wp2_with fail
  refine (set_suffix B sb bb n cap str ⟨#[]⟩ V w h (Nat.zero_le _) b1 b2).mono ?_
  rintro e w1 ⟨rfl, hS, hB⟩
  have hS' : Stm w1 sb bb n cap V := by
    have : Stm w1 sb bb n cap (over V n ⟨#[]⟩) := hS
    exact this.congr (fun j hj => by unfold over; rw [if_neg (by intro h; have := h.2; simp [ByteArray.size] at this; omega)])
  clear hS
  go_wp2
  go_ret
  exact Or.inr ⟨rfl, n, rfl, by omega, hS', hB⟩
end Go.Proofs.Qxb6000751a
