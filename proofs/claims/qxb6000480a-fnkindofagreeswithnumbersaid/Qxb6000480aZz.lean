/-
  The walks of ZZNumber, kindOf, ZZKindOf and the two bounds on length.
-/
import Derived.Test.Qxb6000480aNumber
namespace Go.Proofs.Qxb6000480a
open Go.RowKit

theorem grown_drewN {W w' : World} (h : Grown W w') (n : Nat) : Grown W (w'.drewN n) := h
theorem grown_trans {a b c : World} (h : Grown a b) (k : Grown b c) : Grown a c :=
  ⟨World.keptBut_trans h.1 k.1, fun x => (k.2.1 x).trans (h.2.1 x), Nat.le_trans h.2.2 k.2.2⟩

/-- The end of ZZNumber. -/
def ZEnd (s : ByteArray) (off : Nat) (w : World) (e : Ending) (w' : World) : Prop :=
  Grown w w' ∧ ((∃ t : Nat, e = .returned (.tuple #[.int .i64 t, .bool true]) ∧ Num (bt s) off t) ∨ (∃ t : Nat, e = .returned (.tuple #[.int .i64 t, .bool false]) ∧ ∀ t, ¬ Num (bt s) off t))

set_option maxHeartbeats 1000000 in
theorem zz_any (s : ByteArray) (off : Nat) (w : World) (hs : s.size ≤ 1048577) (ho : off < s.size) :
    Calls Try.prog 17 #[.string s, .int .i64 off] w fun e w' => ZEnd s off w e w' := by
  go_enter Try.func17, Try.ntmps17
  go_wp2_with fail
  refine (num_any s w.heap.size off _ hs ho ?_ ?_ ?_).mono ?_
  · simp
  · simp
  · simp
  rintro e w' (⟨t, rfl, hN, n, rfl⟩ | ⟨rfl, hN, n, rfl⟩)
  · have HN : Hid (Num (bt s) off t) := hN
    clear hN
    go_wp2
    go_ret2
    exact ⟨grown_drewN ((Grown.refl w).alloc _ _) _, Or.inl ⟨t, rfl, HN.out⟩⟩
  · have HN : Hid (∀ t, ¬ Num (bt s) off t) := hN
    clear hN
    go_wp2
    go_ret2
    exact ⟨grown_drewN ((Grown.refl w).alloc _ _) _, Or.inr ⟨off, rfl, HN.out⟩⟩

/-- It answers; if yes, then S; nothing has turned. -/
def BEnd (S : Prop) (w : World) (e : Ending) (w' : World) : Prop := ∃ bb, e = .returned (.bool bb) ∧ (bb = true → S) ∧ w' = w
theorem bend_false {S : Prop} {w : World} : BEnd S w (.returned (.bool false)) w := ⟨false, rfl, fun e => (by cases e), rfl⟩
theorem bend_true {S : Prop} {w : World} (h : S) : BEnd S w (.returned (.bool true)) w := ⟨true, rfl, fun _ => h, rfl⟩

theorem bytes19 (s : ByteArray) (i : Int) (w : World) (h : s.size ≤ maxLen) :
    Calls Try.prog 19 #[.string s, .int .i64 i] w fun e w' => BEnd (s.size ≤ 1048576) w e w' := by
  unfold maxLen at h
  go_enter Try.func19, Try.ntmps19
  go_wp2
  all_goals (go_ret; first | exact bend_false | exact bend_true (by omega))
theorem bytes20 (s : ByteArray) (w : World) (h : s.size ≤ maxLen) :
    Calls Try.prog 20 #[.string s] w fun e w' => BEnd (s.size ≤ 1048576) w e w' := by
  unfold maxLen at h
  go_enter Try.func20, Try.ntmps20
  go_wp2
  all_goals (go_ret; first | exact bend_false | exact bend_true (by omega))

/-- A text whose first byte is a minus or a digit is named a number. -/
theorem kind_num (s : ByteArray) (w : World) (h0 : 0 < s.size) (hd : bt s 0 = 45 ∨ isD (bt s 0)) :
    Calls Try.prog 27 #[.string s] w fun e w' => e = .returned (.string ⟨#[97, 32, 110, 117, 109, 98, 101, 114]⟩) ∧ w' = w := by
  have hb := bt_lt s 0 h0
  unfold isD at hd
  rw [hb] at hd
  have h0' : (0 : Int) < s.size := by omega
  have e1 : ((s[0].toNat : Int) == 34) = false := by rw [beq_eq_false_iff_ne]; omega
  have e2 : ((s[0].toNat : Int) == 123) = false := by rw [beq_eq_false_iff_ne]; omega
  have e3 : ((s[0].toNat : Int) == 91) = false := by rw [beq_eq_false_iff_ne]; omega
  have e4 : ((s[0].toNat : Int) == 116) = false := by rw [beq_eq_false_iff_ne]; omega
  have e5 : ((s[0].toNat : Int) == 102) = false := by rw [beq_eq_false_iff_ne]; omega
  have e6 : ((s[0].toNat : Int) == 110) = false := by rw [beq_eq_false_iff_ne]; omega
  clear hd hb
  go_enter Try.func27, Try.ntmps27
  go_wp2
  go_ret
  exact ⟨rfl, rfl⟩
theorem zzkind_num (s : ByteArray) (w : World) (h0 : 0 < s.size) (hd : bt s 0 = 45 ∨ isD (bt s 0)) :
    Calls Try.prog 21 #[.string s] w fun e w' => e = .returned (.string ⟨#[97, 32, 110, 117, 109, 98, 101, 114]⟩) ∧ w' = w := by
  have HD : Hid (bt s 0 = 45 ∨ isD (bt s 0)) := hd
  clear hd
  go_enter Try.func21, Try.ntmps21
  go_wp2_with fail
  refine (kind_num s w h0 HD.out).mono ?_
  rintro e w' ⟨rfl, rfl⟩
  go_wp2
  go_ret
  exact ⟨rfl, rfl⟩

theorem Num_nonempty {s : ByteArray} {off t : Nat} (h : Num (bt s) off t) (ho : off ≤ s.size) : off < t ∧ t ≤ s.size :=
  ⟨h.lt, h.mem (fun k hk => bt_end s k hk) ho⟩

/-- The end of a law. -/
def LEnd (w : World) (e : Ending) (w' : World) : Prop := e = .returned (.bool true) ∧ Grown w w'
theorem lend {w w' : World} (hb : Grown w w') : LEnd w (.returned (.bool true)) w' := ⟨rfl, hb⟩

set_option maxHeartbeats 1000000 in
theorem law8 (s : ByteArray) (w : World) (h : s.size ≤ maxLen) : Calls Try.prog 8 #[.string s] w fun e w' => LEnd w e w' := by
  go_enter Try.func8, Try.ntmps8
  go_wp2_with fail
  refine (bytes20 s w h).mono ?_
  rintro e w' ⟨bb, rfl, hS, rfl⟩
  rename World => w
  cases bb with
  | false =>
    go_wp2
    go_ret
    exact lend (Grown.refl _)
  | true =>
  have hs := hS rfl
  clear hS h
  by_cases h0 : s.size = 0
  · have hd : ((s.size : Int) == 0) = true := by rw [beq_iff_eq]; omega
    clear h0
    go_wp2
    go_ret
    exact lend (Grown.refl _)
  have hd : ((s.size : Int) == 0) = false := by rw [beq_eq_false_iff_ne]; omega
  go_wp2_with fail
  refine (zz_any s 0 w (by omega) (by omega)).mono ?_
  rintro e w1 ⟨hg, ⟨t, rfl, hN⟩ | ⟨t, rfl, hN⟩⟩
  · have HN : Hid (Num (bt s) 0 t) := hN
    clear hN
    go_wp2_with fail
    refine (zzkind_num s w1 (by omega) HN.out.first).mono ?_
    rintro e w' ⟨rfl, rfl⟩
    go_wp2
    go_ret
    exact lend hg
  · clear hN
    go_wp2
    go_ret
    exact lend hg
end Go.Proofs.Qxb6000480a
