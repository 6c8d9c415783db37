/-
  The empty word: step1 finds no ending and turns nothing.
-/
import Derived.Test.Qxb6000751aCut
namespace Go.Proofs.Qxb6000751a
open Go.RowKit

theorem cut_short (sb cap : Nat) (a : Option Addr) (str : ByteArray) (w : World) (fld : w.cell? ⟨sb, 0, none⟩ = some (.slice a 0 cap)) (hz : str.size ≤ 4096) :
    Calls Try.prog 40 #[.pointer (some ⟨sb, 0, none⟩), .string str] w fun e w' => e = .returned (.bool false) ∧ w' = w := by
  go_enter Try.func40, Try.ntmps40
  go_wp2_with fail
  refine (ends_short sb 0 cap a str w fld (by omega) hz (Nat.zero_le _)).mono ?_
  rintro e w' ⟨rfl, rfl⟩
  go_wp2
  go_ret
  exact ⟨rfl, rfl⟩

set_option maxHeartbeats 2000000 in
set_option maxRecDepth 1000000 in
theorem step1_empty (sb cap : Nat) (a : Option Addr) (w : World) (fld : w.cell? ⟨sb, 0, none⟩ = some (.slice a 0 cap)) :
    Calls Try.prog 34 #[.pointer (some ⟨sb, 0, none⟩)] w fun e w' => e = .returned (.tuple #[]) ∧ w' = w := by
  go_enter Try.func34, Try.ntmps34
  go_wp2_with fail
  refine (ends_short sb 0 cap a ⟨#[115, 115, 101, 115]⟩ w fld (by omega) (by decide) (Nat.zero_le _)).mono ?_
  rintro e w' ⟨rfl, rfl⟩
  rename World => w
  go_wp2_with fail
  refine (ends_short sb 0 cap a ⟨#[105, 101, 115]⟩ w fld (by omega) (by decide) (Nat.zero_le _)).mono ?_
  rintro e w' ⟨rfl, rfl⟩
  rename World => w
  go_wp2_with fail
  refine (ends_short sb 0 cap a ⟨#[115, 115]⟩ w fld (by omega) (by decide) (Nat.zero_le _)).mono ?_
  rintro e w' ⟨rfl, rfl⟩
  rename World => w
  go_wp2_with fail
  refine (ends_short sb 0 cap a ⟨#[115]⟩ w fld (by omega) (by decide) (Nat.zero_le _)).mono ?_
  rintro e w' ⟨rfl, rfl⟩
  rename World => w
  go_wp2_with fail
  refine (ends_short sb 0 cap a ⟨#[101, 101, 100]⟩ w fld (by omega) (by decide) (Nat.zero_le _)).mono ?_
  rintro e w' ⟨rfl, rfl⟩
  rename World => w
  go_wp2_with fail
  refine (cut_short sb cap a ⟨#[101, 100]⟩ w fld (by decide)).mono ?_
  rintro e w' ⟨rfl, rfl⟩
  rename World => w
  go_wp2_with fail
  refine (cut_short sb cap a ⟨#[105, 110, 103]⟩ w fld (by decide)).mono ?_
  rintro e w' ⟨rfl, rfl⟩
  rename World => w
  go_wp2_with fail
  refine (ends_short sb 0 cap a ⟨#[121]⟩ w fld (by omega) (by decide) (Nat.zero_le _)).mono ?_
  rintro e w' ⟨rfl, rfl⟩
  go_wp2
  go_end0
  exact ⟨rfl, rfl⟩
end Go.Proofs.Qxb6000751a
