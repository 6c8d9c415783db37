/-
  The walks of the two bounds on total length, laid by program.
-/
import Derived.Test.Qxb6000793aBase
namespace Go.Proofs.Qxb6000793a
open Go.RowKit

/-- It answers; if yes, then S; nothing has turned. -/
def BEnd (S : Prop) (w : World) (e : Ending) (w' : World) : Prop := ∃ bb, e = .returned (.bool bb) ∧ (bb = true → S) ∧ w' = w
theorem bend_false {S : Prop} {w : World} : BEnd S w (.returned (.bool false)) w := ⟨false, rfl, fun e => (by cases e), rfl⟩
theorem bend_true {S : Prop} {w : World} (h : S) : BEnd S w (.returned (.bool true)) w := ⟨true, rfl, fun _ => h, rfl⟩

set_option maxHeartbeats 1000000 in
theorem bytes13 (a0 a1 a2 a3 : Option Addr) (n0 c0 n1 c1 n2 c2 n3 c3 : Nat) (i : Int) (w : World) (h0 : n0 ≤ maxLen) (h1 : n1 ≤ maxLen) (h2 : n2 ≤ maxLen) (h3 : n3 ≤ maxLen) :
    Calls Try.prog 13 #[.slice a0 n0 c0, .slice a1 n1 c1, .slice a2 n2 c2, .slice a3 n3 c3, .int .i64 i] w fun e w' => BEnd (n0 + n1 + n2 + n3 ≤ 1048576) w e w' := by
  unfold maxLen at h0 h1 h2 h3
  go_enter Try.func13, Try.ntmps13
  go_wp2
  all_goals (go_ret; first | exact bend_false | exact bend_true (by omega))

set_option maxHeartbeats 1000000 in
theorem bytes17 (a0 a1 a2 a3 a4 : Option Addr) (n0 c0 n1 c1 n2 c2 n3 c3 n4 c4 : Nat) (w : World) (h0 : n0 ≤ maxLen) (h1 : n1 ≤ maxLen) (h2 : n2 ≤ maxLen) (h3 : n3 ≤ maxLen) (h4 : n4 ≤ maxLen) :
    Calls Try.prog 17 #[.slice a0 n0 c0, .slice a1 n1 c1, .slice a2 n2 c2, .slice a3 n3 c3, .slice a4 n4 c4] w fun e w' => BEnd (n0 + n1 + n2 + n3 + n4 ≤ 1048576) w e w' := by
  unfold maxLen at h0 h1 h2 h3 h4
  go_enter Try.func17, Try.ntmps17
  go_wp2
  all_goals (go_ret; first | exact bend_false | exact bend_true (by omega))
end Go.Proofs.Qxb6000793a
