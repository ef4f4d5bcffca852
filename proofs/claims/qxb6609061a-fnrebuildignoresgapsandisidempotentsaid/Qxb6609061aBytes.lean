/-
  zzBytes of the two laws: a Boolean, and nothing turns.
-/
import Derived.Test.Qxb6609061aCount
namespace Go.Proofs.Qxb6609061a.Line
open Go.RowKit

set_option maxHeartbeats 1600000 in
set_option maxRecDepth 100000 in
theorem bytes3_any (a0 a1 a2 a3 a4 a5 : Option Addr) (n0 n1 n2 n3 n4 n5 c0 c1 c2 c3 c4 c5 : Nat) (w : World) :
    Calls Try.prog 6 #[.slice a0 n0 c0, .slice a1 n1 c1, .slice a2 n2 c2, .slice a3 n3 c3, .slice a4 n4 c4, .slice a5 n5 c5] w fun e w' => (e = .returned (.bool true) ∨ e = .returned (.bool false)) ∧ w' = w := by
  go_enter Try.func6, Try.ntmps6
  go_wp2
  all_goals (go_ret; first | exact ⟨.inl rfl, rfl⟩ | exact ⟨.inr rfl, rfl⟩)

set_option maxHeartbeats 1600000 in
set_option maxRecDepth 100000 in
theorem bytes4_any (a0 a1 a2 a3 a4 a5 : Option Addr) (n0 n1 n2 n3 n4 n5 c0 c1 c2 c3 c4 c5 : Nat) (w : World) :
    Calls Try.prog 14 #[.slice a0 n0 c0, .slice a1 n1 c1, .slice a2 n2 c2, .slice a3 n3 c3, .slice a4 n4 c4, .slice a5 n5 c5] w fun e w' => (e = .returned (.bool true) ∨ e = .returned (.bool false)) ∧ w' = w := by
  go_enter Try.func14, Try.ntmps14
  go_wp2
  all_goals (go_ret; first | exact ⟨.inl rfl, rfl⟩ | exact ⟨.inr rfl, rfl⟩)

end Go.Proofs.Qxb6609061a.Line
