import Derived.Test.Qxb6608960aRows
import Derived.WalkKit
import Derived.WalkSpells
import Derived.WalkLawsBesides
import Derived.Deep.QuietTactic
import Derived.BigQuiet
namespace Go.Proofs.Qxb6608960a.fnHoldsEmployerAmountMirrorsEmployeePays
open Go.RowKit

def inM (x : Int) : Bool := decide (-1152921504606846976 ≤ x ∧ x ≤ 1152921504606846976)

set_option maxHeartbeats 400000 in
theorem inMoney_yes (x : Int) (h1 : -1152921504606846976 ≤ x) (h2 : x ≤ 1152921504606846976) (w : World) :
    Calls Try.prog 8 #[.int .i64 x] w fun e w' => e = .returned (.bool true) ∧ w' = w := by
  go_enter Try.func8, Try.ntmps8
  go_wp2
  go_ret
  exact ⟨rfl, rfl⟩

set_option maxHeartbeats 400000 in
theorem inMoney_no (x : Int) (h : ¬ (-1152921504606846976 ≤ x ∧ x ≤ 1152921504606846976)) (w : World) :
    Calls Try.prog 8 #[.int .i64 x] w fun e w' => e = .returned (.bool false) ∧ w' = w := by
  by_cases h1 : -1152921504606846976 ≤ x
  · have h2 : ¬ x ≤ 1152921504606846976 := fun h2 => h ⟨h1, h2⟩
    clear h
    go_enter Try.func8, Try.ntmps8
    go_wp2
    go_ret
    exact ⟨rfl, rfl⟩
  · clear h
    go_enter Try.func8, Try.ntmps8
    go_wp2
    go_ret
    exact ⟨rfl, rfl⟩

set_option maxHeartbeats 400000 in
theorem test_zero (w : World) :
    Calls Try.prog 29 #[.int .i64 0] w fun e w' => e = .returned (.int .i64 2) ∧ w' = w := by
  go_enter Try.func29, Try.ntmps29
  go_wp2
  go_ret
  exact ⟨rfl, rfl⟩

set_option maxHeartbeats 400000 in
theorem test_two (w : World) :
    Calls Try.prog 29 #[.int .i64 2] w fun e w' => e = .returned (.int .i64 4) ∧ w' = w := by
  go_enter Try.func29, Try.ntmps29
  go_wp2
  go_ret
  exact ⟨rfl, rfl⟩

set_option maxHeartbeats 400000 in
theorem meets_amount (c r : Int) (h1 : -4611686018427387904 ≤ c) (h2 : c ≤ 4611686018427387903) (w : World) :
    Calls Try.prog 28 #[.int .i64 2, .int .i64 c, .int .i64 r] w fun e w' => e = .returned (.bool (decide (r ≤ 2 * c))) ∧ w' = w := by
  go_enter Try.func28, Try.ntmps28
  go_wp2
  go_ret
  exact ⟨rfl, rfl⟩

set_option maxHeartbeats 400000 in
theorem meets_pays (c r : Int) (h1 : -4611686018427387904 ≤ c) (h2 : c ≤ 4611686018427387903) (w : World) :
    Calls Try.prog 28 #[.int .i64 4, .int .i64 c, .int .i64 r] w fun e w' => e = .returned (.bool (decide (2 * c ≤ r))) ∧ w' = w := by
  go_enter Try.func28, Try.ntmps28
  go_wp2
  go_ret
  exact ⟨rfl, rfl⟩

theorem grown_trans {a b c : World} (h : Grown a b) (k : Grown b c) : Grown a c :=
  ⟨World.keptBut_trans h.1 k.1, fun x => (k.2.1 x).trans (h.2.1 x), Nat.le_trans h.2.2 k.2.2⟩

theorem grown_drewN {a b : World} (h : Grown a b) (n : Nat) : Grown a (b.drewN n) := h

set_option maxHeartbeats 400000 in
theorem holds_amount (c r : Int) (h1 : -4611686018427387904 ≤ c) (h2 : c ≤ 4611686018427387903) (w : World) :
    Calls Try.prog 22 #[.agg #[.int .i64 0, .int .i64 c], .int .i64 r] w fun e w' => e = .returned (.bool (decide (r ≤ 2 * c))) ∧ Grown w w' := by
  go_enter Try.func22, Try.ntmps22
  go_wp2
  go_quiet (first | (go_at_call 29; exact Calls.quiet_of_same (test_zero _)) | (go_at_call 28; exact Calls.quiet_of_same (meets_amount c r h1 h2 _)))
  go_wp2
  go_ret
  exact ⟨rfl, grown_drewN ((Grown.refl _).alloc _ _) _⟩

set_option maxHeartbeats 400000 in
theorem holds_pays (c r : Int) (h1 : -4611686018427387904 ≤ c) (h2 : c ≤ 4611686018427387903) (w : World) :
    Calls Try.prog 22 #[.agg #[.int .i64 2, .int .i64 c], .int .i64 r] w fun e w' => e = .returned (.bool (decide (2 * c ≤ r))) ∧ Grown w w' := by
  go_enter Try.func22, Try.ntmps22
  go_wp2
  go_quiet (first | (go_at_call 29; exact Calls.quiet_of_same (test_two _)) | (go_at_call 28; exact Calls.quiet_of_same (meets_pays c r h1 h2 _)))
  go_wp2
  go_ret
  exact ⟨rfl, grown_drewN ((Grown.refl _).alloc _ _) _⟩

set_option maxHeartbeats 400000 in
theorem zzholds_amount (c r : Int) (h1 : -4611686018427387904 ≤ c) (h2 : c ≤ 4611686018427387903) (w : World) :
    Calls Try.prog 9 #[.agg #[.int .i64 0, .int .i64 c], .int .i64 r] w fun e w' => e = .returned (.bool (decide (r ≤ 2 * c))) ∧ Grown w w' := by
  go_enter Try.func9, Try.ntmps9
  go_wp2_with fail
  refine (holds_amount c r h1 h2 _).mono ?_
  rintro e w' ⟨rfl, hg⟩
  go_wp2
  go_ret
  exact ⟨rfl, grown_trans ((Grown.refl _).alloc _ _) hg⟩

set_option maxHeartbeats 400000 in
theorem zzholds_pays (c r : Int) (h1 : -4611686018427387904 ≤ c) (h2 : c ≤ 4611686018427387903) (w : World) :
    Calls Try.prog 9 #[.agg #[.int .i64 2, .int .i64 c], .int .i64 r] w fun e w' => e = .returned (.bool (decide (2 * c ≤ r))) ∧ Grown w w' := by
  go_enter Try.func9, Try.ntmps9
  go_wp2_with fail
  refine (holds_pays c r h1 h2 _).mono ?_
  rintro e w' ⟨rfl, hg⟩
  go_wp2
  go_ret
  exact ⟨rfl, grown_trans ((Grown.refl _).alloc _ _) hg⟩

theorem ret_bool {a : Bool} (h : a = true) : Ending.returned (.bool a) = .returned (.bool true) := by rw [h]

set_option maxHeartbeats 800000 in
theorem law_in (v r : Int) (hv1 : -1152921504606846976 ≤ v) (hv2 : v ≤ 1152921504606846976) (hr1 : -1152921504606846976 ≤ r) (hr2 : r ≤ 1152921504606846976) (w : World) :
    Calls Try.prog 3 #[.int .i64 v, .int .i64 r] w fun e w' => e = .returned (.bool true) ∧ Grown w w' := by
  by_cases hd : r ≤ 2 * v
  all_goals
    go_enter Try.func3, Try.ntmps3
    go_wp2_with fail
    refine (inMoney_yes v hv1 hv2 _).mono ?_
    rintro e w1 ⟨rfl, hw1⟩
    rw [hw1]
    clear hw1
    go_wp2_with fail
    refine (inMoney_yes r hr1 hr2 _).mono ?_
    rintro e w2 ⟨rfl, hw2⟩
    rw [hw2]
    clear hw2
    go_wp2_with fail
    refine (zzholds_amount v r (by omega) (by omega) _).mono ?_
    rintro e w3 ⟨rfl, hg3⟩
    go_wp2_with fail
    refine (zzholds_pays (r - v) r (by omega) (by omega) _).mono ?_
    rintro e w4 ⟨rfl, hg4⟩
    have hg := grown_trans hg3 hg4
    go_wp2
    go_ret
    refine ⟨ret_bool ?_, hg⟩
    first
      | exact decide_eq_true (by omega)
      | (rw [beq_iff_eq, decide_eq_decide]; omega)

set_option maxHeartbeats 800000 in
theorem law_v (v r : Int) (hv : ¬ (-1152921504606846976 ≤ v ∧ v ≤ 1152921504606846976)) (w : World) :
    Calls Try.prog 3 #[.int .i64 v, .int .i64 r] w fun e w' => e = .returned (.bool true) ∧ Grown w w' := by
  go_enter Try.func3, Try.ntmps3
  go_wp2_with fail
  refine (inMoney_no v hv _).mono ?_
  rintro e w1 ⟨rfl, hw1⟩
  rw [hw1]
  clear hw1 hv
  go_wp2
  go_ret
  exact ⟨rfl, Grown.refl _⟩

set_option maxHeartbeats 800000 in
theorem law_r (v r : Int) (hv1 : -1152921504606846976 ≤ v) (hv2 : v ≤ 1152921504606846976) (hr : ¬ (-1152921504606846976 ≤ r ∧ r ≤ 1152921504606846976)) (w : World) :
    Calls Try.prog 3 #[.int .i64 v, .int .i64 r] w fun e w' => e = .returned (.bool true) ∧ Grown w w' := by
  go_enter Try.func3, Try.ntmps3
  go_wp2_with fail
  refine (inMoney_yes v hv1 hv2 _).mono ?_
  rintro e w1 ⟨rfl, hw1⟩
  rw [hw1]
  clear hw1
  go_wp2_with fail
  refine (inMoney_no r hr _).mono ?_
  rintro e w2 ⟨rfl, hw2⟩
  rw [hw2]
  clear hw2 hr
  go_wp2
  go_ret
  exact ⟨rfl, Grown.refl _⟩

theorem walk (a0 : Int) (a1 : Int) (w : World) :
    Calls Try.prog 3 #[.int .i64 a0, .int .i64 a1] w fun e w' => e = .returned (.bool true) ∧ Grown w w' := by
  by_cases hv : -1152921504606846976 ≤ a0 ∧ a0 ≤ 1152921504606846976
  · by_cases hr : -1152921504606846976 ≤ a1 ∧ a1 ≤ 1152921504606846976
    · exact law_in a0 a1 hv.1 hv.2 hr.1 hr.2 w
    · exact law_r a0 a1 hv.1 hv.2 hr w
  · exact law_v a0 a1 hv w
end Go.Proofs.Qxb6608960a.fnHoldsEmployerAmountMirrorsEmployeePays
