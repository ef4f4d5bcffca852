import Derived.Test.Qxb6608960aLaw7
import Derived.Test.Qxb6608960aOpen
import Derived.Test.Qxb6608960aRows
import Derived.WalkKit
import Derived.ProofKit
import Derived.OpenShut
import Derived.ShutString
import Derived.ChangeOld
import Derived.Below
namespace Go.Proofs.Qxb6608960a.Plans
open Go.ChangeShapes Go.WideShapes Go.ChangeAt Go.RowKit

set_option maxHeartbeats 400000 in
theorem law7_big (b off n cap : Nat) (D : Nat → PlanD) (hn : n ≤ 9223372036854775807) (hbig : ¬ n ≤ 4096) (w : World) (hD : Row10 w b off n D) :
    Calls Try.prog 7 #[.slice (some ⟨b, off, none⟩) n cap] w fun e w' => e = .returned (.bool true) ∧ Below w.heap.size w w' := by
  go_enter Try.func7, Try.ntmps7
  go_wp2_with fail
  refine (bytes21_some b off n cap D w hn hD).mono ?_
  rintro e w1 ⟨h | ⟨h, hsz⟩, hw⟩
  · rw [h, hw]
    clear h hw hD
    go_wp2
    go_ret
    exact ⟨rfl, Below.refl _ _⟩
  · rw [h, hw]
    clear h hw hD hsz
    go_wp2
    go_ret
    exact ⟨rfl, Below.refl _ _⟩

theorem law7_any (ad : Option Addr) (n cap : Nat) (D : Nat → PlanD) (hn : n ≤ 9223372036854775807) (hnil : ad = none → n = 0 ∧ cap = 0) (w : World) (hD : PlansIn w ad n D) :
    Calls Try.prog 7 #[.slice ad n cap] w fun e w' => e = .returned (.bool true) ∧ Below w.heap.size w w' := by
  by_cases h0 : n = 0
  · subst h0
    cases ad with
    | none =>
      obtain ⟨_, rfl⟩ := hnil rfl
      exact law7_none w
    | some a => exact law7_zero a cap w
  · rcases hD with hD | ⟨b, off, rfl, hD⟩
    · exact absurd hD h0
    · by_cases hbig : n ≤ 4096
      · exact law7_some b off n cap D hbig (by omega) w hD
      · exact law7_big b off n cap D hn hbig w hD

end Go.Proofs.Qxb6608960a.Plans

namespace Go.Proofs.Qxb6608960a.fnReferencePlanWalksMarkedPlansWhenCleared
open Go.ChangeShapes Go.WideShapes Go.ChangeAt Go.RowKit
open Go.ChangeMaps (open_string shut_string)
set_option linter.unusedVariables false

theorem own : ownKnob Try.prog.godebug = none := by kernel_rfl
theorem laidOut : laidOutB Try.prog = true := by kernel_rfl

set_option maxRecDepth 100000 in
theorem lifted (os : Os) (started : os.Started) (H : Type) (enc : TypeId × Value → H) :
    ReturnsInHanded {} Try.checked os 7 .any (Rows.fnReferencePlanWalksMarkedPlansWhenClearedSpec.pre6 enc Try.prog Try.f7 Rows.fnReferencePlanWalksMarkedPlansWhenClearedRow.domain false) (Rows.fnReferencePlanWalksMarkedPlansWhenClearedSpec.post enc Try.prog Try.f7 false true false false) := by
  refine returnsInHanded_of_change (C := Try.checked) own started (by kernel_rfl) Try.func7
    (ChangeSpec.witness6 (enc := enc) (C := Try.checked) false ⟨#[], #[.slice none 0 0], []⟩ 8 (by kernel_rfl) (by kernel_rfl) (by kernel_rfl) (by kernel_rfl)) ?_
  intro W base args ds gs before hval0 hW hcnd _
  have hval : ∀ (j : Nat) t v, Try.f7.params[j]? = some t → args[j]? = some v → Value.okWide Try.prog W .any base t v := hval0
  have hW' := hW
  obtain ⟨p, q, hA0, hV, rfl, hfz, hnd⟩ := hW
  have hA : DataW.TrodAll enc Try.prog W 0 (fun _ => true) true Try.f7.params.toList args.toList ds p := hA0
  rw [Try.params7] at hA hval
  obtain ⟨v0, vs0, d0, ds0, p0, q0, hargs, rfl, rfl, h0, r0⟩ := trodAll_cons hA
  obtain ⟨rfl, rfl, rfl⟩ := trodAll_nil r0
  obtain rfl : args = #[v0] := by cases args; simp_all
  obtain ⟨rfl, rfl⟩ := trodVars_none hV
  obtain ⟨a0, len0, cap0, rfl⟩ := okWide_slice Try.underlying39 (hval 0 39 v0 rfl rfl)
  have k0 := h0
  have lt0 : ∀ x ∈ p0, x.block < W.heap.size := by obtain ⟨m, hm⟩ := k0; exact DataW.trod_lt m _ _ _ hm
  obtain ⟨hnil, hlen, D, hD⟩ := Plans.open_plans h0
  clear hA0 hval0
  refine (Plans.law7_any a0 len0 cap0 D hlen hnil W hD).mono fun e W' ⟨he, bel⟩ => ?_
  subst he
  exact ⟨_, rfl, _, _, _, [], _, [], hW', trodAll_mk1 (shut_bool Try.underlying4 _), (trodAll_cons_mk (Below.trod laidOut (by kernel_rfl) (of_decide_eq_true (by kernel_rfl)) k0 bel lt0) trodAll_mk0), rfl, bel.frame _, fun h => by cases h⟩

theorem over : Rows.fnReferencePlanWalksMarkedPlansWhenClearedRow.holds Try.pinned (OpenSpec.ofChange Rows.fnReferencePlanWalksMarkedPlansWhenClearedSpec) :=
  OpenClaim.holds_of_wide 7 Try.f7 rfl rfl rfl rfl rfl rfl rfl ⟨rfl, rfl, rfl, rfl, rfl⟩ rfl rfl rfl rfl rfl (by kernel_rfl) Try.func7 (by kernel_rfl)
    (of_decide_eq_true (by kernel_rfl)) (by unfold Func.isWrapper; first | (rw [if_pos (by decide +kernel)]; kernel_rfl) | (rw [if_neg (by decide +kernel)]; exact ⟨rfl, rfl⟩))
    (fun os started H enc _ => lifted os started H enc)

theorem proved : Rows.FnReferencePlanWalksMarkedPlansWhenClearedSaid := over
#print axioms proved
end Go.Proofs.Qxb6608960a.fnReferencePlanWalksMarkedPlansWhenCleared
