import Derived.Test.Qxb6608960aLaw6
import Derived.Test.Qxb6608960aOpen
import Derived.Test.Qxb6608960aRows
import Derived.WalkKit
import Derived.ProofKit
import Derived.OpenShut
import Derived.ShutString
import Derived.ChangeOld
import Derived.Below
namespace Go.Proofs.Qxb6608960a.Plans
open Go.ChangeShapes Go.WideShapes Go.ChangeAt Go.RowKit

set_option maxHeartbeats 400000 in
theorem law6_big (b off n cap : Nat) (D : Nat → PlanD) (cut : Int) (hn : n ≤ 9223372036854775807) (hbig : ¬ n ≤ 4096) (w : World) (hD : Row10 w b off n D) :
    Calls Try.prog 6 #[.slice (some ⟨b, off, none⟩) n cap, .int .i64 cut] w fun e w' => e = .returned (.bool true) ∧ Below w.heap.size w w' := by
  go_enter Try.func6, Try.ntmps6
  go_wp2_with fail
  refine (bytes16_some b off n cap D cut w hn hD).mono ?_
  rintro e w1 ⟨h | ⟨h, hsz⟩, hw⟩
  · rw [h, hw]
    clear h hw hD
    go_wp2
    go_ret
    exact ⟨rfl, Below.refl _ _⟩
  · rw [h, hw]
    clear h hw hD hsz
    go_wp2
    go_ret
    exact ⟨rfl, Below.refl _ _⟩

theorem law6_any (ad : Option Addr) (n cap : Nat) (D : Nat → PlanD) (cut : Int) (hn : n ≤ 9223372036854775807) (hnil : ad = none → n = 0 ∧ cap = 0) (w : World) (hD : PlansIn w ad n D) :
    Calls Try.prog 6 #[.slice ad n cap, .int .i64 cut] w fun e w' => e = .returned (.bool true) ∧ Below w.heap.size w w' := by
  by_cases h0 : n = 0
  · subst h0
    by_cases hc : cut < 0 ∨ ((0 : Nat) : Int) < cut
    · cases ad with
      | none =>
        obtain ⟨_, rfl⟩ := hnil rfl
        exact law6_none_out D cut hc w
      | some a => exact law6_zero_out a cap D cut hc w
    · obtain rfl : cut = 0 := by omega
      cases ad with
      | none =>
        obtain ⟨_, rfl⟩ := hnil rfl
        exact law6_none_eq D w
      | some a => exact law6_zero_eq a cap D w
  · rcases hD with hD | ⟨b, off, rfl, hD⟩
    · exact absurd hD h0
    · by_cases hbig : n ≤ 4096
      · by_cases hc : cut < 0 ∨ (n : Int) < cut
        · exact law6_some_out b off n cap D hbig cut hc w hD
        · obtain ⟨c, rfl⟩ := Int.eq_ofNat_of_zero_le (show 0 ≤ cut by omega)
          by_cases hlt : c < n
          · exact law6_some_lt b off n cap D hbig c hlt w hD
          · obtain rfl : c = n := by omega
            exact law6_some_eq b off c cap D hbig w hD
      · exact law6_big b off n cap D cut hn hbig w hD

end Go.Proofs.Qxb6608960a.Plans

namespace Go.Proofs.Qxb6608960a.fnReferencePlanIsFirstMarkedAtAnyCut
open Go.ChangeShapes Go.WideShapes Go.ChangeAt Go.RowKit
open Go.ChangeMaps (open_string shut_string)
set_option linter.unusedVariables false

theorem own : ownKnob Try.prog.godebug = none := by kernel_rfl
theorem laidOut : laidOutB Try.prog = true := by kernel_rfl

set_option maxRecDepth 100000 in
theorem lifted (os : Os) (started : os.Started) (H : Type) (enc : TypeId × Value → H) :
    ReturnsInHanded {} Try.checked os 6 .any (Rows.fnReferencePlanIsFirstMarkedAtAnyCutSpec.pre6 enc Try.prog Try.f6 Rows.fnReferencePlanIsFirstMarkedAtAnyCutRow.domain false) (Rows.fnReferencePlanIsFirstMarkedAtAnyCutSpec.post enc Try.prog Try.f6 false true false false) := by
  refine returnsInHanded_of_change (C := Try.checked) own started (by kernel_rfl) Try.func6
    (ChangeSpec.witness6 (enc := enc) (C := Try.checked) false ⟨#[], #[.slice none 0 0, .int .i64 0], []⟩ 8 (by kernel_rfl) (by kernel_rfl) (by kernel_rfl) (by kernel_rfl)) ?_
  intro W base args ds gs before hval0 hW hcnd _
  have hval : ∀ (j : Nat) t v, Try.f6.params[j]? = some t → args[j]? = some v → Value.okWide Try.prog W .any base t v := hval0
  have hW' := hW
  obtain ⟨p, q, hA0, hV, rfl, hfz, hnd⟩ := hW
  have hA : DataW.TrodAll enc Try.prog W 0 (fun _ => true) true Try.f6.params.toList args.toList ds p := hA0
  rw [Try.params6] at hA hval
  obtain ⟨v0, vs0, d0, ds0, p0, q0, hargs, rfl, rfl, h0, r0⟩ := trodAll_cons hA
  obtain ⟨v1, vs1, d1, ds1, p1, q1, rfl, rfl, rfl, h1, r1⟩ := trodAll_cons r0
  obtain ⟨rfl, rfl, rfl⟩ := trodAll_nil r1
  obtain rfl : args = #[v0, v1] := by cases args; simp_all
  obtain ⟨rfl, rfl⟩ := trodVars_none hV
  obtain ⟨a0, len0, cap0, rfl⟩ := okWide_slice Try.underlying39 (hval 0 39 v0 rfl rfl)
  have k0 := h0
  have lt0 : ∀ x ∈ p0, x.block < W.heap.size := by obtain ⟨m, hm⟩ := k0; exact DataW.trod_lt m _ _ _ hm
  obtain ⟨hnil, hlen, D, hD⟩ := Plans.open_plans h0
  have k1 := h1
  have lt1 : ∀ x ∈ p1, x.block < W.heap.size := by obtain ⟨m, hm⟩ := k1; exact DataW.trod_lt m _ _ _ hm
  obtain ⟨a1, rfl, rfl, rfl, w1⟩ := open_int Try.underlying3 (hval 1 3 v1 rfl rfl) h1
  clear hA0 hval0
  refine (Plans.law6_any a0 len0 cap0 D a1 hlen hnil W hD).mono fun e W' ⟨he, bel⟩ => ?_
  subst he
  exact ⟨_, rfl, _, _, _, [], _, [], hW', trodAll_mk1 (shut_bool Try.underlying4 _), (trodAll_cons_mk (Below.trod laidOut (by kernel_rfl) (of_decide_eq_true (by kernel_rfl)) k0 bel lt0) (trodAll_cons_mk (shut_int Try.underlying3 w1) trodAll_mk0)), rfl, bel.frame _, fun h => by cases h⟩

theorem over : Rows.fnReferencePlanIsFirstMarkedAtAnyCutRow.holds Try.pinned (OpenSpec.ofChange Rows.fnReferencePlanIsFirstMarkedAtAnyCutSpec) :=
  OpenClaim.holds_of_wide 6 Try.f6 rfl rfl rfl rfl rfl rfl rfl ⟨rfl, rfl, rfl, rfl, rfl⟩ rfl rfl rfl rfl rfl (by kernel_rfl) Try.func6 (by kernel_rfl)
    (of_decide_eq_true (by kernel_rfl)) (by unfold Func.isWrapper; first | (rw [if_pos (by decide +kernel)]; kernel_rfl) | (rw [if_neg (by decide +kernel)]; exact ⟨rfl, rfl⟩))
    (fun os started H enc _ => lifted os started H enc)

theorem proved : Rows.FnReferencePlanIsFirstMarkedAtAnyCutSaid := over
#print axioms proved
end Go.Proofs.Qxb6608960a.fnReferencePlanIsFirstMarkedAtAnyCut
