import Derived.Test.Qxb6608960aPlans
namespace Go.Proofs.Qxb6608960a.Plans
open Go.RowKit

theorem clone_step {W wr : World} {B n k : Nat} {D : Nat → PlanD} (hk : k < n) (hth : wr.there B 0 (n * 10)) (hr : ∀ j, j < k → wr.rangeAt B (j * 10) (D j).cs) (hB : B = W.heap.size) (hb : Below W.heap.size W wr) :
    (wr.setCells B (k * 10) (D k).cs).there B 0 (n * 10) ∧ (∀ j, j < k + 1 → (wr.setCells B (k * 10) (D k).cs).rangeAt B (j * 10) (D j).cs) ∧ Below W.heap.size W (wr.setCells B (k * 10) (D k).cs) := by
  refine ⟨World.there_setCells hth _ _ _, fun j hj => ?_, below_setCells (by omega) _ _ _ hb⟩
  by_cases e : j = k
  · subst e
    exact World.rangeAt_setCells_same _ _ _ _ (there_sub hth (by omega) (by rw [PlanD.len]; omega))
  · exact World.rangeAt_setCells_apart (hr j (by omega)) _ _ _ (.inr (.inl (by rw [PlanD.len]; omega)))

set_option maxHeartbeats 400000 in
theorem clone_some (b off n cap : Nat) (D : Nat → PlanD) (w : World) (hn : n ≤ 4096) (hD : Row10 w b off n D) :
    Calls Try.prog 17 #[.slice (some ⟨b, off, none⟩) n cap] w fun e w' => e = .returned (.slice (some ⟨w.heap.size, 0, none⟩) n n) ∧ Row10 w' w.heap.size 0 n D ∧ Below w.heap.size w w' := by
  obtain ⟨M, hM, hmk⟩ := make_row Try.underlying39 info43x n (by omega) (by omega)
  have HM : Hid (M.size = n * 10) := hM
  clear hM
  have hne := fun w => Lib.run_eql_slice_nil (P := Try.prog) w
  go_enter Try.func17, Try.ntmps17
  go_wp2
  go_loopw [4] (fun i wr => ∃ k : Nat, k ≤ n ∧ i = .int .i64 k ∧ wr.there w.heap.size 0 (n * 10) ∧ (∀ j, j < k → wr.rangeAt w.heap.size (j * 10) (D j).cs) ∧ Below w.heap.size w wr) (fun i _ => n - (intOf i).toNat)
  case atStart => exact ⟨0, Nat.zero_le _, rfl, there_block (heap_new _ _) 0 (n * 10) (by rw [HM.out]; omega), fun j hj => absurd hj (Nat.not_lt_zero _), (Below.refl _ _).alloc (Nat.le_refl _) _⟩
  case round =>
    obtain ⟨k, hk, rfl, hth, hr, hb⟩ := hrel
    by_cases hlt : k < n
    · have R := clone_step hlt hth hr rfl hb
      have hD' := hD k hlt
      have hl := range_below hb (range_lt hD' (by rw [PlanD.len]; decide)) hD'
      have hs : wr.there w.heap.size (k * 10) 10 := there_sub hth (by omega) (by omega)
      have HR : Hid _ := R
      clear hth hr hb hD' R hne
      go_wp2_with (first
        | (refine load43 rfl (.tmp 20) rfl b (off + k * 10) (D k) ?hx ?hc ?_; (case hx => (simp [Act.eval]; done)); (case hc => exact hl))
        | (refine store43 rfl (.tmp 22) (.tmp 21) rfl w.heap.size (k * 10) (D k) ?hx2 ?hy2 ?hs2 ?_; (case hx2 => (simp [Act.eval]; done)); (case hy2 => (simp [Act.eval]; done)); (case hs2 => exact hs)))
      go_roundw
      case rel => exact ⟨k + 1, by omega, by go_num, HR.out⟩
      case measure => simp [intOf]; omega
    · clear hne
      go_wp2
      go_ret
      refine ⟨rfl, fun j hj => ?_, hb⟩
      rw [Nat.zero_add]
      exact hr j (by omega)

set_option maxHeartbeats 400000 in
theorem clone_zero (a : Addr) (cap : Nat) (w : World) :
    Calls Try.prog 17 #[.slice (some a) 0 cap] w fun e w' => e = .returned (.slice (some ⟨w.heap.size, 0, none⟩) 0 0) ∧ Below w.heap.size w w' := by
  obtain ⟨M, _, hmk0⟩ := make_row Try.underlying39 info43x 0 (by omega) (by omega)
  have hmk : ∀ w : World, (Instr.makeSlice 39 (.int .i64 0) (.int .i64 0)).run Try.prog w = .ok (.slice (some ⟨w.heap.size, 0, none⟩) 0 0) (w.alloc (.cells M 43)) := hmk0
  clear hmk0
  have hne := fun w => Lib.run_eql_slice_nil (P := Try.prog) w
  go_enter Try.func17, Try.ntmps17
  go_wp2
  go_loopw [4] (fun i wr => i = .int .i64 0 ∧ Below w.heap.size w wr) (fun i _ => (intOf i).toNat)
  case atStart => exact ⟨rfl, (Below.refl _ _).alloc (Nat.le_refl _) _⟩
  case round =>
    obtain ⟨rfl, hb⟩ := hrel
    clear hne
    go_wp2
    go_ret
    exact ⟨rfl, hb⟩

set_option maxHeartbeats 400000 in
theorem clone_nil (w : World) :
    Calls Try.prog 17 #[.slice none 0 0] w fun e w' => e = .returned (.slice none 0 0) ∧ Below w.heap.size w w' := by
  have hne := fun w => Lib.run_eql_slice_nil (P := Try.prog) w
  go_enter Try.func17, Try.ntmps17
  go_wp2
  go_ret
  exact ⟨rfl, Below.refl _ _⟩

/-- What is told of a slice of n plans: no element; or they lie at its address. -/
def PlansIn (w : World) (ad : Option Addr) (n : Nat) (D : Nat → PlanD) : Prop := n = 0 ∨ ∃ b off, ad = some ⟨b, off, none⟩ ∧ Row10 w b off n D

theorem clone_any (ad : Option Addr) (n cap : Nat) (D : Nat → PlanD) (w : World) (hn : n ≤ 4096) (hnil : ad = none → cap = 0) (hD : PlansIn w ad n D) :
    Calls Try.prog 17 #[.slice ad n cap] w fun e w' => ∃ ad' cap', e = .returned (.slice ad' n cap') ∧ PlansIn w' ad' n D ∧ n ≤ cap' ∧ cap' ≤ n ∧ Below w.heap.size w w' := by
  by_cases h0 : n = 0
  · subst h0
    cases ad with
    | none =>
      obtain rfl := hnil rfl
      refine (clone_nil w).mono ?_
      rintro e w' ⟨rfl, hb⟩
      exact ⟨_, _, rfl, .inl rfl, Nat.le_refl _, Nat.le_refl _, hb⟩
    | some a =>
      refine (clone_zero a cap w).mono ?_
      rintro e w' ⟨rfl, hb⟩
      exact ⟨_, _, rfl, .inl rfl, Nat.le_refl _, Nat.le_refl _, hb⟩
  · rcases hD with hD | ⟨b, off, rfl, hD⟩
    · exact absurd hD h0
    · refine (clone_some b off n cap D w hn hD).mono ?_
      rintro e w' ⟨rfl, hr, hb⟩
      exact ⟨_, _, rfl, .inr ⟨_, _, rfl, hr⟩, Nat.le_refl _, Nat.le_refl _, hb⟩

theorem id_cell {w : World} {b o : Nat} {p : PlanD} (h : w.rangeAt b o p.cs) : w.cell? ⟨b, o, none⟩ = some (.string p.id) := by simpa using h 0 _ rfl
theorem has_cell {w : World} {b o : Nat} {p : PlanD} (h : w.rangeAt b o p.cs) : w.cell? ⟨b, o + 7, none⟩ = some (.bool p.has) := h 7 _ rfl

end Go.Proofs.Qxb6608960a.Plans
