/-
  zzPagesLaid: m tasks lie in pgs m pages, all full but the last.
-/
import Derived.Test.Qxb6609061aLine
namespace Go.Proofs.Qxb6609061a.Line
open Go.RowKit

set_option maxHeartbeats 1000000 in
set_option maxRecDepth 100000 in
theorem pages_any (m : Nat) (hm : m ≤ 65536) (a : Option Addr) (c : Nat) (w : World) (A : pgs m = 0 ∨ ∃ b, a = some ⟨b, 0, none⟩ ∧ ∀ j, j < pgs m → w.cell? ⟨b, j, none⟩ = some (.int .i64 ((min 1024 (m - 1024 * j) : Nat) : Int))) :
    Calls Try.prog 12 #[.slice a (pgs m) c, .int .i64 m] w fun e w' => e = .returned (.bool true) ∧ w' = w := by
  have hq : Int.tdiv ((m : Int) + 1024 - 1) 1024 = (pgs m : Int) := by
    rw [Int.tdiv_eq_ediv_of_nonneg (by omega)]
    unfold pgs
    omega
  have hp : pgs m ≤ 64 := by unfold pgs; omega
  have hp2 : ∀ k, k + 1 = pgs m → (m : Int) - (pgs m - 1) * 1024 = ((min 1024 (m - 1024 * k) : Nat) : Int) := fun k hk => by
    have : pgs m = (m + 1023) / 1024 := rfl
    omega
  have hp3 : ∀ k, k + 1 < pgs m → ((min 1024 (m - 1024 * k) : Nat) : Int) = 1024 := fun k hk => by
    have : pgs m = (m + 1023) / 1024 := rfl
    omega
  generalize pgs m = N at *
  go_enter Try.func12, Try.ntmps12
  go_wp2
  go_loopw [7] (fun v wr => wr = w ∧ ∃ k : Nat, k ≤ N ∧ v = .int .i64 k) (fun v _ => N - (intOf v).toNat)
  case atStart => exact ⟨rfl, 0, Nat.zero_le _, rfl⟩
  case round =>
    obtain ⟨hw, k, hk, rfl⟩ := hrel
    obtain rfl : w = wr := hw.symm
    by_cases hlt : k < N
    · obtain ⟨b, rfl, I⟩ : ∃ b, a = some ⟨b, 0, none⟩ ∧ ∀ j, j < N → w.cell? ⟨b, j, none⟩ = some (.int .i64 ((min 1024 (m - 1024 * j) : Nat) : Int)) := by
        rcases A with h | h
        · omega
        · exact h
      have e1 := I k hlt
      clear I A
      by_cases hl : k + 1 = N
      · have e2 := hp2 k hl
        rw [← e2] at e1
        clear e2 hp2 hp3 hq
        subst hl
        go_wp2
        all_goals first
          | (exfalso; omega)
          | (go_roundw; (case rel => exact ⟨trivial, k + 1, by omega, by go_num⟩); (case measure => (simp [intOf]; try omega)))
      · have e2 := hp3 k (by omega)
        rw [e2] at e1
        clear e2 hp2 hp3 hq
        have h1 : ((k : Int) == (N : Int) - 1) = false := beq_eq_false_iff_ne.2 (by omega)
        go_wp2
        all_goals first
          | (exfalso; omega)
          | (go_roundw; (case rel => exact ⟨trivial, k + 1, by omega, by go_num⟩); (case measure => simp [intOf]; omega))
    · go_wp2
      go_ret
      exact ⟨rfl, rfl⟩

end Go.Proofs.Qxb6609061a.Line
