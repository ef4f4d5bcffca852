/-
  zzIsPow2, zzTreeHolds.
-/
import Derived.Test.Qxb6609061aTree
namespace Go.Proofs.Qxb6609061a.Line
open Go.RowKit

theorem lvs_facts (n : Nat) (hn : n ≤ 65536) : LvAt n (lvs n) ∧ ¬ lvs n * 8 < 2 * n := by
  have key : ∀ f L, 32768 - L ≤ f → LvAt n L → ∃ L', LvAt n L' ∧ ¬ L' * 8 < 2 * n := by
    intro f
    induction f with
    | zero => intro L h1 h2; have := h2.2.1; omega
    | succ f ih =>
      intro L h1 h2
      by_cases hl : L * 8 < 2 * n
      · have := h2.1
        exact ih (2 * L) (by omega) (h2.step hn hl)
      · exact ⟨L, h2, hl⟩
  obtain ⟨L, h1, h2⟩ := key 32768 1 (by omega) (LvAt.start n)
  rw [← h1.done h2]
  exact ⟨h1, h2⟩

/-- The leaves from lo to hi are those beneath node k. -/
def Span (k L lo hi : Nat) : Prop := ∃ d, lo = k * 2 ^ d ∧ hi + 1 = (k + 1) * 2 ^ d ∧ ∀ d', d' < d → (k + 1) * 2 ^ d' ≤ L

theorem Span.start (k L : Nat) : Span k L k k := ⟨0, by simp, by simp, fun d' hd => absurd hd (Nat.not_lt_zero _)⟩

theorem Span.step {k L lo hi : Nat} (h : Span k L lo hi) (hk : 0 < k) (he : ∃ e, L = 2 ^ e) (hl : lo < L) : Span k L (2 * lo) (2 * hi + 1) := by
  obtain ⟨d, h1, h2, h3⟩ := h
  obtain ⟨e, rfl⟩ := he
  refine ⟨d + 1, by rw [h1, Nat.pow_succ, Nat.mul_comm (2 ^ d) 2, ← Nat.mul_assoc, ← Nat.mul_assoc, Nat.mul_comm k 2], by rw [show 2 * hi + 1 + 1 = 2 * (hi + 1) by omega, h2, Nat.pow_succ, Nat.mul_comm (2 ^ d) 2, ← Nat.mul_assoc, ← Nat.mul_assoc, Nat.mul_comm (k + 1) 2], fun d' hd => ?_⟩
  by_cases hd2 : d' < d
  · exact h3 d' hd2
  · obtain rfl : d' = d := by omega
    rw [h1] at hl
    have hde : d' ≤ e := by
      rcases Nat.lt_or_ge e d' with h | h
      · have h5 := Nat.pow_le_pow_right (n := 2) (by decide) (Nat.le_of_lt h)
        have h6 := Nat.mul_le_mul_right (2 ^ d') hk
        omega
      · exact h
    have e1 : 2 ^ e = 2 ^ (e - d') * 2 ^ d' := by rw [← Nat.pow_add]; congr 1; omega
    rw [e1] at hl ⊢
    have := Nat.lt_of_mul_lt_mul_right hl
    exact Nat.mul_le_mul_right _ this

theorem Span.top {k L lo hi : Nat} (h : Span k L lo hi) (hk : k < 2 * L) : hi + 1 ≤ 2 * L := by
  obtain ⟨d, h1, h2, h3⟩ := h
  rw [h2]
  cases d with
  | zero => (simp; omega)
  | succ d =>
    have := h3 d (Nat.lt_succ_self _)
    rw [Nat.pow_succ, ← Nat.mul_assoc]
    omega

theorem Span.node {T : Nat → Task} {m k L lo hi : Nat} {F : Nat → Int} (h : Span k L lo hi) (ht : IsTree (leafOf T m) L F) (hc : ∀ j, j < m → 0 < (T j).count) (h0 : 0 < k) (hk : k < 2 * L) (hl : ¬ lo < L) :
    F k = leastW (fun j => (T j).work) (min m ((lo - L) * 8)) (min m ((hi + 1 - L) * 8) - min m ((lo - L) * 8)) := by
  have htop := h.top hk
  obtain ⟨d, h1, h2, h3⟩ := h
  have := tree_node ht hc d k h0 (by omega) (by omega) h3
  rw [this, ← h1, ← h2]
  rfl

theorem pow2_and : ∀ e : Fin 15, bits BinOp.and IntKind.i64 ((2 ^ e.val : Nat) : Int) (((2 ^ e.val : Nat) : Int) - 1) = 0 := by decide +kernel

theorem isPow2_any (L : Nat) (hL : L ≤ 16384) (he : ∃ e, L = 2 ^ e) (w : World) : Calls Try.prog 30 #[.int .i64 L] w fun e w' => e = .returned (.bool true) ∧ w' = w := by
  obtain ⟨e, he⟩ := he
  have h15 : e < 15 := by
    rcases Nat.lt_or_ge e 15 with h | h
    · exact h
    · have := Nat.pow_le_pow_right (n := 2) (by decide) h
      omega
  have hp : 0 < L := by rw [he]; exact Nat.two_pow_pos e
  have hand := pow2_and ⟨e, h15⟩
  simp only at hand
  rw [← he] at hand
  clear he
  go_enter Try.func30, Try.ntmps30
  go_wp2
  go_ret
  exact ⟨rfl, rfl⟩

end Go.Proofs.Qxb6609061a.Line
