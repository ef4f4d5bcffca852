/-
  The tree's plain law: a node holds the least work of the tasks that it covers.
-/
import Derived.Test.Qxb6609061aBuild
namespace Go.Proofs.Qxb6609061a.Line

/-- The least of the k numbers from lo on, and of 'gone'. -/
def leastW (W : Nat → Int) (lo : Nat) : Nat → Int
  | 0 => gone
  | k + 1 => min (leastW W lo k) (W (lo + k))

theorem leastW_add (W : Nat → Int) (lo a : Nat) : ∀ b, leastW W lo (a + b) = min (leastW W lo a) (leastW W (lo + a) b)
  | 0 => by
    have : ∀ k, leastW W lo k ≤ gone := fun k => by
      induction k with
      | zero => exact Int.le_refl _
      | succ k ih => exact Int.le_trans (Int.min_le_left _ _) ih
    show leastW W lo a = min _ gone
    have := this a
    omega
  | b + 1 => by
    show min (leastW W lo (a + b)) (W (lo + (a + b))) = min _ (min (leastW W (lo + a) b) (W (lo + a + b)))
    rw [leastW_add W lo a b, Nat.add_assoc]
    omega

theorem minTo_least (T : Nat → Task) (lo : Nat) : ∀ k, (∀ j, lo ≤ j → j < lo + k → 0 < (T j).count) → minTo T lo k = leastW (fun j => (T j).work) lo k
  | 0, _ => rfl
  | k + 1, h => by
    rw [minTo, if_pos (h (lo + k) (by omega) (by omega)), minTo_least T lo k (fun j h1 h2 => h j h1 (by omega))]
    rfl

/-- How many of m tasks lie from block a up to block b. -/
def span (m a b : Nat) : Nat := min m (b * 8) - min m (a * 8)

theorem tree_node {T : Nat → Task} {m L : Nat} {F : Nat → Int} (h : IsTree (leafOf T m) L F) (hc : ∀ j, j < m → 0 < (T j).count) : ∀ d k, 0 < k → L ≤ k * 2 ^ d → (k + 1) * 2 ^ d ≤ 2 * L → (∀ d', d' < d → (k + 1) * 2 ^ d' ≤ L) →
    F k = leastW (fun j => (T j).work) (min m ((k * 2 ^ d - L) * 8)) (span m (k * 2 ^ d - L) ((k + 1) * 2 ^ d - L)) := by
  intro d
  induction d with
  | zero =>
    intro k h0 h1 h2 _
    simp only [Nat.pow_zero, Nat.mul_one] at h1 h2 ⊢
    have := h.leaves (k - L) (by omega)
    rw [show L + (k - L) = k by omega] at this
    rw [this]
    unfold leafOf
    by_cases hm : (k - L) * 8 ≤ m
    · rw [minTo_least T _ _ (fun j h3 h4 => hc j (by omega))]
      have e1 : min m ((k - L) * 8) = (k - L) * 8 := by omega
      have e2 : span m (k - L) (k + 1 - L) = min 8 (m - (k - L) * 8) := by unfold span; omega
      rw [e1, e2]
    · have e1 : min 8 (m - (k - L) * 8) = 0 := by omega
      have e2 : span m (k - L) (k + 1 - L) = 0 := by unfold span; omega
      rw [e1, e2]
      rfl
  | succ d ih =>
    intro k h0 h1 h2 h3
    have hk : k + 1 ≤ L := by have := h3 0 (by omega); simpa using this
    have p1 : k * 2 ^ (d + 1) = 2 * k * 2 ^ d := by rw [Nat.pow_succ, Nat.mul_comm (2 ^ d) 2, ← Nat.mul_assoc, Nat.mul_comm k 2]
    have p2 : (k + 1) * 2 ^ (d + 1) = (2 * k + 2) * 2 ^ d := by rw [Nat.pow_succ, Nat.mul_comm (2 ^ d) 2, ← Nat.mul_assoc, Nat.mul_comm (k + 1) 2, Nat.mul_add]
    have p3 : (2 * k + 1) * 2 ^ d = 2 * k * 2 ^ d + 2 ^ d := by rw [Nat.add_mul, Nat.one_mul]
    have p4 : (2 * k + 2) * 2 ^ d = 2 * k * 2 ^ d + 2 * 2 ^ d := by rw [Nat.add_mul]
    have hp : 0 < 2 ^ d := Nat.two_pow_pos d
    have q1 : ∀ d', d' < d → (2 * k + 2) * 2 ^ d' ≤ L := fun d' hd => by
      have := h3 (d' + 1) (by omega)
      rwa [Nat.pow_succ, Nat.mul_comm (2 ^ d') 2, ← Nat.mul_assoc, Nat.mul_comm (k + 1) 2, Nat.mul_add] at this
    have i1 := ih (2 * k) (by omega) (by omega) (by omega) (fun d' hd => Nat.le_trans (Nat.mul_le_mul_right _ (by omega)) (q1 d' hd))
    have i2 := ih (2 * k + 1) (by omega) (by omega) (by rw [show 2 * k + 1 + 1 = 2 * k + 2 from rfl]; omega) q1
    rw [h.inner k h0 (by omega), i1, i2, p1, p2]
    rw [show 2 * k + 1 + 1 = 2 * k + 2 from rfl]
    have e1 : span m (2 * k * 2 ^ d - L) ((2 * k + 2) * 2 ^ d - L) = span m (2 * k * 2 ^ d - L) ((2 * k + 1) * 2 ^ d - L) + span m ((2 * k + 1) * 2 ^ d - L) ((2 * k + 2) * 2 ^ d - L) := by unfold span; omega
    have e2 : min m (((2 * k + 1) * 2 ^ d - L) * 8) = min m ((2 * k * 2 ^ d - L) * 8) + span m (2 * k * 2 ^ d - L) ((2 * k + 1) * 2 ^ d - L) := by unfold span; omega
    rw [e1, leastW_add, e2]

end Go.Proofs.Qxb6609061a.Line
