import Derived.Test.Qxb6609061aLine
namespace Go.Proofs.Qxb6609061a.Line
open Go.RowKit

/-- The least work of no task. -/
def gone : Int := 18446744073709551615

/-- The least work of the waiting tasks among the k from lo on. -/
def minTo (T : Nat → Task) (lo : Nat) : Nat → Int
  | 0 => gone
  | k + 1 => if 0 < (T (lo + k)).count then min (minTo T lo k) (T (lo + k)).work else minTo T lo k

theorem minTo_bd (T : Nat → Task) (lo : Nat) : ∀ k, (∀ i, lo ≤ i → i < lo + k → 0 ≤ (T i).work) → 0 ≤ minTo T lo k ∧ minTo T lo k ≤ 18446744073709551615
  | 0, _ => by simp [minTo, gone]
  | k + 1, h => by
    have ih := minTo_bd T lo k (fun i h1 h2 => h i h1 (by omega))
    have hw := h (lo + k) (by omega) (by omega)
    unfold minTo
    split <;> omega

theorem count_cell {w : World} {b o : Nat} {t : Task} (h : w.rangeAt b o t.cs) : w.cell? ⟨b, o + 3, none⟩ = some (.int .i64 t.count) := h 3 _ rfl
theorem work_cell {w : World} {b o : Nat} {t : Task} (h : w.rangeAt b o t.cs) : w.cell? ⟨b, o + 2, none⟩ = some (.int .i64 t.work) := h 2 _ rfl

set_option maxHeartbeats 400000 in
theorem block_any {w : World} {lo hi q : Nat} {pa : Option Addr} {g cap : Nat} {pb : Nat → Nat} {n : Nat} {T : Nat → Task} {least : Value} {held waiting first : Int}
    (h : Line w lo hi q pa g cap pb n T least held waiting first) (hn : n ≤ 65536) (hw : ∀ i, i < n → 0 ≤ (T i).work ∧ (T i).work ≤ 9223372036854775807) (b : Nat) (hb : b ≤ 65536) :
    Calls Try.prog 38 #[.pointer (some ⟨q, 0, none⟩), .int .i64 b] w fun e w' => e = .returned (.int .u64 (minTo T (b * 8) (min 8 (n - b * 8)))) ∧ w' = w := by
  have c1 := h.head1
  go_enter Try.func38, Try.ntmps38
  go_wp2
  go_loop [5, 6] (fun t i => ∃ k : Nat, k ≤ min 8 (n - b * 8) ∧ i = .int .i64 ((b * 8 + k : Nat) : Int) ∧ t = .int .u64 (minTo T (b * 8) k)) (fun _ i => b * 8 + 8 - (intOf i).toNat)
  case atStart => exact ⟨0, Nat.zero_le _, by go_num, rfl⟩
  case round =>
    obtain ⟨k, hk, rfl, rfl⟩ := hrel
    by_cases hlt : k < min 8 (n - b * 8)
    · have hw' := hw (b * 8 + k) (by omega)
      have hmb := minTo_bd T (b * 8) k (fun i h1 h2 => (hw i (by omega)).1)
      have hat := at_any h hn (b * 8 + k) (by omega)
      have hc := count_cell (h.task (b * 8 + k) (by omega))
      have hwc := work_cell (h.task (b * 8 + k) (by omega))
      have HN : Hid (minTo T (b * 8) (k + 1) = if 0 < (T (b * 8 + k)).count then min (minTo T (b * 8) k) (T (b * 8 + k)).work else minTo T (b * 8) k) := rfl
      generalize minTo T (b * 8) k = z at *
      generalize T (b * 8 + k) = t at *
      have e1 : ((b : Int) * 8 + (k : Int)) = ((b * 8 + k : Nat) : Int) := by omega
      have E1 : Hid _ := e1
      clear h hw e1
      by_cases hbn : (b + 1) * 8 ≤ n
      all_goals
        by_cases hcn : 0 < t.count
        · by_cases hle : z ≤ t.work
          · go_wp2_with fail
            rw [E1.out]
            refine hat.mono ?_
            rintro e w1 ⟨rfl, hw1⟩
            rw [hw1]
            clear hw1
            rw [← E1.out]
            go_wp2
            go_round
            case rel => exact ⟨k + 1, by omega, by go_num, by rw [HN.out, if_pos hcn, Int.min_eq_left hle]⟩
            case measure => simp [intOf]; omega
          · go_wp2_with fail
            rw [E1.out]
            refine hat.mono ?_
            rintro e w1 ⟨rfl, hw1⟩
            rw [hw1]
            clear hw1
            rw [← E1.out]
            go_wp2
            go_round
            case rel => exact ⟨k + 1, by omega, by go_num, by rw [HN.out, if_pos hcn, Int.min_eq_right (by omega)]⟩
            case measure => simp [intOf]; omega
        · go_wp2_with fail
          rw [E1.out]
          refine hat.mono ?_
          rintro e w1 ⟨rfl, hw1⟩
          rw [hw1]
          clear hw1
          rw [← E1.out]
          go_wp2
          go_round
          case rel => exact ⟨k + 1, by omega, by go_num, by rw [HN.out, if_neg (by omega)]⟩
          case measure => simp [intOf]; omega
    · obtain rfl : k = min 8 (n - b * 8) := by omega
      clear h hw
      by_cases hbn : (b + 1) * 8 ≤ n
      all_goals
        go_wp2
        go_ret
        exact ⟨rfl, rfl⟩
end Go.Proofs.Qxb6609061a.Line
