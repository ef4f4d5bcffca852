/-
  zzLineCounts: held, waiting, first; fine only where no work and no count is below 0.
-/
import Derived.Test.Qxb6609061aCompact
namespace Go.Proofs.Qxb6609061a.Line
open Go.RowKit

/-- n numbers x, read through a slice whose address is a. -/
def Arr (w : World) (a : Option Addr) (n : Nat) (x : Nat → Int) : Prop := n = 0 ∨ ∃ b, a = some ⟨b, 0, none⟩ ∧ ∀ j, j < n → w.cell? ⟨b, j, none⟩ = some (.int .i64 (x j))

theorem Arr.below {w w' : World} {a : Option Addr} {n : Nat} {x : Nat → Int} (h : Arr w a n x) (hb : Below w.heap.size w w') : Arr w' a n x := by
  rcases h with h | ⟨b, e, h1⟩
  · exact .inl h
  · exact .inr ⟨b, e, fun j hj => (hb.cell (p := ⟨b, j, none⟩) (block_lt_of_cell (h1 j hj))).trans (h1 j hj)⟩

set_option maxHeartbeats 1600000 in
set_option maxRecDepth 100000 in
theorem counts_any (T : Nat → Task) (n : Nat) (hn : n ≤ 65536) (a1 a2 : Option Addr) (c1 c2 : Nat) (w : World) (A1 : Arr w a1 n fun j => (T j).work) (A2 : Arr w a2 n fun j => (T j).count)
    (hT : ∀ j, j < n → (T j).count ≤ 9223372036854775807) :
    Calls Try.prog 7 #[.slice a1 n c1, .slice a2 n c2] w fun e w' => w' = w ∧ (e = .returned (.tuple #[.int .i64 0, .int .i64 0, .int .i64 0, .bool false]) ∨
      ∃ waiting first : Int, e = .returned (.tuple #[.int .i64 (kept T n).length, .int .i64 waiting, .int .i64 first, .bool true]) ∧ ∀ j, j < n → 0 ≤ (T j).work ∧ 0 ≤ (T j).count) := by
  go_enter Try.func7, Try.ntmps7
  go_wp2
  go_loopw [8, 9, 10, 11] (fun v8 v9 v10 v11 wr => wr = w ∧ ∃ (i : Nat) (wt fs : Int), i ≤ n ∧ v11 = .int .i64 i ∧ v8 = .int .i64 (kept T i).length ∧ v9 = .int .i64 wt ∧ 0 ≤ wt ∧ wt ≤ 9223372036854775807 ∧ v10 = .int .i64 fs ∧ ∀ j, j < i → 0 ≤ (T j).work ∧ 0 ≤ (T j).count) (fun _ _ _ v11 _ => n - (intOf v11).toNat)
  case atStart => exact ⟨rfl, 0, 0, -1, Nat.zero_le _, rfl, rfl, rfl, by decide, by decide, rfl, fun j hj => absurd hj (Nat.not_lt_zero _)⟩
  case round =>
    obtain ⟨hw, i, wt, fs, hi, rfl, rfl, rfl, hw0, hw1, rfl, hall⟩ := hrel
    obtain rfl : w = wr := hw.symm
    by_cases hlt : i < n
    · obtain ⟨b1, rfl, I1⟩ : ∃ b, a1 = some ⟨b, 0, none⟩ ∧ ∀ j, j < n → w.cell? ⟨b, j, none⟩ = some (.int .i64 (T j).work) := by
        rcases A1 with h | h
        · omega
        · exact h
      obtain ⟨b2, rfl, I2⟩ : ∃ b, a2 = some ⟨b, 0, none⟩ ∧ ∀ j, j < n → w.cell? ⟨b, j, none⟩ = some (.int .i64 (T j).count) := by
        rcases A2 with h | h
        · omega
        · exact h
      have e1 := I1 i hlt
      have e2 := I2 i hlt
      have hTi := hT i hlt
      have hk := kept_le T i
      have HA : Hid (∀ j, j < i → 0 ≤ (T j).work ∧ 0 ≤ (T j).count) := hall
      clear hall I1 I2 A1 A2 hT
      by_cases hb1 : (T i).work < 0
      · go_wp2
        exact bodyPost_ret (v := .tuple #[.int .i64 0, .int .i64 0, .int .i64 0, .bool false]) (by simp [results, Try.results7, go_sem]) rfl ⟨rfl, .inl rfl⟩
      · by_cases hb2 : (T i).count < 0
        · go_wp2
          exact bodyPost_ret (v := .tuple #[.int .i64 0, .int .i64 0, .int .i64 0, .bool false]) (by simp [results, Try.results7, go_sem]) rfl ⟨rfl, .inl rfl⟩
        · have hall1 : ∀ j, j < i + 1 → 0 ≤ (T j).work ∧ 0 ≤ (T j).count := fun j hj => by
            by_cases e : j = i
            · subst e; exact ⟨by omega, by omega⟩
            · exact HA j (by omega)
          have HA1 : Hid (∀ j, j < i + 1 → 0 ≤ (T j).work ∧ 0 ≤ (T j).count) := hall1
          clear hall1 HA
          by_cases hpos : 0 < (T i).count
          · have hk1 : (kept T (i + 1)).length = (kept T i).length + 1 := by rw [kept_yes hpos]; simp
            have HK1 : Hid ((kept T (i + 1)).length = (kept T i).length + 1) := hk1
            clear hk1
            generalize (T i).count = ct at *
            generalize (T i).work = wk at *
            by_cases hov : wt > 9223372036854775807 - ct
            · go_wp2
              exact bodyPost_ret (v := .tuple #[.int .i64 0, .int .i64 0, .int .i64 0, .bool false]) (by simp [results, Try.results7, go_sem]) rfl ⟨rfl, .inl rfl⟩
            · go_wp2
              · go_roundw
                case rel => exact ⟨trivial, i + 1, wt + ct, i, by omega, by go_num, by rw [show (kept T (i + 1)).length = (kept T i).length + 1 from HK1]; go_num, rfl, by omega, by omega, rfl, HA1⟩
                case measure => simp [intOf]; omega
              · go_roundw
                case rel => exact ⟨trivial, i + 1, wt + ct, fs, by omega, by go_num, by rw [show (kept T (i + 1)).length = (kept T i).length + 1 from HK1]; go_num, rfl, by omega, by omega, rfl, HA1⟩
                case measure => simp [intOf]; omega
          · have HK0 : Hid (kept T (i + 1) = kept T i) := kept_no hpos
            go_wp2
            go_roundw
            case rel => exact ⟨trivial, i + 1, wt, fs, by omega, by go_num, by rw [show kept T (i + 1) = kept T i from HK0], rfl, hw0, hw1, rfl, HA1⟩
            case measure => simp [intOf]; omega
    · obtain rfl : n = i := by omega
      go_wp2
      · exact bodyPost_ret (v := .tuple #[.int .i64 (kept T n).length, .int .i64 wt, .int .i64 0, .bool true]) (by simp [results, Try.results7, go_sem]) rfl ⟨rfl, .inr (by first | exact ⟨_, _, rfl, hall⟩ | exact ⟨⟨_, _, rfl⟩, hall⟩)⟩
      · exact bodyPost_ret (v := .tuple #[.int .i64 (kept T n).length, .int .i64 wt, .int .i64 fs, .bool true]) (by simp [results, Try.results7, go_sem]) rfl ⟨rfl, .inr (by first | exact ⟨_, _, rfl, hall⟩ | exact ⟨⟨_, _, rfl⟩, hall⟩)⟩

end Go.Proofs.Qxb6609061a.Line
