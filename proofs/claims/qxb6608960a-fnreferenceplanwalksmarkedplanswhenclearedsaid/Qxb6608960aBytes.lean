import Derived.Test.Qxb6608960aClone
namespace Go.Proofs.Qxb6608960a.Plans
open Go.RowKit

set_option maxHeartbeats 400000 in
theorem bytes16_some (b off n cap : Nat) (D : Nat → PlanD) (x : Int) (w : World) (hn : n ≤ 9223372036854775807) (hD : Row10 w b off n D) :
    Calls Try.prog 16 #[.slice (some ⟨b, off, none⟩) n cap, .int .i64 x] w fun e w' => (e = .returned (.bool false) ∨ (e = .returned (.bool true) ∧ ∀ k, k < n → (D k).id.size ≤ 1048576)) ∧ w' = w := by
  by_cases h1 : n ≤ 1048576
  · go_enter Try.func16, Try.ntmps16
    go_wp2
    go_loop [5, 6] (fun t i => ∃ (k : Nat) (z : Int), k ≤ n ∧ 0 ≤ z ∧ z ≤ 1048576 ∧ i = .int .i64 k ∧ t = .int .i64 z ∧ ∀ j, j < k → (D j).id.size ≤ 1048576) (fun _ i => n - (intOf i).toNat)
    case atStart => exact ⟨0, n, Nat.zero_le _, by omega, by omega, rfl, rfl, fun j hj => absurd hj (Nat.not_lt_zero _)⟩
    case round =>
      obtain ⟨k, z, hk, hz, hz2, rfl, rfl, hj⟩ := hrel
      have HJ : Hid (∀ j, j < k → (D j).id.size ≤ 1048576) := hj
      clear hj
      by_cases hlt : k < n
      · have hc := id_cell (hD k hlt)
        clear hD
        by_cases hs : (D k).id.size ≤ 1048576
        · have HS : Hid (∀ j, j < k + 1 → (D j).id.size ≤ 1048576) := fun j hj => by
            by_cases e : j = k
            · rw [e]; exact hs
            · exact HJ.out j (by omega)
          by_cases hz3 : z + (D k).id.size ≤ 1048576
          · go_wp2
            go_round
            case rel => exact ⟨k + 1, z + (D k).id.size, by omega, by omega, by omega, by go_num, rfl, HS.out⟩
            case measure => simp [intOf]; omega
          · go_wp2
            go_ret
            exact ⟨.inl rfl, rfl⟩
        · go_wp2
          go_ret
          exact ⟨.inl rfl, rfl⟩
      · clear hD
        go_wp2
        go_ret
        exact ⟨.inr ⟨rfl, fun j hj => HJ.out j (by omega)⟩, rfl⟩
  · clear hD
    go_enter Try.func16, Try.ntmps16
    go_wp2
    go_ret
    exact ⟨.inl rfl, rfl⟩

set_option maxHeartbeats 400000 in
theorem bytes16_zero (ad : Option Addr) (cap : Nat) (x : Int) (w : World) :
    Calls Try.prog 16 #[.slice ad 0 cap, .int .i64 x] w fun e w' => e = .returned (.bool true) ∧ w' = w := by
  go_enter Try.func16, Try.ntmps16
  go_wp2
  go_loop [5, 6] (fun t i => t = .int .i64 0 ∧ i = .int .i64 0) (fun _ i => (intOf i).toNat)
  case atStart => exact ⟨rfl, rfl⟩
  case round =>
    obtain ⟨rfl, rfl⟩ := hrel
    go_wp2
    go_ret
    exact ⟨rfl, rfl⟩

theorem bytes16_any (ad : Option Addr) (n cap : Nat) (D : Nat → PlanD) (x : Int) (w : World) (hn : n ≤ 9223372036854775807) (hD : PlansIn w ad n D) :
    Calls Try.prog 16 #[.slice ad n cap, .int .i64 x] w fun e w' => (e = .returned (.bool false) ∨ (e = .returned (.bool true) ∧ ∀ k, k < n → (D k).id.size ≤ 1048576)) ∧ w' = w := by
  rcases hD with rfl | ⟨b, off, rfl, hD⟩
  · refine (bytes16_zero ad cap x w).mono ?_
    rintro e w' ⟨rfl, rfl⟩
    exact ⟨.inr ⟨rfl, fun k hk => absurd hk (Nat.not_lt_zero _)⟩, rfl⟩
  · exact bytes16_some b off n cap D x w hn hD

set_option maxHeartbeats 400000 in
theorem bytes21_some (b off n cap : Nat) (D : Nat → PlanD) (w : World) (hn : n ≤ 9223372036854775807) (hD : Row10 w b off n D) :
    Calls Try.prog 21 #[.slice (some ⟨b, off, none⟩) n cap] w fun e w' => (e = .returned (.bool false) ∨ (e = .returned (.bool true) ∧ ∀ k, k < n → (D k).id.size ≤ 1048576)) ∧ w' = w := by
  by_cases h1 : n ≤ 1048576
  · go_enter Try.func21, Try.ntmps21
    go_wp2
    go_loop [3, 4] (fun t i => ∃ (k : Nat) (z : Int), k ≤ n ∧ 0 ≤ z ∧ z ≤ 1048576 ∧ i = .int .i64 k ∧ t = .int .i64 z ∧ ∀ j, j < k → (D j).id.size ≤ 1048576) (fun _ i => n - (intOf i).toNat)
    case atStart => exact ⟨0, n, Nat.zero_le _, by omega, by omega, rfl, rfl, fun j hj => absurd hj (Nat.not_lt_zero _)⟩
    case round =>
      obtain ⟨k, z, hk, hz, hz2, rfl, rfl, hj⟩ := hrel
      have HJ : Hid (∀ j, j < k → (D j).id.size ≤ 1048576) := hj
      clear hj
      by_cases hlt : k < n
      · have hc := id_cell (hD k hlt)
        clear hD
        by_cases hs : (D k).id.size ≤ 1048576
        · have HS : Hid (∀ j, j < k + 1 → (D j).id.size ≤ 1048576) := fun j hj => by
            by_cases e : j = k
            · rw [e]; exact hs
            · exact HJ.out j (by omega)
          by_cases hz3 : z + (D k).id.size ≤ 1048576
          · go_wp2
            go_round
            case rel => exact ⟨k + 1, z + (D k).id.size, by omega, by omega, by omega, by go_num, rfl, HS.out⟩
            case measure => simp [intOf]; omega
          · go_wp2
            go_ret
            exact ⟨.inl rfl, rfl⟩
        · go_wp2
          go_ret
          exact ⟨.inl rfl, rfl⟩
      · clear hD
        go_wp2
        go_ret
        exact ⟨.inr ⟨rfl, fun j hj => HJ.out j (by omega)⟩, rfl⟩
  · clear hD
    go_enter Try.func21, Try.ntmps21
    go_wp2
    go_ret
    exact ⟨.inl rfl, rfl⟩

set_option maxHeartbeats 400000 in
theorem bytes21_zero (ad : Option Addr) (cap : Nat) (w : World) :
    Calls Try.prog 21 #[.slice ad 0 cap] w fun e w' => e = .returned (.bool true) ∧ w' = w := by
  go_enter Try.func21, Try.ntmps21
  go_wp2
  go_loop [3, 4] (fun t i => t = .int .i64 0 ∧ i = .int .i64 0) (fun _ i => (intOf i).toNat)
  case atStart => exact ⟨rfl, rfl⟩
  case round =>
    obtain ⟨rfl, rfl⟩ := hrel
    go_wp2
    go_ret
    exact ⟨rfl, rfl⟩

theorem bytes21_any (ad : Option Addr) (n cap : Nat) (D : Nat → PlanD) (w : World) (hn : n ≤ 9223372036854775807) (hD : PlansIn w ad n D) :
    Calls Try.prog 21 #[.slice ad n cap] w fun e w' => (e = .returned (.bool false) ∨ (e = .returned (.bool true) ∧ ∀ k, k < n → (D k).id.size ≤ 1048576)) ∧ w' = w := by
  rcases hD with rfl | ⟨b, off, rfl, hD⟩
  · refine (bytes21_zero ad cap w).mono ?_
    rintro e w' ⟨rfl, rfl⟩
    exact ⟨.inr ⟨rfl, fun k hk => absurd hk (Nat.not_lt_zero _)⟩, rfl⟩
  · exact bytes21_some b off n cap D w hn hD

end Go.Proofs.Qxb6608960a.Plans
