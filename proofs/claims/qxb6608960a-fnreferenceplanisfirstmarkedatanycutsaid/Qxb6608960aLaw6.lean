import Derived.Test.Qxb6608960aFind
import Derived.Test.Qxb6608960aBytes
namespace Go.Proofs.Qxb6608960a.Plans
open Go.RowKit

/-- What the downward scan has found from k on. -/
def Want (m : Nat → Bool) (k n : Nat) (z : Int) : Prop :=
  (z = -1 ∧ ∀ j, k ≤ j → j < n → m j = false) ∨ ∃ q : Nat, z = q ∧ k ≤ q ∧ q < n ∧ m q = true ∧ ∀ j, k ≤ j → j < q → m j = false

theorem Want.idx {m : Nat → Bool} {n : Nat} {z : Int} (h : Want m 0 n z) : z = idx m n := by
  rcases h with ⟨rfl, h⟩ | ⟨q, rfl, _, hq, hm, h⟩
  · exact (idx_none (fun j hj => h j (Nat.zero_le _) hj)).symm
  · exact (idx_hit hq hm (fun j hj => h j (Nat.zero_le _) hj)).symm

theorem Want.step_no {m : Nat → Bool} {k n : Nat} {z : Int} (h : Want m (k + 1) n z) (hm : m k = false) : Want m k n z := by
  rcases h with ⟨rfl, h⟩ | ⟨q, rfl, hkq, hq, hmq, h⟩
  · refine .inl ⟨rfl, fun j hj hjn => ?_⟩
    by_cases e : j = k
    · rw [e]; exact hm
    · exact h j (by omega) hjn
  · refine .inr ⟨q, rfl, by omega, hq, hmq, fun j hj hjq => ?_⟩
    by_cases e : j = k
    · rw [e]; exact hm
    · exact h j (by omega) hjq

theorem Want.step_yes {m : Nat → Bool} {k n : Nat} (hk : k < n) (hm : m k = true) : Want m k n k :=
  .inr ⟨k, rfl, Nat.le_refl _, hk, hm, fun j hj hjq => absurd hjq (by omega)⟩

theorem plansIn_below {w w' : World} {ad : Option Addr} {n : Nat} {D : Nat → PlanD} (hb : Below w.heap.size w w') (h : PlansIn w ad n D) : PlansIn w' ad n D := by
  rcases h with h | ⟨b, off, h1, h2⟩
  · exact .inl h
  · exact .inr ⟨b, off, h1, row10_below hb h2⟩

theorem plansIn_front {w : World} {ad : Option Addr} {n c : Nat} {D : Nat → PlanD} (h : PlansIn w ad n D) (hc : c ≤ n) : PlansIn w ad c D := by
  rcases h with h | ⟨b, off, h1, h2⟩
  · exact .inl (by omega)
  · exact .inr ⟨b, off, h1, fun k hk => h2 k (by omega)⟩

theorem row10_back {w : World} {b n c : Nat} {D : Nat → PlanD} (h : Row10 w b 0 n D) : Row10 w b (c * 10) (n - c) (fun k => D (c + k)) := fun k hk => by
  have := h (c + k) (by omega)
  rwa [show 0 + (c + k) * 10 = c * 10 + k * 10 by omega] at this

theorem idx_zero (m : Nat → Bool) : idx m 0 = -1 := rfl
theorem idx_ge (m : Nat → Bool) (n : Nat) : -1 ≤ idx m n := by
  rcases idx_cases m n with ⟨h, _⟩ | ⟨k, _, h, _⟩ <;> rw [h] <;> omega
theorem idx_part (m : Nat → Bool) (n : Nat) : 0 ≤ idx m n ∨ idx m n = -1 := by
  rcases idx_cases m n with ⟨h, _⟩ | ⟨k, _, h, _⟩ <;> rw [h] <;> omega

/-- The whole's answer out of the front's and the back's. -/
theorem idx_split (m : Nat → Bool) (n c : Nat) (hc : c ≤ n) (hn : n ≤ 4096) :
    (0 ≤ idx m c ∧ idx m n = idx m c) ∨ (idx m c = -1 ∧ 0 ≤ idx (fun k => m (c + k)) (n - c) ∧ idx (fun k => m (c + k)) (n - c) ≤ 4096 ∧ idx m n = c + idx (fun k => m (c + k)) (n - c)) ∨
      (idx m c = -1 ∧ idx (fun k => m (c + k)) (n - c) = -1 ∧ idx m n = -1) := by
  rcases idx_cases m c with ⟨h1, g1⟩ | ⟨k, hk, h1, hm, g1⟩
  · right
    rcases idx_cases (fun k => m (c + k)) (n - c) with ⟨h2, g2⟩ | ⟨q, hq, h2, hm2, g2⟩
    · right
      refine ⟨h1, h2, idx_none fun j hj => ?_⟩
      by_cases e : j < c
      · exact g1 j e
      · have := g2 (j - c) (by omega)
        simpa [show c + (j - c) = j by omega] using this
    · left
      refine ⟨h1, by rw [h2]; omega, by rw [h2]; omega, ?_⟩
      rw [h2, show (c : Int) + (q : Int) = ((c + q : Nat) : Int) by omega]
      refine idx_hit (by omega) hm2 fun j hj => ?_
      by_cases e : j < c
      · exact g1 j e
      · have := g2 (j - c) (by omega)
        simpa [show c + (j - c) = j by omega] using this
  · left
    refine ⟨by rw [h1]; omega, ?_⟩
    rw [h1]
    exact idx_hit (by omega) hm g1

set_option maxHeartbeats 2000000 in
set_option maxRecDepth 100000 in
theorem law6_some_out (b off n cap : Nat) (D : Nat → PlanD) (hn : n ≤ 4096) (cut : Int) (hcut : cut < 0 ∨ (n : Int) < cut) (w : World) (hD : Row10 w b off n D) :
    Calls Try.prog 6 #[.slice (some ⟨b, off, none⟩) n cap, .int .i64 cut] w fun e w' => e = .returned (.bool true) ∧ Below w.heap.size w w' := by
  go_enter Try.func6, Try.ntmps6
  go_wp2_with fail
  refine (bytes16_some b off n cap D cut w (by omega) hD).mono ?_
  rintro e w1 ⟨h | ⟨h, hsz⟩, hw⟩
  · rw [h, hw]
    clear h hw
    go_wp2
    go_ret
    exact ⟨rfl, Below.refl _ _⟩
  rw [h, hw]
  clear h hw
  go_wp2
  go_loop [5, 6] (fun t i => ∃ (k : Nat) (z : Int), k ≤ n ∧ 0 ≤ z ∧ z ≤ 1048576 ∧ i = .int .i64 k ∧ t = .int .i64 z) (fun _ i => n - (intOf i).toNat)
  case atStart => exact ⟨0, 0, Nat.zero_le _, by omega, by omega, rfl, rfl⟩
  obtain ⟨k, z, hk, hz, hz2, rfl, rfl⟩ := hrel
  by_cases hlt : k < n
  · have hc := id_cell (hD k hlt)
    have hs := hsz k hlt
    clear hD hsz
    go_wp2
    · go_ret
      exact ⟨rfl, Below.refl _ _⟩
    · go_round
      case rel => exact ⟨k + 1, _, by omega, by omega, by assumption, by go_num, rfl⟩
      case measure => simp [intOf]; omega
  clear hsz
  go_wp2_with fail
  refine (clone_some b off n cap D w hn hD).mono ?_
  rintro e w1 ⟨rfl, hr1, hb1⟩
  have hP1 : PlansIn w1 (some ⟨w.heap.size, 0, none⟩) n D := .inr ⟨_, _, rfl, hr1⟩
  clear hD
  go_wp2
  go_loop [7, 8] (fun t i => ∃ (k : Nat) (z : Int), k ≤ n ∧ i = .int .i64 ((k : Int) - 1) ∧ t = .int .i64 z ∧ Want (fun k => (D k).has) k n z) (fun _ i => (intOf i + 1).toNat)
  case atStart => exact ⟨n, -1, Nat.le_refl _, rfl, rfl, .inl ⟨rfl, fun j hj hj2 => absurd hj2 (by omega)⟩⟩
  obtain ⟨k, z, hk2, rfl, rfl, hwant⟩ := hrel
  have HW : Hid (Want (fun k => (D k).has) k n z) := hwant
  clear hwant
  cases k with
  | succ k =>
    have hc := has_cell (hr1 k (by omega))
    rw [Nat.zero_add] at hc
    clear hr1 hP1
    cases hh : (D k).has
    · go_wp2
      go_round
      case rel => exact ⟨k, z, by omega, by go_num, rfl, HW.out.step_no hh⟩
      case measure => simp [intOf]
    · go_wp2
      go_round
      case rel => exact ⟨k, k, by omega, by go_num, by go_num, Want.step_yes (by omega) hh⟩
      case measure => simp [intOf]
  | zero =>
    obtain rfl := HW.out.idx
    clear HW
    go_wp2_with fail
    refine (build_any (some ⟨w.heap.size, 0, none⟩) n n D w1 hn hP1).mono ?_
    rintro e w2 ⟨rfl, ⟨R, hR, hRD⟩, hb2, hs2⟩
    go_wp2_with fail
    generalize hW2 : w2.alloc _ = W2
    have hB2 : Below w1.heap.size w1 W2 := by rw [← hW2]; exact hb2.alloc (by omega) _
    have hs2' : w1.heap.size < W2.heap.size := by rw [← hW2]; simp; omega
    have hR2' : Row8 W2 w1.heap.size n D R := by rw [← hW2]; exact row8_below ((Below.refl _ _).alloc (Nat.le_refl _) _) hs2 hR
    have hcd2 : W2.cell? ⟨w2.heap.size, 2, none⟩ = some (.slice (some ⟨w1.heap.size, 0, none⟩) n n) := by rw [← hW2, new_cell]; rfl
    clear hW2 hs2 hR hb2
    have k2 := cell_regrown hcd2
    have c20 := q20 W2 w2.heap.size w1.heap.size n D R hn hs2' hcd2 hR2'
    have c19 := q19 W2 w1.heap.size n (fun k => (R k).isSome) hn
    have hidx := idx_congr hRD
    simp only [hidx] at c20 c19
    clear hidx hRD hR2'
    refine wp_region_quiet_below (by kernel_rfl) (by kernel_rfl) ?_
    repeat (go_big_quiet_step (first | (go_at_call 20; exact c20 _ _) | (go_at_call 19; exact c19 _ _)))
    refine wpQuiet_nil ?_
    intro _ hw'
    obtain ⟨⟨dq, osq⟩, hw''⟩ := hw'
    subst hw''
    have hB2x := below_regrown W2 dq osq
    generalize Go.Sort.grow (redrawn W2 dq) osq = W3 at hB2x ⊢
    clear c20 c19 k2
    have hB13 : Below w1.heap.size w1 W3 := hB2.trans (hB2x.mono (by omega))
    have hP3 := plansIn_below hB13 hP1
    have hw1 := hb1.size
    have hw3 := hB13.size
    have hBw : Below w.heap.size w W3 := hb1.trans (hB13.mono hw1)
    generalize hz0 : idx (fun k => (D k).has) n = z0
    have HZ0 : Hid _ := hz0
    clear hz0 hB2 hcd2 hs2' hB2x hB13 hP1 hb1 hr1
    rcases hcut with hcut | hcut
    all_goals
      go_wp2
      go_ret
      exact ⟨rfl, hBw⟩

set_option maxHeartbeats 2000000 in
set_option maxRecDepth 100000 in
theorem law6_some_lt (b off n cap : Nat) (D : Nat → PlanD) (hn : n ≤ 4096) (c : Nat) (hcn : c < n) (w : World) (hD : Row10 w b off n D) :
    Calls Try.prog 6 #[.slice (some ⟨b, off, none⟩) n cap, .int .i64 c] w fun e w' => e = .returned (.bool true) ∧ Below w.heap.size w w' := by
  go_enter Try.func6, Try.ntmps6
  go_wp2_with fail
  refine (bytes16_some b off n cap D c w (by omega) hD).mono ?_
  rintro e w1 ⟨h | ⟨h, hsz⟩, hw⟩
  · rw [h, hw]
    clear h hw
    go_wp2
    go_ret
    exact ⟨rfl, Below.refl _ _⟩
  rw [h, hw]
  clear h hw
  go_wp2
  go_loop [5, 6] (fun t i => ∃ (k : Nat) (z : Int), k ≤ n ∧ 0 ≤ z ∧ z ≤ 1048576 ∧ i = .int .i64 k ∧ t = .int .i64 z) (fun _ i => n - (intOf i).toNat)
  case atStart => exact ⟨0, 0, Nat.zero_le _, by omega, by omega, rfl, rfl⟩
  obtain ⟨k, z, hk, hz, hz2, rfl, rfl⟩ := hrel
  by_cases hlt : k < n
  · have hc := id_cell (hD k hlt)
    have hs := hsz k hlt
    clear hD hsz
    go_wp2
    · go_ret
      exact ⟨rfl, Below.refl _ _⟩
    · go_round
      case rel => exact ⟨k + 1, _, by omega, by omega, by assumption, by go_num, rfl⟩
      case measure => simp [intOf]; omega
  clear hsz
  go_wp2_with fail
  refine (clone_some b off n cap D w hn hD).mono ?_
  rintro e w1 ⟨rfl, hr1, hb1⟩
  have hP1 : PlansIn w1 (some ⟨w.heap.size, 0, none⟩) n D := .inr ⟨_, _, rfl, hr1⟩
  clear hD
  go_wp2
  go_loop [7, 8] (fun t i => ∃ (k : Nat) (z : Int), k ≤ n ∧ i = .int .i64 ((k : Int) - 1) ∧ t = .int .i64 z ∧ Want (fun k => (D k).has) k n z) (fun _ i => (intOf i + 1).toNat)
  case atStart => exact ⟨n, -1, Nat.le_refl _, rfl, rfl, .inl ⟨rfl, fun j hj hj2 => absurd hj2 (by omega)⟩⟩
  obtain ⟨k, z, hk2, rfl, rfl, hwant⟩ := hrel
  have HW : Hid (Want (fun k => (D k).has) k n z) := hwant
  clear hwant
  cases k with
  | succ k =>
    have hc := has_cell (hr1 k (by omega))
    rw [Nat.zero_add] at hc
    clear hr1 hP1
    cases hh : (D k).has
    · go_wp2
      go_round
      case rel => exact ⟨k, z, by omega, by go_num, rfl, HW.out.step_no hh⟩
      case measure => simp [intOf]
    · go_wp2
      go_round
      case rel => exact ⟨k, k, by omega, by go_num, by go_num, Want.step_yes (by omega) hh⟩
      case measure => simp [intOf]
  | zero =>
    obtain rfl := HW.out.idx
    clear HW
    go_wp2_with fail
    refine (build_any (some ⟨w.heap.size, 0, none⟩) n n D w1 hn hP1).mono ?_
    rintro e w2 ⟨rfl, ⟨R, hR, hRD⟩, hb2, hs2⟩
    go_wp2_with fail
    generalize hW2 : w2.alloc _ = W2
    have hB2 : Below w1.heap.size w1 W2 := by rw [← hW2]; exact hb2.alloc (by omega) _
    have hs2' : w1.heap.size < W2.heap.size := by rw [← hW2]; simp; omega
    have hR2' : Row8 W2 w1.heap.size n D R := by rw [← hW2]; exact row8_below ((Below.refl _ _).alloc (Nat.le_refl _) _) hs2 hR
    have hcd2 : W2.cell? ⟨w2.heap.size, 2, none⟩ = some (.slice (some ⟨w1.heap.size, 0, none⟩) n n) := by rw [← hW2, new_cell]; rfl
    clear hW2 hs2 hR hb2
    have k2 := cell_regrown hcd2
    have c20 := q20 W2 w2.heap.size w1.heap.size n D R hn hs2' hcd2 hR2'
    have c19 := q19 W2 w1.heap.size n (fun k => (R k).isSome) hn
    have hidx := idx_congr hRD
    simp only [hidx] at c20 c19
    clear hidx hRD hR2'
    refine wp_region_quiet_below (by kernel_rfl) (by kernel_rfl) ?_
    repeat (go_big_quiet_step (first | (go_at_call 20; exact c20 _ _) | (go_at_call 19; exact c19 _ _)))
    refine wpQuiet_nil ?_
    intro _ hw'
    obtain ⟨⟨dq, osq⟩, hw''⟩ := hw'
    subst hw''
    have hB2x := below_regrown W2 dq osq
    generalize Go.Sort.grow (redrawn W2 dq) osq = W3 at hB2x ⊢
    clear c20 c19 k2
    have hB13 : Below w1.heap.size w1 W3 := hB2.trans (hB2x.mono (by omega))
    have hP3 := plansIn_below hB13 hP1
    have hw1 := hb1.size
    have hw3 := hB13.size
    have hBw : Below w.heap.size w W3 := hb1.trans (hB13.mono hw1)
    generalize hz0 : idx (fun k => (D k).has) n = z0
    have HZ0 : Hid _ := hz0
    clear hz0 hB2 hcd2 hs2' hB2x hB13 hP1 hb1 hr1
    go_wp2_with fail
    refine (build_any (some ⟨w.heap.size, 0, none⟩) c n D W3 (by omega) (plansIn_front hP3 (by omega))).mono ?_
    rintro e w4 ⟨rfl, ⟨R4, hR4, hRD4⟩, hb4, hs4⟩
    go_wp2_with fail
    generalize hW4 : w4.alloc _ = W4
    have hB4 : Below W3.heap.size W3 W4 := by rw [← hW4]; exact hb4.alloc (by omega) _
    have hs4' : W3.heap.size < W4.heap.size := by rw [← hW4]; simp; omega
    have hR4' : Row8 W4 W3.heap.size c D R4 := by rw [← hW4]; exact row8_below ((Below.refl _ _).alloc (Nat.le_refl _) _) hs4 hR4
    have hcd4 : W4.cell? ⟨w4.heap.size, 2, none⟩ = some (.slice (some ⟨W3.heap.size, 0, none⟩) c c) := by rw [← hW4, new_cell]; rfl
    clear hW4 hs4 hR4 hb4
    have hP4 := plansIn_below hB4 hP3
    have hr4 : Row10 W4 w.heap.size 0 n D := by
      rcases hP4 with h | ⟨b', off', h1, h2⟩
      · omega
      · simp only [Option.some.injEq, Addr.mk.injEq, and_true] at h1; obtain ⟨rfl, rfl⟩ := h1; exact h2
    refine (build_any (some ⟨w.heap.size, c * 10, none⟩) (n - c) _ (fun k => D (c + k)) W4 (by omega) (.inr ⟨_, _, rfl, row10_back hr4⟩)).mono ?_
    rintro e w6 ⟨rfl, ⟨R6, hR6, hRD6⟩, hb6, hs6⟩
    go_wp2_with fail
    generalize hW6 : w6.alloc _ = W6
    have hB6 : Below W4.heap.size W4 W6 := by rw [← hW6]; exact hb6.alloc (by omega) _
    have hs6' : W4.heap.size < W6.heap.size := by rw [← hW6]; simp; omega
    have hR6' : Row8 W6 W4.heap.size (n - c) (fun k => D (c + k)) R6 := by rw [← hW6]; exact row8_below ((Below.refl _ _).alloc (Nat.le_refl _) _) hs6 hR6
    have hcd6 : W6.cell? ⟨w6.heap.size, 2, none⟩ = some (.slice (some ⟨W4.heap.size, 0, none⟩) (n - c) (n - c)) := by rw [← hW6, new_cell]; rfl
    clear hW6 hs6 hR6 hb6
    have hlt6 : W3.heap.size < W6.heap.size := Nat.lt_of_lt_of_le hs4' hB6.size
    have hR4a := row8_below hB6 hs4' hR4'
    have hcd4a : W6.cell? ⟨w4.heap.size, 2, none⟩ = _ := (hB6.cell (World.block_lt_of_cell? W4 _ hcd4)).trans hcd4
    have k4 := cell_regrown hcd4a
    have c20 := q20 W6 w4.heap.size W3.heap.size c D R4 (by omega) hlt6 hcd4a hR4a
    have c19 := q19 W6 W3.heap.size c (fun k => (R4 k).isSome) (by omega)
    have hidx := idx_congr hRD4
    simp only [hidx] at c20 c19
    clear hidx hRD4 hR4' hR4a hcd4
    refine wp_region_quiet_below (by kernel_rfl) (by kernel_rfl) ?_
    repeat (go_big_quiet_step (first | (go_at_call 20; exact c20 _ _) | (go_at_call 19; exact c19 _ _)))
    refine wpQuiet_nil ?_
    intro _ hw'
    obtain ⟨⟨dq, osq⟩, hw''⟩ := hw'
    subst hw''
    have hB6x := below_regrown W6 dq osq
    generalize Go.Sort.grow (redrawn W6 dq) osq = W7 at hB6x ⊢
    clear c20 c19 k4 hcd4a
    go_wp2_with fail
    have hlt7 : W4.heap.size < W7.heap.size := Nat.lt_of_lt_of_le hs6' hB6x.size
    have hR6a := row8_below hB6x hs6' hR6'
    have hcd6a : W7.cell? ⟨w6.heap.size, 2, none⟩ = _ := (hB6x.cell (World.block_lt_of_cell? W6 _ hcd6)).trans hcd6
    have k6 := cell_regrown hcd6a
    have c20 := q20 W7 w6.heap.size W4.heap.size (n - c) (fun k => D (c + k)) R6 (by omega) hlt7 hcd6a hR6a
    have c19 := q19 W7 W4.heap.size (n - c) (fun k => (R6 k).isSome) (by omega)
    have hidx := idx_congr hRD6
    simp only [hidx] at c20 c19
    clear hidx hRD6 hR6' hR6a hcd6
    refine wp_region_quiet_below (by kernel_rfl) (by kernel_rfl) ?_
    repeat (go_big_quiet_step (first | (go_at_call 20; exact c20 _ _) | (go_at_call 19; exact c19 _ _)))
    refine wpQuiet_nil ?_
    intro _ hw'
    obtain ⟨⟨dq, osq⟩, hw''⟩ := hw'
    subst hw''
    have hB7x := below_regrown W7 dq osq
    generalize Go.Sort.grow (redrawn W7 dq) osq = W8 at hB7x ⊢
    clear c20 c19 k6 hcd6a
    have hend : Below w.heap.size w W8 := hBw.trans ((hB4.mono (by omega)).trans ((hB6.mono (by omega)).trans ((hB6x.mono (by omega)).trans (hB7x.mono (by omega)))))
    have hsp := idx_split (fun k => (D k).has) n c (by omega) (by omega)
    have hzb := idx_ge (fun k => (D (c + k)).has) (n - c)
    rw [HZ0.out] at hsp
    clear HZ0 hB4 hB6 hB6x hB7x hBw hP3 hP4 hr4
    generalize idx (fun k => (D k).has) c = zf at hsp ⊢
    generalize idx (fun k => (D (c + k)).has) (n - c) = zb at hsp hzb ⊢
    rcases hsp with ⟨h1, h2⟩ | ⟨h1, h2, h3, h4⟩ | ⟨h1, h2, h3⟩
    · subst h2
      have hzb2 : (zb == -2) = false := beq_eq_false_iff_ne.2 (by omega)
      go_wp2
      go_ret
      exact ⟨rfl, hend⟩
    · subst h4
      subst h1
      go_wp2
      go_ret
      exact ⟨rfl, hend⟩
    · subst h3
      subst h1
      subst h2
      go_wp2
      go_ret
      exact ⟨rfl, hend⟩

set_option maxHeartbeats 2000000 in
set_option maxRecDepth 100000 in
theorem law6_some_eq (b off n cap : Nat) (D : Nat → PlanD) (hn : n ≤ 4096)  (w : World) (hD : Row10 w b off n D) :
    Calls Try.prog 6 #[.slice (some ⟨b, off, none⟩) n cap, .int .i64 n] w fun e w' => e = .returned (.bool true) ∧ Below w.heap.size w w' := by
  go_enter Try.func6, Try.ntmps6
  go_wp2_with fail
  refine (bytes16_some b off n cap D n w (by omega) hD).mono ?_
  rintro e w1 ⟨h | ⟨h, hsz⟩, hw⟩
  · rw [h, hw]
    clear h hw
    go_wp2
    go_ret
    exact ⟨rfl, Below.refl _ _⟩
  rw [h, hw]
  clear h hw
  go_wp2
  go_loop [5, 6] (fun t i => ∃ (k : Nat) (z : Int), k ≤ n ∧ 0 ≤ z ∧ z ≤ 1048576 ∧ i = .int .i64 k ∧ t = .int .i64 z) (fun _ i => n - (intOf i).toNat)
  case atStart => exact ⟨0, 0, Nat.zero_le _, by omega, by omega, rfl, rfl⟩
  obtain ⟨k, z, hk, hz, hz2, rfl, rfl⟩ := hrel
  by_cases hlt : k < n
  · have hc := id_cell (hD k hlt)
    have hs := hsz k hlt
    clear hD hsz
    go_wp2
    · go_ret
      exact ⟨rfl, Below.refl _ _⟩
    · go_round
      case rel => exact ⟨k + 1, _, by omega, by omega, by assumption, by go_num, rfl⟩
      case measure => simp [intOf]; omega
  clear hsz
  go_wp2_with fail
  refine (clone_some b off n cap D w hn hD).mono ?_
  rintro e w1 ⟨rfl, hr1, hb1⟩
  have hP1 : PlansIn w1 (some ⟨w.heap.size, 0, none⟩) n D := .inr ⟨_, _, rfl, hr1⟩
  clear hD
  go_wp2
  go_loop [7, 8] (fun t i => ∃ (k : Nat) (z : Int), k ≤ n ∧ i = .int .i64 ((k : Int) - 1) ∧ t = .int .i64 z ∧ Want (fun k => (D k).has) k n z) (fun _ i => (intOf i + 1).toNat)
  case atStart => exact ⟨n, -1, Nat.le_refl _, rfl, rfl, .inl ⟨rfl, fun j hj hj2 => absurd hj2 (by omega)⟩⟩
  obtain ⟨k, z, hk2, rfl, rfl, hwant⟩ := hrel
  have HW : Hid (Want (fun k => (D k).has) k n z) := hwant
  clear hwant
  cases k with
  | succ k =>
    have hc := has_cell (hr1 k (by omega))
    rw [Nat.zero_add] at hc
    clear hr1 hP1
    cases hh : (D k).has
    · go_wp2
      go_round
      case rel => exact ⟨k, z, by omega, by go_num, rfl, HW.out.step_no hh⟩
      case measure => simp [intOf]
    · go_wp2
      go_round
      case rel => exact ⟨k, k, by omega, by go_num, by go_num, Want.step_yes (by omega) hh⟩
      case measure => simp [intOf]
  | zero =>
    obtain rfl := HW.out.idx
    clear HW
    go_wp2_with fail
    refine (build_any (some ⟨w.heap.size, 0, none⟩) n n D w1 hn hP1).mono ?_
    rintro e w2 ⟨rfl, ⟨R, hR, hRD⟩, hb2, hs2⟩
    go_wp2_with fail
    generalize hW2 : w2.alloc _ = W2
    have hB2 : Below w1.heap.size w1 W2 := by rw [← hW2]; exact hb2.alloc (by omega) _
    have hs2' : w1.heap.size < W2.heap.size := by rw [← hW2]; simp; omega
    have hR2' : Row8 W2 w1.heap.size n D R := by rw [← hW2]; exact row8_below ((Below.refl _ _).alloc (Nat.le_refl _) _) hs2 hR
    have hcd2 : W2.cell? ⟨w2.heap.size, 2, none⟩ = some (.slice (some ⟨w1.heap.size, 0, none⟩) n n) := by rw [← hW2, new_cell]; rfl
    clear hW2 hs2 hR hb2
    have k2 := cell_regrown hcd2
    have c20 := q20 W2 w2.heap.size w1.heap.size n D R hn hs2' hcd2 hR2'
    have c19 := q19 W2 w1.heap.size n (fun k => (R k).isSome) hn
    have hidx := idx_congr hRD
    simp only [hidx] at c20 c19
    clear hidx hRD hR2'
    refine wp_region_quiet_below (by kernel_rfl) (by kernel_rfl) ?_
    repeat (go_big_quiet_step (first | (go_at_call 20; exact c20 _ _) | (go_at_call 19; exact c19 _ _)))
    refine wpQuiet_nil ?_
    intro _ hw'
    obtain ⟨⟨dq, osq⟩, hw''⟩ := hw'
    subst hw''
    have hB2x := below_regrown W2 dq osq
    generalize Go.Sort.grow (redrawn W2 dq) osq = W3 at hB2x ⊢
    clear c20 c19 k2
    have hB13 : Below w1.heap.size w1 W3 := hB2.trans (hB2x.mono (by omega))
    have hP3 := plansIn_below hB13 hP1
    have hw1 := hb1.size
    have hw3 := hB13.size
    have hBw : Below w.heap.size w W3 := hb1.trans (hB13.mono hw1)
    generalize hz0 : idx (fun k => (D k).has) n = z0
    have HZ0 : Hid _ := hz0
    clear hz0 hB2 hcd2 hs2' hB2x hB13 hP1 hb1 hr1
    go_wp2_with fail
    refine (build_any (some ⟨w.heap.size, 0, none⟩) n n D W3 (by omega) (plansIn_front hP3 (by omega))).mono ?_
    rintro e w4 ⟨rfl, ⟨R4, hR4, hRD4⟩, hb4, hs4⟩
    go_wp2_with fail
    generalize hW4 : w4.alloc _ = W4
    have hB4 : Below W3.heap.size W3 W4 := by rw [← hW4]; exact hb4.alloc (by omega) _
    have hs4' : W3.heap.size < W4.heap.size := by rw [← hW4]; simp; omega
    have hR4' : Row8 W4 W3.heap.size n D R4 := by rw [← hW4]; exact row8_below ((Below.refl _ _).alloc (Nat.le_refl _) _) hs4 hR4
    have hcd4 : W4.cell? ⟨w4.heap.size, 2, none⟩ = some (.slice (some ⟨W3.heap.size, 0, none⟩) n n) := by rw [← hW4, new_cell]; rfl
    clear hW4 hs4 hR4 hb4
    have hP4 := plansIn_below hB4 hP3
    refine (build_any _ 0 _ (fun k => D (n + k)) W4 (by omega) (.inl rfl)).mono ?_
    rintro e w6 ⟨rfl, ⟨R6, hR6, hRD6⟩, hb6, hs6⟩
    go_wp2_with fail
    generalize hW6 : w6.alloc _ = W6
    have hB6 : Below W4.heap.size W4 W6 := by rw [← hW6]; exact hb6.alloc (by omega) _
    have hs6' : W4.heap.size < W6.heap.size := by rw [← hW6]; simp; omega
    have hR6' : Row8 W6 W4.heap.size 0 (fun k => D (n + k)) R6 := by rw [← hW6]; exact row8_below ((Below.refl _ _).alloc (Nat.le_refl _) _) hs6 hR6
    have hcd6 : W6.cell? ⟨w6.heap.size, 2, none⟩ = some (.slice (some ⟨W4.heap.size, 0, none⟩) 0 0) := by rw [← hW6, new_cell]; rfl
    clear hW6 hs6 hR6 hb6
    have hlt6 : W3.heap.size < W6.heap.size := Nat.lt_of_lt_of_le hs4' hB6.size
    have hR4a := row8_below hB6 hs4' hR4'
    have hcd4a : W6.cell? ⟨w4.heap.size, 2, none⟩ = _ := (hB6.cell (World.block_lt_of_cell? W4 _ hcd4)).trans hcd4
    have k4 := cell_regrown hcd4a
    have c20 := q20 W6 w4.heap.size W3.heap.size n D R4 (by omega) hlt6 hcd4a hR4a
    have c19 := q19 W6 W3.heap.size n (fun k => (R4 k).isSome) (by omega)
    have hidx := idx_congr hRD4
    simp only [hidx] at c20 c19
    clear hidx hRD4 hR4' hR4a hcd4
    refine wp_region_quiet_below (by kernel_rfl) (by kernel_rfl) ?_
    repeat (go_big_quiet_step (first | (go_at_call 20; exact c20 _ _) | (go_at_call 19; exact c19 _ _)))
    refine wpQuiet_nil ?_
    intro _ hw'
    obtain ⟨⟨dq, osq⟩, hw''⟩ := hw'
    subst hw''
    have hB6x := below_regrown W6 dq osq
    generalize Go.Sort.grow (redrawn W6 dq) osq = W7 at hB6x ⊢
    clear c20 c19 k4 hcd4a
    go_wp2_with fail
    have hlt7 : W4.heap.size < W7.heap.size := Nat.lt_of_lt_of_le hs6' hB6x.size
    have hR6a := row8_below hB6x hs6' hR6'
    have hcd6a : W7.cell? ⟨w6.heap.size, 2, none⟩ = _ := (hB6x.cell (World.block_lt_of_cell? W6 _ hcd6)).trans hcd6
    have k6 := cell_regrown hcd6a
    have c20 := q20 W7 w6.heap.size W4.heap.size 0 (fun k => D (n + k)) R6 (by omega) hlt7 hcd6a hR6a
    have c19 := q19 W7 W4.heap.size 0 (fun k => (R6 k).isSome) (by omega)
    have hidx := idx_congr hRD6
    simp only [hidx] at c20 c19
    clear hidx hRD6 hR6' hR6a hcd6
    refine wp_region_quiet_below (by kernel_rfl) (by kernel_rfl) ?_
    repeat (go_big_quiet_step (first | (go_at_call 20; exact c20 _ _) | (go_at_call 19; exact c19 _ _)))
    refine wpQuiet_nil ?_
    intro _ hw'
    obtain ⟨⟨dq, osq⟩, hw''⟩ := hw'
    subst hw''
    have hB7x := below_regrown W7 dq osq
    generalize Go.Sort.grow (redrawn W7 dq) osq = W8 at hB7x ⊢
    clear c20 c19 k6 hcd6a
    have hend : Below w.heap.size w W8 := hBw.trans ((hB4.mono (by omega)).trans ((hB6.mono (by omega)).trans ((hB6x.mono (by omega)).trans (hB7x.mono (by omega)))))
    have hpt := idx_part (fun k => (D k).has) n
    rw [HZ0.out] at hpt ⊢
    rw [idx_zero]
    clear HZ0 hB4 hB6 hB6x hB7x hBw hP3 hP4
    rcases hpt with h1 | h1
    · go_wp2
      go_ret
      exact ⟨rfl, hend⟩
    · subst h1
      go_wp2
      go_ret
      exact ⟨rfl, hend⟩

set_option maxHeartbeats 2000000 in
set_option maxRecDepth 100000 in
theorem law6_none_out (D : Nat → PlanD) (cut : Int) (hcut : cut < 0 ∨ (0 : Int) < cut) (w : World) :
    Calls Try.prog 6 #[.slice none 0 0, .int .i64 cut] w fun e w' => e = .returned (.bool true) ∧ Below w.heap.size w w' := by
  go_enter Try.func6, Try.ntmps6
  go_wp2_with fail
  refine (bytes16_zero none 0 cut w).mono ?_
  rintro e w1 ⟨rfl, hw⟩
  rw [hw]
  clear hw
  go_wp2
  go_loop [5, 6] (fun t i => t = .int .i64 0 ∧ i = .int .i64 0) (fun _ i => (intOf i).toNat)
  case atStart => exact ⟨rfl, rfl⟩
  obtain ⟨rfl, rfl⟩ := hrel
  go_wp2_with fail
  refine (clone_nil w).mono ?_
  rintro e w1 ⟨rfl, hb1⟩
  have hP1 : PlansIn w1 none 0 D := .inl rfl
  have hz00 : Hid ((-1 : Int) = idx (fun k => (D k).has) 0) := rfl
  go_wp2
  go_loop [7, 8] (fun t i => t = .int .i64 (-1) ∧ i = .int .i64 (-1)) (fun _ i => (intOf i + 1).toNat)
  case atStart => exact ⟨rfl, rfl⟩
  obtain ⟨rfl, rfl⟩ := hrel
  go_wp2_with fail
  refine (build_any none 0 0 D w1 (by omega) hP1).mono ?_
  rintro e w2 ⟨rfl, ⟨R, hR, hRD⟩, hb2, hs2⟩
  go_wp2_with fail
  generalize hW2 : w2.alloc _ = W2
  have hB2 : Below w1.heap.size w1 W2 := by rw [← hW2]; exact hb2.alloc (by omega) _
  have hs2' : w1.heap.size < W2.heap.size := by rw [← hW2]; simp; omega
  have hR2' : Row8 W2 w1.heap.size 0 D R := by rw [← hW2]; exact row8_below ((Below.refl _ _).alloc (Nat.le_refl _) _) hs2 hR
  have hcd2 : W2.cell? ⟨w2.heap.size, 2, none⟩ = some (.slice (some ⟨w1.heap.size, 0, none⟩) 0 0) := by rw [← hW2, new_cell]; rfl
  clear hW2 hs2 hR hb2
  have k2 := cell_regrown hcd2
  have c20 := q20 W2 w2.heap.size w1.heap.size 0 D R (by omega) hs2' hcd2 hR2'
  have c19 := q19 W2 w1.heap.size 0 (fun k => (R k).isSome) (by omega)
  have hidx := idx_congr hRD
  simp only [hidx] at c20 c19
  clear hidx hRD hR2'
  refine wp_region_quiet_below (by kernel_rfl) (by kernel_rfl) ?_
  repeat (go_big_quiet_step (first | (go_at_call 20; exact c20 _ _) | (go_at_call 19; exact c19 _ _)))
  refine wpQuiet_nil ?_
  intro _ hw'
  obtain ⟨⟨dq, osq⟩, hw''⟩ := hw'
  subst hw''
  have hB2x := below_regrown W2 dq osq
  generalize Go.Sort.grow (redrawn W2 dq) osq = W3 at hB2x ⊢
  clear c20 c19 k2
  have hB13 : Below w1.heap.size w1 W3 := hB2.trans (hB2x.mono (by omega))
  have hP3 := plansIn_below hB13 hP1
  have hw1 := hb1.size
  have hw3 := hB13.size
  have hBw : Below w.heap.size w W3 := hb1.trans (hB13.mono hw1)
  generalize hz0 : idx (fun k => (D k).has) 0 = z0
  have HZ0 : Hid _ := hz0
  have hz1 : z0 = -1 := by rw [← hz0]; rfl
  subst hz1
  clear hz0 hz00 hB2 hcd2 hs2' hB2x hB13 hP1 hb1
  rcases hcut with hcut | hcut
  all_goals
    go_wp2
    go_ret
    exact ⟨rfl, hBw⟩

set_option maxHeartbeats 2000000 in
set_option maxRecDepth 100000 in
theorem law6_none_eq (D : Nat → PlanD)  (w : World) :
    Calls Try.prog 6 #[.slice none 0 0, .int .i64 0] w fun e w' => e = .returned (.bool true) ∧ Below w.heap.size w w' := by
  go_enter Try.func6, Try.ntmps6
  go_wp2_with fail
  refine (bytes16_zero none 0 0 w).mono ?_
  rintro e w1 ⟨rfl, hw⟩
  rw [hw]
  clear hw
  go_wp2
  go_loop [5, 6] (fun t i => t = .int .i64 0 ∧ i = .int .i64 0) (fun _ i => (intOf i).toNat)
  case atStart => exact ⟨rfl, rfl⟩
  obtain ⟨rfl, rfl⟩ := hrel
  go_wp2_with fail
  refine (clone_nil w).mono ?_
  rintro e w1 ⟨rfl, hb1⟩
  have hP1 : PlansIn w1 none 0 D := .inl rfl
  have hz00 : Hid ((-1 : Int) = idx (fun k => (D k).has) 0) := rfl
  go_wp2
  go_loop [7, 8] (fun t i => t = .int .i64 (-1) ∧ i = .int .i64 (-1)) (fun _ i => (intOf i + 1).toNat)
  case atStart => exact ⟨rfl, rfl⟩
  obtain ⟨rfl, rfl⟩ := hrel
  go_wp2_with fail
  refine (build_any none 0 0 D w1 (by omega) hP1).mono ?_
  rintro e w2 ⟨rfl, ⟨R, hR, hRD⟩, hb2, hs2⟩
  go_wp2_with fail
  generalize hW2 : w2.alloc _ = W2
  have hB2 : Below w1.heap.size w1 W2 := by rw [← hW2]; exact hb2.alloc (by omega) _
  have hs2' : w1.heap.size < W2.heap.size := by rw [← hW2]; simp; omega
  have hR2' : Row8 W2 w1.heap.size 0 D R := by rw [← hW2]; exact row8_below ((Below.refl _ _).alloc (Nat.le_refl _) _) hs2 hR
  have hcd2 : W2.cell? ⟨w2.heap.size, 2, none⟩ = some (.slice (some ⟨w1.heap.size, 0, none⟩) 0 0) := by rw [← hW2, new_cell]; rfl
  clear hW2 hs2 hR hb2
  have k2 := cell_regrown hcd2
  have c20 := q20 W2 w2.heap.size w1.heap.size 0 D R (by omega) hs2' hcd2 hR2'
  have c19 := q19 W2 w1.heap.size 0 (fun k => (R k).isSome) (by omega)
  have hidx := idx_congr hRD
  simp only [hidx] at c20 c19
  clear hidx hRD hR2'
  refine wp_region_quiet_below (by kernel_rfl) (by kernel_rfl) ?_
  repeat (go_big_quiet_step (first | (go_at_call 20; exact c20 _ _) | (go_at_call 19; exact c19 _ _)))
  refine wpQuiet_nil ?_
  intro _ hw'
  obtain ⟨⟨dq, osq⟩, hw''⟩ := hw'
  subst hw''
  have hB2x := below_regrown W2 dq osq
  generalize Go.Sort.grow (redrawn W2 dq) osq = W3 at hB2x ⊢
  clear c20 c19 k2
  have hB13 : Below w1.heap.size w1 W3 := hB2.trans (hB2x.mono (by omega))
  have hP3 := plansIn_below hB13 hP1
  have hw1 := hb1.size
  have hw3 := hB13.size
  have hBw : Below w.heap.size w W3 := hb1.trans (hB13.mono hw1)
  generalize hz0 : idx (fun k => (D k).has) 0 = z0
  have HZ0 : Hid _ := hz0
  have hz1 : z0 = -1 := by rw [← hz0]; rfl
  subst hz1
  clear hz0 hz00 hB2 hcd2 hs2' hB2x hB13 hP1 hb1
  go_wp2_with fail
  refine (build_any none 0 0 D W3 (by omega) (plansIn_front hP3 (by omega))).mono ?_
  rintro e w4 ⟨rfl, ⟨R4, hR4, hRD4⟩, hb4, hs4⟩
  go_wp2_with fail
  generalize hW4 : w4.alloc _ = W4
  have hB4 : Below W3.heap.size W3 W4 := by rw [← hW4]; exact hb4.alloc (by omega) _
  have hs4' : W3.heap.size < W4.heap.size := by rw [← hW4]; simp; omega
  have hR4' : Row8 W4 W3.heap.size 0 D R4 := by rw [← hW4]; exact row8_below ((Below.refl _ _).alloc (Nat.le_refl _) _) hs4 hR4
  have hcd4 : W4.cell? ⟨w4.heap.size, 2, none⟩ = some (.slice (some ⟨W3.heap.size, 0, none⟩) 0 0) := by rw [← hW4, new_cell]; rfl
  clear hW4 hs4 hR4 hb4
  have hP4 := plansIn_below hB4 hP3
  refine (build_any _ 0 _ (fun k => D (0 + k)) W4 (by omega) (.inl rfl)).mono ?_
  rintro e w6 ⟨rfl, ⟨R6, hR6, hRD6⟩, hb6, hs6⟩
  go_wp2_with fail
  generalize hW6 : w6.alloc _ = W6
  have hB6 : Below W4.heap.size W4 W6 := by rw [← hW6]; exact hb6.alloc (by omega) _
  have hs6' : W4.heap.size < W6.heap.size := by rw [← hW6]; simp; omega
  have hR6' : Row8 W6 W4.heap.size 0 (fun k => D (0 + k)) R6 := by rw [← hW6]; exact row8_below ((Below.refl _ _).alloc (Nat.le_refl _) _) hs6 hR6
  have hcd6 : W6.cell? ⟨w6.heap.size, 2, none⟩ = some (.slice (some ⟨W4.heap.size, 0, none⟩) 0 0) := by rw [← hW6, new_cell]; rfl
  clear hW6 hs6 hR6 hb6
  have hlt6 : W3.heap.size < W6.heap.size := Nat.lt_of_lt_of_le hs4' hB6.size
  have hR4a := row8_below hB6 hs4' hR4'
  have hcd4a : W6.cell? ⟨w4.heap.size, 2, none⟩ = _ := (hB6.cell (World.block_lt_of_cell? W4 _ hcd4)).trans hcd4
  have k4 := cell_regrown hcd4a
  have c20 := q20 W6 w4.heap.size W3.heap.size 0 D R4 (by omega) hlt6 hcd4a hR4a
  have c19 := q19 W6 W3.heap.size 0 (fun k => (R4 k).isSome) (by omega)
  have hidx := idx_congr hRD4
  simp only [hidx] at c20 c19
  clear hidx hRD4 hR4' hR4a hcd4
  refine wp_region_quiet_below (by kernel_rfl) (by kernel_rfl) ?_
  repeat (go_big_quiet_step (first | (go_at_call 20; exact c20 _ _) | (go_at_call 19; exact c19 _ _)))
  refine wpQuiet_nil ?_
  intro _ hw'
  obtain ⟨⟨dq, osq⟩, hw''⟩ := hw'
  subst hw''
  have hB6x := below_regrown W6 dq osq
  generalize Go.Sort.grow (redrawn W6 dq) osq = W7 at hB6x ⊢
  clear c20 c19 k4 hcd4a
  go_wp2_with fail
  have hlt7 : W4.heap.size < W7.heap.size := Nat.lt_of_lt_of_le hs6' hB6x.size
  have hR6a := row8_below hB6x hs6' hR6'
  have hcd6a : W7.cell? ⟨w6.heap.size, 2, none⟩ = _ := (hB6x.cell (World.block_lt_of_cell? W6 _ hcd6)).trans hcd6
  have k6 := cell_regrown hcd6a
  have c20 := q20 W7 w6.heap.size W4.heap.size 0 (fun k => D (0 + k)) R6 (by omega) hlt7 hcd6a hR6a
  have c19 := q19 W7 W4.heap.size 0 (fun k => (R6 k).isSome) (by omega)
  have hidx := idx_congr hRD6
  simp only [hidx] at c20 c19
  clear hidx hRD6 hR6' hR6a hcd6
  refine wp_region_quiet_below (by kernel_rfl) (by kernel_rfl) ?_
  repeat (go_big_quiet_step (first | (go_at_call 20; exact c20 _ _) | (go_at_call 19; exact c19 _ _)))
  refine wpQuiet_nil ?_
  intro _ hw'
  obtain ⟨⟨dq, osq⟩, hw''⟩ := hw'
  subst hw''
  have hB7x := below_regrown W7 dq osq
  generalize Go.Sort.grow (redrawn W7 dq) osq = W8 at hB7x ⊢
  clear c20 c19 k6 hcd6a
  have hend : Below w.heap.size w W8 := hBw.trans ((hB4.mono (by omega)).trans ((hB6.mono (by omega)).trans ((hB6x.mono (by omega)).trans (hB7x.mono (by omega)))))
  simp only [idx_zero]
  clear HZ0 hB4 hB6 hB6x hB7x hBw hP3 hP4
  go_wp2
  go_ret
  exact ⟨rfl, hend⟩

set_option maxHeartbeats 2000000 in
set_option maxRecDepth 100000 in
theorem law6_zero_out (a : Addr) (cap : Nat) (D : Nat → PlanD) (cut : Int) (hcut : cut < 0 ∨ (0 : Int) < cut) (w : World) :
    Calls Try.prog 6 #[.slice (some a) 0 cap, .int .i64 cut] w fun e w' => e = .returned (.bool true) ∧ Below w.heap.size w w' := by
  go_enter Try.func6, Try.ntmps6
  go_wp2_with fail
  refine (bytes16_zero (some a) cap cut w).mono ?_
  rintro e w1 ⟨rfl, hw⟩
  rw [hw]
  clear hw
  go_wp2
  go_loop [5, 6] (fun t i => t = .int .i64 0 ∧ i = .int .i64 0) (fun _ i => (intOf i).toNat)
  case atStart => exact ⟨rfl, rfl⟩
  obtain ⟨rfl, rfl⟩ := hrel
  go_wp2_with fail
  refine (clone_zero a cap w).mono ?_
  rintro e w1 ⟨rfl, hb1⟩
  have hP1 : PlansIn w1 (some ⟨w.heap.size, 0, none⟩) 0 D := .inl rfl
  have hz00 : Hid ((-1 : Int) = idx (fun k => (D k).has) 0) := rfl
  go_wp2
  go_loop [7, 8] (fun t i => t = .int .i64 (-1) ∧ i = .int .i64 (-1)) (fun _ i => (intOf i + 1).toNat)
  case atStart => exact ⟨rfl, rfl⟩
  obtain ⟨rfl, rfl⟩ := hrel
  go_wp2_with fail
  refine (build_any (some ⟨w.heap.size, 0, none⟩) 0 0 D w1 (by omega) hP1).mono ?_
  rintro e w2 ⟨rfl, ⟨R, hR, hRD⟩, hb2, hs2⟩
  go_wp2_with fail
  generalize hW2 : w2.alloc _ = W2
  have hB2 : Below w1.heap.size w1 W2 := by rw [← hW2]; exact hb2.alloc (by omega) _
  have hs2' : w1.heap.size < W2.heap.size := by rw [← hW2]; simp; omega
  have hR2' : Row8 W2 w1.heap.size 0 D R := by rw [← hW2]; exact row8_below ((Below.refl _ _).alloc (Nat.le_refl _) _) hs2 hR
  have hcd2 : W2.cell? ⟨w2.heap.size, 2, none⟩ = some (.slice (some ⟨w1.heap.size, 0, none⟩) 0 0) := by rw [← hW2, new_cell]; rfl
  clear hW2 hs2 hR hb2
  have k2 := cell_regrown hcd2
  have c20 := q20 W2 w2.heap.size w1.heap.size 0 D R (by omega) hs2' hcd2 hR2'
  have c19 := q19 W2 w1.heap.size 0 (fun k => (R k).isSome) (by omega)
  have hidx := idx_congr hRD
  simp only [hidx] at c20 c19
  clear hidx hRD hR2'
  refine wp_region_quiet_below (by kernel_rfl) (by kernel_rfl) ?_
  repeat (go_big_quiet_step (first | (go_at_call 20; exact c20 _ _) | (go_at_call 19; exact c19 _ _)))
  refine wpQuiet_nil ?_
  intro _ hw'
  obtain ⟨⟨dq, osq⟩, hw''⟩ := hw'
  subst hw''
  have hB2x := below_regrown W2 dq osq
  generalize Go.Sort.grow (redrawn W2 dq) osq = W3 at hB2x ⊢
  clear c20 c19 k2
  have hB13 : Below w1.heap.size w1 W3 := hB2.trans (hB2x.mono (by omega))
  have hP3 := plansIn_below hB13 hP1
  have hw1 := hb1.size
  have hw3 := hB13.size
  have hBw : Below w.heap.size w W3 := hb1.trans (hB13.mono hw1)
  generalize hz0 : idx (fun k => (D k).has) 0 = z0
  have HZ0 : Hid _ := hz0
  have hz1 : z0 = -1 := by rw [← hz0]; rfl
  subst hz1
  clear hz0 hz00 hB2 hcd2 hs2' hB2x hB13 hP1 hb1
  rcases hcut with hcut | hcut
  all_goals
    go_wp2
    go_ret
    exact ⟨rfl, hBw⟩

set_option maxHeartbeats 2000000 in
set_option maxRecDepth 100000 in
theorem law6_zero_eq (a : Addr) (cap : Nat) (D : Nat → PlanD)  (w : World) :
    Calls Try.prog 6 #[.slice (some a) 0 cap, .int .i64 0] w fun e w' => e = .returned (.bool true) ∧ Below w.heap.size w w' := by
  go_enter Try.func6, Try.ntmps6
  go_wp2_with fail
  refine (bytes16_zero (some a) cap 0 w).mono ?_
  rintro e w1 ⟨rfl, hw⟩
  rw [hw]
  clear hw
  go_wp2
  go_loop [5, 6] (fun t i => t = .int .i64 0 ∧ i = .int .i64 0) (fun _ i => (intOf i).toNat)
  case atStart => exact ⟨rfl, rfl⟩
  obtain ⟨rfl, rfl⟩ := hrel
  go_wp2_with fail
  refine (clone_zero a cap w).mono ?_
  rintro e w1 ⟨rfl, hb1⟩
  have hP1 : PlansIn w1 (some ⟨w.heap.size, 0, none⟩) 0 D := .inl rfl
  have hz00 : Hid ((-1 : Int) = idx (fun k => (D k).has) 0) := rfl
  go_wp2
  go_loop [7, 8] (fun t i => t = .int .i64 (-1) ∧ i = .int .i64 (-1)) (fun _ i => (intOf i + 1).toNat)
  case atStart => exact ⟨rfl, rfl⟩
  obtain ⟨rfl, rfl⟩ := hrel
  go_wp2_with fail
  refine (build_any (some ⟨w.heap.size, 0, none⟩) 0 0 D w1 (by omega) hP1).mono ?_
  rintro e w2 ⟨rfl, ⟨R, hR, hRD⟩, hb2, hs2⟩
  go_wp2_with fail
  generalize hW2 : w2.alloc _ = W2
  have hB2 : Below w1.heap.size w1 W2 := by rw [← hW2]; exact hb2.alloc (by omega) _
  have hs2' : w1.heap.size < W2.heap.size := by rw [← hW2]; simp; omega
  have hR2' : Row8 W2 w1.heap.size 0 D R := by rw [← hW2]; exact row8_below ((Below.refl _ _).alloc (Nat.le_refl _) _) hs2 hR
  have hcd2 : W2.cell? ⟨w2.heap.size, 2, none⟩ = some (.slice (some ⟨w1.heap.size, 0, none⟩) 0 0) := by rw [← hW2, new_cell]; rfl
  clear hW2 hs2 hR hb2
  have k2 := cell_regrown hcd2
  have c20 := q20 W2 w2.heap.size w1.heap.size 0 D R (by omega) hs2' hcd2 hR2'
  have c19 := q19 W2 w1.heap.size 0 (fun k => (R k).isSome) (by omega)
  have hidx := idx_congr hRD
  simp only [hidx] at c20 c19
  clear hidx hRD hR2'
  refine wp_region_quiet_below (by kernel_rfl) (by kernel_rfl) ?_
  repeat (go_big_quiet_step (first | (go_at_call 20; exact c20 _ _) | (go_at_call 19; exact c19 _ _)))
  refine wpQuiet_nil ?_
  intro _ hw'
  obtain ⟨⟨dq, osq⟩, hw''⟩ := hw'
  subst hw''
  have hB2x := below_regrown W2 dq osq
  generalize Go.Sort.grow (redrawn W2 dq) osq = W3 at hB2x ⊢
  clear c20 c19 k2
  have hB13 : Below w1.heap.size w1 W3 := hB2.trans (hB2x.mono (by omega))
  have hP3 := plansIn_below hB13 hP1
  have hw1 := hb1.size
  have hw3 := hB13.size
  have hBw : Below w.heap.size w W3 := hb1.trans (hB13.mono hw1)
  generalize hz0 : idx (fun k => (D k).has) 0 = z0
  have HZ0 : Hid _ := hz0
  have hz1 : z0 = -1 := by rw [← hz0]; rfl
  subst hz1
  clear hz0 hz00 hB2 hcd2 hs2' hB2x hB13 hP1 hb1
  go_wp2_with fail
  refine (build_any (some ⟨w.heap.size, 0, none⟩) 0 0 D W3 (by omega) (plansIn_front hP3 (by omega))).mono ?_
  rintro e w4 ⟨rfl, ⟨R4, hR4, hRD4⟩, hb4, hs4⟩
  go_wp2_with fail
  generalize hW4 : w4.alloc _ = W4
  have hB4 : Below W3.heap.size W3 W4 := by rw [← hW4]; exact hb4.alloc (by omega) _
  have hs4' : W3.heap.size < W4.heap.size := by rw [← hW4]; simp; omega
  have hR4' : Row8 W4 W3.heap.size 0 D R4 := by rw [← hW4]; exact row8_below ((Below.refl _ _).alloc (Nat.le_refl _) _) hs4 hR4
  have hcd4 : W4.cell? ⟨w4.heap.size, 2, none⟩ = some (.slice (some ⟨W3.heap.size, 0, none⟩) 0 0) := by rw [← hW4, new_cell]; rfl
  clear hW4 hs4 hR4 hb4
  have hP4 := plansIn_below hB4 hP3
  refine (build_any _ 0 _ (fun k => D (0 + k)) W4 (by omega) (.inl rfl)).mono ?_
  rintro e w6 ⟨rfl, ⟨R6, hR6, hRD6⟩, hb6, hs6⟩
  go_wp2_with fail
  generalize hW6 : w6.alloc _ = W6
  have hB6 : Below W4.heap.size W4 W6 := by rw [← hW6]; exact hb6.alloc (by omega) _
  have hs6' : W4.heap.size < W6.heap.size := by rw [← hW6]; simp; omega
  have hR6' : Row8 W6 W4.heap.size 0 (fun k => D (0 + k)) R6 := by rw [← hW6]; exact row8_below ((Below.refl _ _).alloc (Nat.le_refl _) _) hs6 hR6
  have hcd6 : W6.cell? ⟨w6.heap.size, 2, none⟩ = some (.slice (some ⟨W4.heap.size, 0, none⟩) 0 0) := by rw [← hW6, new_cell]; rfl
  clear hW6 hs6 hR6 hb6
  have hlt6 : W3.heap.size < W6.heap.size := Nat.lt_of_lt_of_le hs4' hB6.size
  have hR4a := row8_below hB6 hs4' hR4'
  have hcd4a : W6.cell? ⟨w4.heap.size, 2, none⟩ = _ := (hB6.cell (World.block_lt_of_cell? W4 _ hcd4)).trans hcd4
  have k4 := cell_regrown hcd4a
  have c20 := q20 W6 w4.heap.size W3.heap.size 0 D R4 (by omega) hlt6 hcd4a hR4a
  have c19 := q19 W6 W3.heap.size 0 (fun k => (R4 k).isSome) (by omega)
  have hidx := idx_congr hRD4
  simp only [hidx] at c20 c19
  clear hidx hRD4 hR4' hR4a hcd4
  refine wp_region_quiet_below (by kernel_rfl) (by kernel_rfl) ?_
  repeat (go_big_quiet_step (first | (go_at_call 20; exact c20 _ _) | (go_at_call 19; exact c19 _ _)))
  refine wpQuiet_nil ?_
  intro _ hw'
  obtain ⟨⟨dq, osq⟩, hw''⟩ := hw'
  subst hw''
  have hB6x := below_regrown W6 dq osq
  generalize Go.Sort.grow (redrawn W6 dq) osq = W7 at hB6x ⊢
  clear c20 c19 k4 hcd4a
  go_wp2_with fail
  have hlt7 : W4.heap.size < W7.heap.size := Nat.lt_of_lt_of_le hs6' hB6x.size
  have hR6a := row8_below hB6x hs6' hR6'
  have hcd6a : W7.cell? ⟨w6.heap.size, 2, none⟩ = _ := (hB6x.cell (World.block_lt_of_cell? W6 _ hcd6)).trans hcd6
  have k6 := cell_regrown hcd6a
  have c20 := q20 W7 w6.heap.size W4.heap.size 0 (fun k => D (0 + k)) R6 (by omega) hlt7 hcd6a hR6a
  have c19 := q19 W7 W4.heap.size 0 (fun k => (R6 k).isSome) (by omega)
  have hidx := idx_congr hRD6
  simp only [hidx] at c20 c19
  clear hidx hRD6 hR6' hR6a hcd6
  refine wp_region_quiet_below (by kernel_rfl) (by kernel_rfl) ?_
  repeat (go_big_quiet_step (first | (go_at_call 20; exact c20 _ _) | (go_at_call 19; exact c19 _ _)))
  refine wpQuiet_nil ?_
  intro _ hw'
  obtain ⟨⟨dq, osq⟩, hw''⟩ := hw'
  subst hw''
  have hB7x := below_regrown W7 dq osq
  generalize Go.Sort.grow (redrawn W7 dq) osq = W8 at hB7x ⊢
  clear c20 c19 k6 hcd6a
  have hend : Below w.heap.size w W8 := hBw.trans ((hB4.mono (by omega)).trans ((hB6.mono (by omega)).trans ((hB6x.mono (by omega)).trans (hB7x.mono (by omega)))))
  simp only [idx_zero]
  clear HZ0 hB4 hB6 hB6x hB7x hBw hP3 hP4
  go_wp2
  go_ret
  exact ⟨rfl, hend⟩

end Go.Proofs.Qxb6608960a.Plans
