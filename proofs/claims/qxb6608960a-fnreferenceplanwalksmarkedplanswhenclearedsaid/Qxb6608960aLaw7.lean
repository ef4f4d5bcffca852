import Derived.Test.Qxb6608960aFind
import Derived.Test.Qxb6608960aBytes
namespace Go.Proofs.Qxb6608960a.Plans
open Go.RowKit

/-- What holds while the marks are cleared one after another: those below x are gone. -/
structure Inv7 (w : World) (cb b bd n : Nat) (D : Nat → PlanD) (x : Nat) (wr : World) : Prop where
  rows : ∃ R : Nat → Option Addr, Row8 wr b n D R ∧ ∀ k, k < n → (R k).isSome = (decide (x ≤ k) && (D k).has)
  doc : wr.cell? ⟨bd, 2, none⟩ = some (.slice (some ⟨b, 0, none⟩) n n)
  plans : Row10 wr cb 0 n D
  below : Below w.heap.size w wr

theorem row8_clear {w : World} {b n x : Nat} {D : Nat → PlanD} {R : Nat → Option Addr} (hx : x < n) (h : Row8 w b n D R) :
    Row8 (w.setCell ⟨b, x * 8 + 7, none⟩ (.pointer none)) b n D (fun k => if k = x then none else R k) := by
  obtain ⟨h1, h2⟩ := h
  have hold : w.cell? ⟨b, x * 8 + 7, none⟩ = some (.pointer (R x)) := h2 x hx 7 _ rfl
  refine ⟨World.there_setCells h1 b (x * 8 + 7) [.pointer none], fun k hk j v hv => ?_⟩
  have hj : j < 8 := by have := (List.getElem?_eq_some_iff.1 hv).1; rwa [PlanD.blen] at this
  by_cases e : k * 8 + j = x * 8 + 7
  · have e1 : k = x := by omega
    have e2 : j = 7 := by omega
    subst e1 e2
    rw [World.cell?_setCell_same _ _ _ hold]
    simpa [PlanD.bs] using hv
  · rw [World.cell?_setCell_other _ _ _ _ (by intro h; simp only [Addr.mk.injEq] at h; omega)]
    refine h2 k hk j v ?_
    by_cases ek : k = x
    · have : j < 7 := by omega
      simp only [ek, if_pos] at hv
      rw [ek]
      match j, this, hv with
      | 0, _, hv => exact hv
      | 1, _, hv => exact hv
      | 2, _, hv => exact hv
      | 3, _, hv => exact hv
      | 4, _, hv => exact hv
      | 5, _, hv => exact hv
      | 6, _, hv => exact hv
    · simpa only [if_neg ek] using hv

theorem row10_setCell {w : World} {b off n : Nat} {D : Nat → PlanD} (h : Row10 w b off n D) {a : Addr} (ha : a.block ≠ b) (v : Value) : Row10 (w.setCell a v) b off n D := fun k hk j u hu => by
  rw [World.cell?_setCell_other _ _ _ _ (fun e => ha (by rw [e]))]
  exact h k hk j u hu

/-- One round: the first mark at or behind x is found, and cleared. -/
theorem inv7_step {w wr w5 : World} {cb b bd n x : Nat} {D : Nat → PlanD} (hx : x < n) (hbB : w.heap.size ≤ b) (_hbd : bd ≠ b) (hcb : cb ≠ b) (hi : Inv7 w cb b bd n D x wr) (h5 : Below wr.heap.size wr w5) :
    Inv7 w cb b bd n D (x + 1) (w5.setCell ⟨b, x * 8 + 7, none⟩ (.pointer none)) := by
  obtain ⟨⟨R, hR, hm⟩, hd, hp, hb⟩ := hi
  have hblt : b < wr.heap.size := range_lt (hR.2 x hx) (by rw [PlanD.blen]; decide)
  refine ⟨⟨_, row8_clear hx (row8_below h5 hblt hR), fun k hk => ?_⟩, ?_, row10_setCell (row10_below h5 hp) (Ne.symm hcb) _, (hb.trans (h5.mono hb.size)).setCell hbB _⟩
  · by_cases e : k = x
    · subst e
      simp only [if_pos, Option.isSome_none, show ¬ k + 1 ≤ k by omega, decide_false, Bool.false_and]
    · simp only [if_neg e, hm k hk]
      congr 1
      rw [decide_eq_decide]
      omega
  · rw [World.cell?_setCell_other _ _ _ _ (by intro h; simp only [Addr.mk.injEq] at h; omega), h5.cell (World.block_lt_of_cell? wr _ hd)]
    exact hd

theorem inv7_skip {w wr : World} {cb b bd n x x' : Nat} {D : Nat → PlanD} (hi : Inv7 w cb b bd n D x wr) (h : ∀ k, x ≤ k → k < x' → (D k).has = false) (hxx : x ≤ x') : Inv7 w cb b bd n D x' wr := by
  obtain ⟨⟨R, hR, hm⟩, hd, hp, hb⟩ := hi
  refine ⟨⟨R, hR, fun k hk => ?_⟩, hd, hp, hb⟩
  rw [hm k hk]
  by_cases h1 : x ≤ k
  · by_cases h2 : x' ≤ k
    · simp [h1, h2]
    · simp [h1, h2, h k h1 (by omega)]
  · simp [h1, show ¬ x' ≤ k by omega]

set_option maxHeartbeats 2000000 in
set_option maxRecDepth 100000 in
theorem law7_some (b off n cap : Nat) (D : Nat → PlanD) (hn : n ≤ 4096) (hpos : 0 < n) (w : World) (hD : Row10 w b off n D) :
    Calls Try.prog 7 #[.slice (some ⟨b, off, none⟩) n cap] w fun e w' => e = .returned (.bool true) ∧ Below w.heap.size w w' := by
  go_enter Try.func7, Try.ntmps7
  go_wp2_with fail
  refine (bytes21_some b off n cap D w (by omega) hD).mono ?_
  rintro e w1 ⟨h | ⟨h, hsz⟩, hw⟩
  · rw [h, hw]
    clear h hw
    go_wp2
    go_ret
    exact ⟨rfl, Below.refl _ _⟩
  rw [h, hw]
  clear h hw
  go_wp2
  go_loop [3, 4] (fun t i => ∃ (k : Nat) (z : Int), k ≤ n ∧ 0 ≤ z ∧ z ≤ 1048576 ∧ i = .int .i64 k ∧ t = .int .i64 z) (fun _ i => n - (intOf i).toNat)
  case atStart => exact ⟨0, 0, Nat.zero_le _, by omega, by omega, rfl, rfl⟩
  obtain ⟨k, z, hk, hz, hz2, rfl, rfl⟩ := hrel
  by_cases hlt : k < n
  · have hc := id_cell (hD k hlt)
    have hs := hsz k hlt
    clear hD hsz
    go_wp2
    · go_ret
      exact ⟨rfl, Below.refl _ _⟩
    · go_round
      case rel => exact ⟨k + 1, _, by omega, by omega, by assumption, by go_num, rfl⟩
      case measure => simp [intOf]; omega
  clear hsz
  go_wp2_with fail
  refine (clone_some b off n cap D w hn hD).mono ?_
  rintro e w1 ⟨rfl, hr1, hb1⟩
  clear hD
  go_wp2_with fail
  refine (build_some w.heap.size 0 n n D w1 hn hr1).mono ?_
  rintro e w2 ⟨rfl, ⟨R, hR, hRD⟩, hb2, hs2⟩
  go_wp2_with fail
  generalize hW2 : w2.alloc _ = W2
  have hlt1 : w.heap.size < w1.heap.size := range_lt (hr1 0 hpos) (by rw [PlanD.len]; decide)
  have hB2 : Below w1.heap.size w1 W2 := by rw [← hW2]; exact hb2.alloc (by omega) _
  have HI : Inv7 w w.heap.size w1.heap.size w2.heap.size n D 0 W2 := by
    refine ⟨⟨R, ?_, fun k hk => by rw [hRD k hk]; simp⟩, ?_, row10_below hB2 hr1, hb1.trans (hB2.mono (by omega))⟩
    · rw [← hW2]; exact row8_below ((Below.refl _ _).alloc (Nat.le_refl _) _) hs2 hR
    · rw [← hW2, new_cell]; rfl
  clear hW2 hR hRD hb2 hB2 hb1 hr1
  go_loopw [6, 7] (fun nx st wr => ∃ x s : Nat, s ≤ x ∧ x ≤ n ∧ nx = .int .i64 x ∧ st = .int .i64 s ∧ Inv7 w w.heap.size w1.heap.size w2.heap.size n D x wr) (fun _ st _ => n + 1 - (intOf st).toNat)
  case atStart => exact ⟨0, 0, Nat.le_refl _, Nat.zero_le _, rfl, rfl, HI⟩
  obtain ⟨x, s, hsx, hxn, rfl, rfl, hinv⟩ := hrel
  clear HI
  have hplans := hinv.plans
  have HV : Hid _ := hinv
  clear hinv
  go_wp2
  go_loop [6] (fun nx => ∃ y : Nat, x ≤ y ∧ y ≤ n ∧ nx = .int .i64 y ∧ ∀ k, x ≤ k → k < y → (D k).has = false) (fun nx => n - (intOf nx).toNat)
  case atStart => exact ⟨x, Nat.le_refl _, hxn, rfl, fun k hk hk2 => absurd hk2 (by omega)⟩
  obtain ⟨y, hxy, hyn, rfl, hno⟩ := hrel
  have HN : Hid _ := hno
  clear hno
  by_cases hy : y < n
  · have hc := has_cell (hplans y hy)
    rw [Nat.zero_add] at hc
    clear hplans
    cases hh : (D y).has
    · have HN2 : Hid (∀ k, x ≤ k → k < y + 1 → (D k).has = false) := fun k hk hk2 => by
        by_cases e : k = y
        · rw [e]; exact hh
        · exact HN.out k hk (by omega)
      go_wp2
      go_round
      case rel => exact ⟨y + 1, by omega, by omega, by go_num, HN2.out⟩
      case measure => simp [intOf]; omega
    · have hI2 := inv7_skip HV.out HN.out hxy
      obtain ⟨⟨R2, hR2, hm2⟩, hd2, _, _⟩ := hI2
      have hidx : idx (fun k => (R2 k).isSome) n = y := idx_hit hy (by simp [hm2 y hy, hh]) (fun j hj => by simp [hm2 j (by omega), show ¬ y ≤ j by omega])
      have Hidx : Hid _ := hidx
      have hne : ((y : Int) == (n : Int)) = false := beq_eq_false_iff_ne.2 (by omega)
      have hlt9 : w1.heap.size < wr.heap.size := range_lt (hR2.2 y hy) (by rw [PlanD.blen]; decide)
      clear hidx
      go_wp2_with fail
      refine (zzref_any w2.heap.size w1.heap.size n D R2 wr hn hd2 hR2).mono ?_
      rintro e w5 ⟨rfl, hb5⟩
      rw [Hidx.out, refAt_some]
      have hd5 := (hb5.cell (World.block_lt_of_cell? wr _ hd2)).trans hd2
      have hR5 := row8_below hb5 hlt9 hR2
      have hc5 : w5.cell? ⟨w1.heap.size, y * 8 + 7, none⟩ = some (.pointer (R2 y)) := hR5.2 y hy 7 _ rfl
      have hf5 : w5.frozen? ⟨w1.heap.size, y * 8 + 7, none⟩ = false := by have := (hR5.1 (y * 8 + 7) (by omega)).2; rwa [Nat.zero_add] at this
      have HI3 : Hid _ := inv7_step hy (by omega) (by omega) (by omega) (inv7_skip HV.out HN.out hxy) hb5
      clear hm2 hR2 hd2 hR5
      go_wp2_with fail
      refine (place_some w1.heap.size n n y hy hn w5).mono ?_
      rintro e w6 ⟨rfl, hw6⟩
      rw [hw6]
      clear hw6
      go_wp2
      go_roundw
      case rel => exact ⟨y + 1, s + 1, by omega, by omega, by go_num, by go_num, HI3.out⟩
      case measure => simp [intOf]; omega
  · obtain rfl : y = n := by omega
    clear hplans
    have hI2 := inv7_skip HV.out HN.out hxy
    obtain ⟨⟨R2, hR2, hm2⟩, hd2, _, hbe⟩ := hI2
    have hidx : idx (fun k => (R2 k).isSome) y = -1 := idx_none (fun j hj => by simp [hm2 j hj, show ¬ y ≤ j by omega])
    have Hidx : Hid _ := hidx
    clear hidx
    go_wp2_with fail
    refine (zzref_any w2.heap.size w1.heap.size y D R2 wr hn hd2 hR2).mono ?_
    rintro e w5 ⟨rfl, hb5⟩
    rw [Hidx.out, refAt_none]
    have hend : Below w.heap.size w w5 := hbe.trans (hb5.mono hbe.size)
    clear hm2 hR2 hd2
    go_wp2
    go_ret
    exact ⟨rfl, hend⟩

set_option maxHeartbeats 2000000 in
set_option maxRecDepth 100000 in
theorem law7_none  (w : World) :
    Calls Try.prog 7 #[.slice none 0 0] w fun e w' => e = .returned (.bool true) ∧ Below w.heap.size w w' := by
  go_enter Try.func7, Try.ntmps7
  go_wp2_with fail
  refine (bytes21_zero none 0 w).mono ?_
  rintro e w1 ⟨rfl, hw⟩
  rw [hw]
  clear hw
  go_wp2
  go_loop [3, 4] (fun t i => t = .int .i64 0 ∧ i = .int .i64 0) (fun _ i => (intOf i).toNat)
  case atStart => exact ⟨rfl, rfl⟩
  obtain ⟨rfl, rfl⟩ := hrel
  go_wp2_with fail
  refine (clone_nil w).mono ?_
  rintro e w1 ⟨rfl, hb1⟩
  go_wp2_with fail
  refine (build_zero none 0 w1).mono ?_
  rintro e w2 ⟨rfl, hb2, hs2⟩
  go_wp2_with fail
  generalize hW2 : w2.alloc _ = W2
  have hw1 := hb1.size
  have hB2 : Below w1.heap.size w1 W2 := by rw [← hW2]; exact hb2.alloc (by omega) _
  have hd2 : W2.cell? ⟨w2.heap.size, 2, none⟩ = some (.slice (some ⟨w1.heap.size, 0, none⟩) 0 0) := by rw [← hW2, new_cell]; rfl
  have hBw : Below w.heap.size w W2 := hb1.trans (hB2.mono (by omega))
  clear hW2 hb2 hB2 hb1
  go_loop [6, 7] (fun nx st => nx = .int .i64 0 ∧ st = .int .i64 0) (fun _ st => (intOf st).toNat)
  case atStart => exact ⟨rfl, rfl⟩
  obtain ⟨rfl, rfl⟩ := hrel
  go_wp2
  go_loop [6] (fun nx => nx = .int .i64 0) (fun nx => (intOf nx).toNat)
  case atStart => exact rfl
  obtain rfl := hrel
  go_wp2_with fail
  refine (zzref_any w2.heap.size w1.heap.size 0 (fun _ => ⟨ByteArray.empty, false, false, 0, 0, 0, 0, false, 0, 0⟩) (fun _ => none) W2 (by omega) hd2 ⟨fun j hj => absurd hj (by omega), fun k hk => absurd hk (Nat.not_lt_zero _)⟩).mono ?_
  rintro e w5 ⟨rfl, hb5⟩
  rw [idx_none (fun j hj => absurd hj (Nat.not_lt_zero _)), refAt_none]
  have hend : Below w.heap.size w w5 := hBw.trans (hb5.mono hBw.size)
  go_wp2
  go_ret
  exact ⟨rfl, hend⟩

set_option maxHeartbeats 2000000 in
set_option maxRecDepth 100000 in
theorem law7_zero (a : Addr) (cap : Nat) (w : World) :
    Calls Try.prog 7 #[.slice (some a) 0 cap] w fun e w' => e = .returned (.bool true) ∧ Below w.heap.size w w' := by
  go_enter Try.func7, Try.ntmps7
  go_wp2_with fail
  refine (bytes21_zero (some a) cap w).mono ?_
  rintro e w1 ⟨rfl, hw⟩
  rw [hw]
  clear hw
  go_wp2
  go_loop [3, 4] (fun t i => t = .int .i64 0 ∧ i = .int .i64 0) (fun _ i => (intOf i).toNat)
  case atStart => exact ⟨rfl, rfl⟩
  obtain ⟨rfl, rfl⟩ := hrel
  go_wp2_with fail
  refine (clone_zero a cap w).mono ?_
  rintro e w1 ⟨rfl, hb1⟩
  go_wp2_with fail
  refine (build_zero (some ⟨w.heap.size, 0, none⟩) 0 w1).mono ?_
  rintro e w2 ⟨rfl, hb2, hs2⟩
  go_wp2_with fail
  generalize hW2 : w2.alloc _ = W2
  have hw1 := hb1.size
  have hB2 : Below w1.heap.size w1 W2 := by rw [← hW2]; exact hb2.alloc (by omega) _
  have hd2 : W2.cell? ⟨w2.heap.size, 2, none⟩ = some (.slice (some ⟨w1.heap.size, 0, none⟩) 0 0) := by rw [← hW2, new_cell]; rfl
  have hBw : Below w.heap.size w W2 := hb1.trans (hB2.mono (by omega))
  clear hW2 hb2 hB2 hb1
  go_loop [6, 7] (fun nx st => nx = .int .i64 0 ∧ st = .int .i64 0) (fun _ st => (intOf st).toNat)
  case atStart => exact ⟨rfl, rfl⟩
  obtain ⟨rfl, rfl⟩ := hrel
  go_wp2
  go_loop [6] (fun nx => nx = .int .i64 0) (fun nx => (intOf nx).toNat)
  case atStart => exact rfl
  obtain rfl := hrel
  go_wp2_with fail
  refine (zzref_any w2.heap.size w1.heap.size 0 (fun _ => ⟨ByteArray.empty, false, false, 0, 0, 0, 0, false, 0, 0⟩) (fun _ => none) W2 (by omega) hd2 ⟨fun j hj => absurd hj (by omega), fun k hk => absurd hk (Nat.not_lt_zero _)⟩).mono ?_
  rintro e w5 ⟨rfl, hb5⟩
  rw [idx_none (fun j hj => absurd hj (Nat.not_lt_zero _)), refAt_none]
  have hend : Below w.heap.size w w5 := hBw.trans (hb5.mono hBw.size)
  go_wp2
  go_ret
  exact ⟨rfl, hend⟩

end Go.Proofs.Qxb6608960a.Plans
