/-
  FnRebuildIgnoresGapsAndIsIdempotent returns true, and writes nothing that was there.
-/
import Derived.Test.Qxb6609061aViews
import Derived.Test.Qxb6609061aFive
import Derived.Deep.DeepCutAuto
namespace Go.Proofs.Qxb6609061a.Line
open Go.RowKit

set_option maxHeartbeats 1600000 in
set_option maxRecDepth 100000 in
theorem top4_big (a0 a1 a2 a3 a4 a5 : Option Addr) (n0 n1 n2 n3 n4 n5 c0 c1 c2 c3 c4 c5 : Nat) (w : World) (h : ¬ (n0 ≤ 65536 ∧ n1 ≤ 65536 ∧ n2 ≤ 65536 ∧ n3 ≤ 65536 ∧ n4 ≤ 65536 ∧ n5 ≤ 65536)) :
    Calls Try.prog 4 #[.slice a0 n0 c0, .slice a1 n1 c1, .slice a2 n2 c2, .slice a3 n3 c3, .slice a4 n4 c4, .slice a5 n5 c5] w fun e w' => e = .returned (.bool true) ∧ Below w.heap.size w w' := by
  by_cases h0 : n0 ≤ 65536
  · by_cases h1 : n1 ≤ 65536
    · by_cases h2 : n2 ≤ 65536
      · by_cases h3 : n3 ≤ 65536
        · by_cases h4 : n4 ≤ 65536
          · have h5 : ¬ n5 ≤ 65536 := fun h5 => h ⟨h0, h1, h2, h3, h4, h5⟩
            clear h
            go_enter Try.func4, Try.ntmps4
            go_wp2_with (go_at_call 14; refine (bytes4_any _ _ _ _ _ _ _ _ _ _ _ _ _ _ _ _ _ _ _).mono ?_; rintro e w' ⟨he | he, rfl⟩ <;> subst he)
            all_goals (go_ret; exact ⟨rfl, Below.refl _ _⟩)
          · clear h
            go_enter Try.func4, Try.ntmps4
            go_wp2_with (go_at_call 14; refine (bytes4_any _ _ _ _ _ _ _ _ _ _ _ _ _ _ _ _ _ _ _).mono ?_; rintro e w' ⟨he | he, rfl⟩ <;> subst he)
            all_goals (go_ret; exact ⟨rfl, Below.refl _ _⟩)
        · clear h
          go_enter Try.func4, Try.ntmps4
          go_wp2_with (go_at_call 14; refine (bytes4_any _ _ _ _ _ _ _ _ _ _ _ _ _ _ _ _ _ _ _).mono ?_; rintro e w' ⟨he | he, rfl⟩ <;> subst he)
          all_goals (go_ret; exact ⟨rfl, Below.refl _ _⟩)
      · clear h
        go_enter Try.func4, Try.ntmps4
        go_wp2_with (go_at_call 14; refine (bytes4_any _ _ _ _ _ _ _ _ _ _ _ _ _ _ _ _ _ _ _).mono ?_; rintro e w' ⟨he | he, rfl⟩ <;> subst he)
        all_goals (go_ret; exact ⟨rfl, Below.refl _ _⟩)
    · clear h
      go_enter Try.func4, Try.ntmps4
      go_wp2_with (go_at_call 14; refine (bytes4_any _ _ _ _ _ _ _ _ _ _ _ _ _ _ _ _ _ _ _).mono ?_; rintro e w' ⟨he | he, rfl⟩ <;> subst he)
      all_goals (go_ret; exact ⟨rfl, Below.refl _ _⟩)
  · clear h
    go_enter Try.func4, Try.ntmps4
    go_wp2_with (go_at_call 14; refine (bytes4_any _ _ _ _ _ _ _ _ _ _ _ _ _ _ _ _ _ _ _).mono ?_; rintro e w' ⟨he | he, rfl⟩ <;> subst he)
    all_goals (go_ret; exact ⟨rfl, Below.refl _ _⟩)

set_option maxHeartbeats 1600000 in
set_option maxRecDepth 100000 in
theorem top4_small (a0 a1 a2 a3 a4 a5 : Option Addr) (n0 n1 n2 n3 n4 n5 c0 c1 c2 c3 c4 c5 : Nat) (T : Nat → Task) (w : World) (h0 : n0 ≤ 65536) (h1 : n1 ≤ 65536) (h2 : n2 ≤ 65536) (h3 : n3 ≤ 65536) (h4 : n4 ≤ 65536) (h5 : n5 ≤ 65536)
    (R5 : Row64 w a5 n5 c5) (hT : ∀ j, (T j).count ≤ 9223372036854775807 ∧ (T j).work ≤ 9223372036854775807) (R0 : Row w a0 n0 fun j => (T j).id) (R1 : Row w a1 n1 fun j => (T j).submit) (R2 : Row w a2 n2 fun j => (T j).work) (R3 : Row w a3 n3 fun j => (T j).count) (R4 : Row w a4 n4 fun j => (T j).pushed) :
    Calls Try.prog 4 #[.slice a0 n0 c0, .slice a1 n1 c1, .slice a2 n2 c2, .slice a3 n3 c3, .slice a4 n4 c4, .slice a5 n5 c5] w fun e w' => e = .returned (.bool true) ∧ Below w.heap.size w w' := by
  have q0 := neq22 w a0 n0 c0
  go_enter Try.func4, Try.ntmps4
  go_upto_if 62 with (go_at_call 14; refine (bytes4_any _ _ _ _ _ _ _ _ _ _ _ _ _ _ _ _ _ _ _).mono ?_; rintro e w' ⟨he | he, hw⟩ <;> subst he <;> obtain rfl := hw.symm)
  rotate_left 1
  · go_ret; exact ⟨rfl, Below.refl _ _⟩
  go_cut [0] from 61 to 69 (fun s wx => ∃ a c, s = .slice a n0 c ∧ Arr wx a n0 (fun j => (T j).id) ∧ Below w.heap.size w wx)
  case first =>
    rcases R0 with ⟨rfl, rfl⟩ | ⟨x, rfl, A⟩
    · go_wp2
      go_meet
      case rel => exact ⟨_, _, rfl, .inl rfl, Below.refl _ _⟩
    · obtain ⟨w1, w2, hm, hc, hb, hA⟩ := copy_made 22 3 Try.underlying22 info3x x n0 c0 _ w h0 A
      have hc1 := hc 3
      clear hc A
      go_wp2
      go_meet
      case rel => exact ⟨_, _, rfl, hA, hb⟩
  obtain ⟨a0', c0', rfl, A0, hbw⟩ := hcut
  have B0 := hbw
  replace R1 := R1.below hbw
  replace R2 := R2.below hbw
  replace R3 := R3.below hbw
  replace R4 := R4.below hbw
  replace R5 := R5.below hbw
  clear hbw q0 R0
  have q1 := neq23 wc a1 n1 c1
  go_upto_if 71 with fail
  go_cut [1] from 70 to 78 (fun s wx => ∃ a c, s = .slice a n1 c ∧ Arr wx a n1 (fun j => (T j).submit) ∧ Below wc.heap.size wc wx)
  case first =>
    rcases R1 with ⟨rfl, rfl⟩ | ⟨x, rfl, A⟩
    · go_wp2
      go_meet
      case rel => exact ⟨_, _, rfl, .inl rfl, Below.refl _ _⟩
    · obtain ⟨w1, w2, hm, hc, hb, hA⟩ := copy_made 23 2 Try.underlying23 info2x x n1 c1 _ wc h1 A
      have hc1 := hc 3
      clear hc A
      go_wp2
      go_meet
      case rel => exact ⟨_, _, rfl, hA, hb⟩
  obtain ⟨a1', c1', rfl, A1, hbw⟩ := hcut
  have B1 := B0.trans (hbw.mono B0.size)
  replace A0 := A0.below hbw
  replace R2 := R2.below hbw
  replace R3 := R3.below hbw
  replace R4 := R4.below hbw
  replace R5 := R5.below hbw
  clear hbw q1 R1
  have q2 := neq23 wc a2 n2 c2
  go_upto_if 80 with fail
  go_cut [2] from 79 to 87 (fun s wx => ∃ a c, s = .slice a n2 c ∧ Arr wx a n2 (fun j => (T j).work) ∧ Below wc.heap.size wc wx)
  case first =>
    rcases R2 with ⟨rfl, rfl⟩ | ⟨x, rfl, A⟩
    · go_wp2
      go_meet
      case rel => exact ⟨_, _, rfl, .inl rfl, Below.refl _ _⟩
    · obtain ⟨w1, w2, hm, hc, hb, hA⟩ := copy_made 23 2 Try.underlying23 info2x x n2 c2 _ wc h2 A
      have hc1 := hc 3
      clear hc A
      go_wp2
      go_meet
      case rel => exact ⟨_, _, rfl, hA, hb⟩
  obtain ⟨a2', c2', rfl, A2, hbw⟩ := hcut
  have B2 := B1.trans (hbw.mono B1.size)
  replace A0 := A0.below hbw
  replace A1 := A1.below hbw
  replace R3 := R3.below hbw
  replace R4 := R4.below hbw
  replace R5 := R5.below hbw
  clear hbw q2 R2
  have q3 := neq23 wc a3 n3 c3
  go_upto_if 89 with fail
  go_cut [3] from 88 to 96 (fun s wx => ∃ a c, s = .slice a n3 c ∧ Arr wx a n3 (fun j => (T j).count) ∧ Below wc.heap.size wc wx)
  case first =>
    rcases R3 with ⟨rfl, rfl⟩ | ⟨x, rfl, A⟩
    · go_wp2
      go_meet
      case rel => exact ⟨_, _, rfl, .inl rfl, Below.refl _ _⟩
    · obtain ⟨w1, w2, hm, hc, hb, hA⟩ := copy_made 23 2 Try.underlying23 info2x x n3 c3 _ wc h3 A
      have hc1 := hc 3
      clear hc A
      go_wp2
      go_meet
      case rel => exact ⟨_, _, rfl, hA, hb⟩
  obtain ⟨a3', c3', rfl, A3, hbw⟩ := hcut
  have B3 := B2.trans (hbw.mono B2.size)
  replace A0 := A0.below hbw
  replace A1 := A1.below hbw
  replace A2 := A2.below hbw
  replace R4 := R4.below hbw
  replace R5 := R5.below hbw
  clear hbw q3 R3
  have q4 := neq23 wc a4 n4 c4
  go_upto_if 98 with fail
  go_cut [4] from 97 to 105 (fun s wx => ∃ a c, s = .slice a n4 c ∧ Arr wx a n4 (fun j => (T j).pushed) ∧ Below wc.heap.size wc wx)
  case first =>
    rcases R4 with ⟨rfl, rfl⟩ | ⟨x, rfl, A⟩
    · go_wp2
      go_meet
      case rel => exact ⟨_, _, rfl, .inl rfl, Below.refl _ _⟩
    · obtain ⟨w1, w2, hm, hc, hb, hA⟩ := copy_made 23 2 Try.underlying23 info2x x n4 c4 _ wc h4 A
      have hc1 := hc 3
      clear hc A
      go_wp2
      go_meet
      case rel => exact ⟨_, _, rfl, hA, hb⟩
  obtain ⟨a4', c4', rfl, A4, hbw⟩ := hcut
  have B4 := B3.trans (hbw.mono B3.size)
  replace A0 := A0.below hbw
  replace A1 := A1.below hbw
  replace A2 := A2.below hbw
  replace A3 := A3.below hbw
  replace R5 := R5.below hbw
  clear hbw q4 R4
  by_cases hl1 : n1 = n0
  rotate_left 1
  · go_wp2
    go_ret; exact ⟨rfl, B4⟩
  by_cases hl2 : n2 = n0
  rotate_left 1
  · go_wp2
    go_ret; exact ⟨rfl, B4⟩
  by_cases hl3 : n3 = n0
  rotate_left 1
  · go_wp2
    go_ret; exact ⟨rfl, B4⟩
  by_cases hl4 : n4 = n0
  rotate_left 1
  · go_wp2
    go_ret; exact ⟨rfl, B4⟩
  subst hl1 hl2 hl3
  subst hl4
  go_upto_region 41 with (go_at_call 7; refine (counts_any T n4 h0 _ _ _ _ _ A2 A3 (fun j _ => (hT j).1)).mono ?_; rintro e w' ⟨hw, he | ⟨waiting, first, he, hall⟩⟩ <;> subst he <;> obtain rfl := hw.symm)
  · go_ret; exact ⟨rfl, B4⟩
  have hk := kept_le T n4
  obtain ⟨⟨l1, l2, _, _, _⟩, _⟩ := lvs_facts (kept T n4).length (by omega)
  have hM1 : 0 < 2 * lvs (kept T n4).length := by omega
  have hM2 : 2 * lvs (kept T n4).length ≤ 1000000 := by omega
  have hM3 : 2 ≤ 2 * lvs (kept T n4).length := by omega
  clear l1 l2
  obtain ⟨v1, v2, v3, v4, v5, b1, b2, b3, b4, b5, m1, m2, m3, m4, m5, H5, hb5, hle⟩ := Five.start (kept T n4).length (fun j => (kept T n4).getD j ⟨0, 0, 0, 0, 0⟩) wc (by omega)
  go_wp2_with fail
  go_loopw [23, 24, 25, 26, 27, 28, 29] (fun x1 x2 x3 x4 x5 xw xi wr => ∃ i : Nat, i ≤ n4 ∧ xi = .int .i64 i ∧ xw = .int .u64 (leastW (fun j => ((kept T n4).getD j ⟨0, 0, 0, 0, 0⟩).work) 0 (kept T i).length) ∧ x1 = .slice (some ⟨b1, 0, none⟩) (kept T i).length (kept T n4).length ∧ x2 = .slice (some ⟨b2, 0, none⟩) (kept T i).length (kept T n4).length ∧ x3 = .slice (some ⟨b3, 0, none⟩) (kept T i).length (kept T n4).length ∧ x4 = .slice (some ⟨b4, 0, none⟩) (kept T i).length (kept T n4).length ∧ x5 = .slice (some ⟨b5, 0, none⟩) (kept T i).length (kept T n4).length ∧ Below wc.heap.size wc wr ∧ Five wr b1 b2 b3 b4 b5 (kept T i).length (kept T n4).length (fun j => (kept T n4).getD j ⟨0, 0, 0, 0, 0⟩)) (fun _ _ _ _ _ _ xi _ => n4 - (intOf xi).toNat)
  case atStart => exact ⟨0, Nat.zero_le _, rfl, rfl, rfl, rfl, rfl, rfl, rfl, hb5, H5⟩
  case round =>
    obtain ⟨i, hi, rfl, rfl, rfl, rfl, rfl, rfl, rfl, hbel, H⟩ := hrel
    clear m1 m2 m3 m4 m5 H5 hb5
    by_cases hlt : i < n4
    · rcases A0 with h | ⟨d0, rfl, I0⟩
      · omega
      rcases A1 with h | ⟨d1, rfl, I1⟩
      · omega
      rcases A2 with h | ⟨d2, rfl, I2⟩
      · omega
      rcases A3 with h | ⟨d3, rfl, I3⟩
      · omega
      rcases A4 with h | ⟨d4, rfl, I4⟩
      · omega
      replace I0 : wc.cell? ⟨d0, i, none⟩ = some (.int .i64 (T i).id) := I0 i hlt
      replace I1 : wc.cell? ⟨d1, i, none⟩ = some (.int .i64 (T i).submit) := I1 i hlt
      replace I2 : wc.cell? ⟨d2, i, none⟩ = some (.int .i64 (T i).work) := I2 i hlt
      replace I3 : wc.cell? ⟨d3, i, none⟩ = some (.int .i64 (T i).count) := I3 i hlt
      replace I4 : wc.cell? ⟨d4, i, none⟩ = some (.int .i64 (T i).pushed) := I4 i hlt
      have J3 : wr.cell? ⟨d3, i, none⟩ = some (.int .i64 (T i).count) := (hbel.cell (p := ⟨d3, i, none⟩) (block_lt_of_cell I3)).trans I3
      by_cases hpos : 0 < (T i).count
      · obtain ⟨hat, hlt2⟩ := kept_at T hlt hpos ⟨0, 0, 0, 0, 0⟩
        have hk1 : (kept T (i + 1)).length = (kept T i).length + 1 := by rw [kept_yes hpos]; simp
        have HK1 : Hid ((kept T (i + 1)).length = (kept T i).length + 1) := hk1
        obtain ⟨w1, w2, w3, w4, w5, p1, p2, p3, p4, p5, H', hB⟩ := H.step hlt2
        obtain ⟨B1, B2, B3, B4', B5⟩ := hB _ hle
        replace B1 := hbel.trans B1
        replace B2 := hbel.trans B2
        replace B3 := hbel.trans B3
        replace B4' := hbel.trans B4'
        replace B5 := hbel.trans B5
        replace p1 := p1 22
        simp only [hat] at p1
        replace p2 := p2 23
        simp only [hat] at p2
        replace p3 := p3 23
        simp only [hat] at p3
        replace p4 := p4 23
        simp only [hat] at p4
        replace p5 := p5 23
        simp only [hat] at p5
        have g0 : wr.cell? ⟨d0, i, none⟩ = some (.int .i64 (T i).id) := (hbel.cell (p := ⟨d0, i, none⟩) (block_lt_of_cell I0)).trans I0
        have g1 : w1.cell? ⟨d1, i, none⟩ = some (.int .i64 (T i).submit) := (B1.cell (p := ⟨d1, i, none⟩) (block_lt_of_cell I1)).trans I1
        have g2 : w2.cell? ⟨d2, i, none⟩ = some (.int .i64 (T i).work) := (B2.cell (p := ⟨d2, i, none⟩) (block_lt_of_cell I2)).trans I2
        have g3 : w3.cell? ⟨d3, i, none⟩ = some (.int .i64 (T i).count) := (B3.cell (p := ⟨d3, i, none⟩) (block_lt_of_cell I3)).trans I3
        have g4 : w4.cell? ⟨d4, i, none⟩ = some (.int .i64 (T i).pushed) := (B4'.cell (p := ⟨d4, i, none⟩) (block_lt_of_cell I4)).trans I4
        have g5 : w5.cell? ⟨d2, i, none⟩ = some (.int .i64 (T i).work) := (B5.cell (p := ⟨d2, i, none⟩) (block_lt_of_cell I2)).trans I2
        have hne0 : ¬ (T i).count = 0 := by omega
        have hwk : 0 ≤ (T i).work ∧ (T i).work ≤ 9223372036854775807 := ⟨(hall i hlt).1, (hT i).2⟩
        have hst : Hid (leastW (fun j => ((kept T n4).getD j ⟨0, 0, 0, 0, 0⟩).work) 0 ((kept T i).length + 1) = min (leastW (fun j => ((kept T n4).getD j ⟨0, 0, 0, 0, 0⟩).work) 0 (kept T i).length) (T i).work) := by
          show min _ ((kept T n4).getD (0 + (kept T i).length) ⟨0, 0, 0, 0, 0⟩).work = _
          rw [Nat.zero_add, hat]
        have hbd := leastW_bd (fun j => ((kept T n4).getD j ⟨0, 0, 0, 0, 0⟩).work) 0 (kept T i).length (fun j _ hj => by obtain ⟨_, i', hi', he⟩ := kept_pos T n4 ⟨0, 0, 0, 0, 0⟩ j (by omega); rw [he]; exact (hall i' hi').1)
        obtain ⟨z, hz⟩ : ∃ z, z = leastW (fun j => ((kept T n4).getD j ⟨0, 0, 0, 0, 0⟩).work) 0 (kept T i).length := ⟨_, rfl⟩
        obtain ⟨z', hz'⟩ : ∃ z', z' = leastW (fun j => ((kept T n4).getD j ⟨0, 0, 0, 0, 0⟩).work) 0 ((kept T i).length + 1) := ⟨_, rfl⟩
        have hmin : z' = min z (T i).work := by rw [hz', hz]; exact hst
        have HZ' : Hid (leastW (fun j => ((kept T n4).getD j ⟨0, 0, 0, 0, 0⟩).work) 0 ((kept T i).length + 1) = z') := hz'.symm
        rw [← hz] at hbd ⊢
        clear hk1 hat hst hz hz' I0 I1 I2 I3 I4 H hB
        generalize (T i).id = x0 at *
        generalize (T i).submit = x1 at *
        generalize (T i).work = x2 at *
        generalize (T i).count = x3 at *
        generalize (T i).pushed = x4 at *
        go_upto_region 52 with (at_builtin; refine wpList_append rfl _ _ 22 rfl rfl rfl p1 ?_)
        go_upto_region 53 with (at_builtin; refine wpList_append rfl _ _ 23 rfl rfl rfl p2 ?_)
        go_upto_region 54 with (at_builtin; refine wpList_append rfl _ _ 23 rfl rfl rfl p3 ?_)
        go_upto_region 55 with (at_builtin; refine wpList_append rfl _ _ 23 rfl rfl rfl p4 ?_)
        go_upto_region 56 with (at_builtin; refine wpList_append rfl _ _ 23 rfl rfl rfl p5 ?_)
        by_cases hmn : x2 < z
        · have HZ2 : Hid (z' = x2) := by show z' = x2; omega
          clear hmin
          go_wp2
          go_roundw
          case rel => exact ⟨i + 1, by omega, by go_num, by rw [HK1.out, HZ'.out, HZ2.out], by rw [HK1.out], by rw [HK1.out], by rw [HK1.out], by rw [HK1.out], by rw [HK1.out], B5, by rw [HK1.out]; exact H'⟩
          case measure => simp [intOf]; omega
        · have HZ2 : Hid (z' = z) := by show z' = z; omega
          clear hmin
          go_wp2
          go_roundw
          case rel => exact ⟨i + 1, by omega, by go_num, by rw [HK1.out, HZ'.out, HZ2.out], by rw [HK1.out], by rw [HK1.out], by rw [HK1.out], by rw [HK1.out], by rw [HK1.out], B5, by rw [HK1.out]; exact H'⟩
          case measure => simp [intOf]; omega
      · have hz : (T i).count = 0 := by have := (hall i hlt).2; omega
        rw [hz] at J3
        have HK0 : Hid (kept T (i + 1) = kept T i) := kept_no hpos
        clear I0 I1 I2 I3 I4
        go_wp2
        go_roundw
        case rel => exact ⟨i + 1, by omega, by go_num, by rw [show kept T (i + 1) = kept T i from HK0], by rw [show kept T (i + 1) = kept T i from HK0], by rw [show kept T (i + 1) = kept T i from HK0], by rw [show kept T (i + 1) = kept T i from HK0], by rw [show kept T (i + 1) = kept T i from HK0], by rw [show kept T (i + 1) = kept T i from HK0], hbel, by rw [show kept T (i + 1) = kept T i from HK0]; exact H⟩
        case measure => simp [intOf]; omega
    · obtain rfl : n4 = i := by omega
      obtain ⟨LW, hLW⟩ : ∃ LW, Hid (LW = leastW (fun j => ((kept T n4).getD j ⟨0, 0, 0, 0, 0⟩).work) 0 (kept T n4).length) := ⟨_, rfl⟩
      rw [← hLW.out]
      have Z0 : Below w.heap.size w wr := B4.trans (hbel.mono B4.size)
      replace A0 := A0.below hbel
      replace A1 := A1.below hbel
      replace A2 := A2.below hbel
      replace A3 := A3.below hbel
      replace A4 := A4.below hbel
      replace R5 := R5.below hbel
      have O1 := H.o1.arr
      have O2 := H.o2.arr
      have O3 := H.o3.arr
      have O4 := H.o4.arr
      have O5 := H.o5.arr
      have hk2 : (kept T n4).length ≤ 65536 := by omega
      have hwk : ∀ i, i < n4 → 0 ≤ (T i).work ∧ (T i).work ≤ 9223372036854775807 := fun i hi => ⟨(hall i hi).1, (hT i).2⟩
      clear H hbel B0 B1 B2 B3 B4 hle hT hall
      go_upto_region 59 with (first
        | (go_at_call 8; refine (clone_any _ _ _ _ h5 R5).mono ?_; rintro e X1 ⟨la, ll, lc, rfl, hX1⟩)
        | (go_at_call 9; refine (make_any n4 h0 T _ _ _ _ _ _ _ _ _ _ la ll lc _ _ _ _ (A0.below hX1) (A1.below hX1) (A2.below hX1) (A3.below hX1) (A4.below hX1)).mono ?_; rintro e X2 ⟨rfl, hX2, pa, ga, capa, pba, hLa⟩))
      have Z1 := Z0.trans (hX1.mono Z0.size)
      have Z2 := Z1.trans (hX2.mono Z1.size)
      replace R5 := (R5.below hX1).below hX2
      replace O1 := (O1.below hX1).below hX2
      replace O2 := (O2.below hX1).below hX2
      replace O3 := (O3.below hX1).below hX2
      replace O4 := (O4.below hX1).below hX2
      replace O5 := (O5.below hX1).below hX2
      clear A0 A1 A2 A3 A4
      go_upto_region 60 with (first
        | (go_at_call 8; refine (clone_any _ _ _ _ h5 R5).mono ?_; rintro e X3 ⟨la', ll', lc', rfl, hX3⟩)
        | (go_at_call 9; refine (make_any (kept T n4).length hk2 (fun j => (kept T n4).getD j ⟨0, 0, 0, 0, 0⟩) _ _ _ _ _ _ _ _ _ _ la' ll' lc' _ _ _ _ (O1.below hX3) (O2.below hX3) (O3.below hX3) (O4.below hX3) (O5.below hX3)).mono ?_; rintro e X4 ⟨rfl, hX4, pc, gc, capc, pbc, hLb⟩))
      have Z3 := Z2.trans (hX3.mono Z2.size)
      have Z4 := Z3.trans (hX4.mono Z3.size)
      clear O1 O2 O3 O4 O5 R5
      replace hLa := (hLa.of_below hX3).of_below hX4
      have h23 := hX3.size
      have h34 := hX4.size
      go_upto_region 61 with (go_at_call 10; refine (zzrebuild_any hLa h0 hwk).mono ?_; rintro e X5 ⟨rfl, la5, Fa, hLa5, hin5, hca5, hta5, hlb5⟩)
      have Z5 := Z4.trans (hin5.below Z1.size Z4.size)
      replace hLb := hLb.of_within hin5 (.inr h23)
      go_upto_region 62 with (go_at_call 10; refine (rebuild_kept hLb h0 hwk).mono ?_; rintro e X6 ⟨rfl, lb6, Fb, hLb6, hin6, hcb6, htb6, hlb6⟩)
      have Z6 := Z5.trans (hin6.below Z3.size Z5.size)
      replace hLa5 := hLa5.of_within hin6 (.inl h23)
      have h56 := hin6.size
      have h45 := hin5.size
      replace hca5 := hca5.of_within hin6 (block_lt_of_cell (hca5.2 0 hM1)) hlb5
      go_upto_region 63 with (first
        | (go_at_call 11; refine (view_cs Fa la5 _ _ hLa5 hk2 hM1 hM2 hca5.2).mono ?_; rintro e X7 ⟨p, k, rfl, hX7, hsa⟩)
        | (refine wpList_keep33 rfl _ _ rfl rfl p k _ _ _ _ _ rfl rfl ?_; intro V1 hV1 sV1 rV1))
      have D1 : Below X6.heap.size X6 V1 := hX7.trans (hV1.mono hX7.size)
      have Z7 := Z6.trans (D1.mono Z6.size)
      replace hsa := fun f hf => (hsa f hf).below hV1
      have lV1 : X7.heap.size < V1.heap.size := by omega
      have l67 := hX7.size
      replace hLa5 := hLa5.of_below D1
      replace hLb6 := hLb6.of_below D1
      replace hcb6 := hcb6.of_below D1 (block_lt_of_cell (hcb6.2 0 hM1))
      clear sV1
      go_upto_region 64 with (first
        | (go_at_call 11; refine (view_cs Fb lb6 _ _ hLb6 hk2 hM1 hM2 hcb6.2).mono ?_; rintro e X8 ⟨p', k', rfl, hX8, hsb⟩)
        | (refine wpList_keep33 rfl _ _ rfl rfl p' k' _ _ _ _ _ rfl rfl ?_; intro V2 hV2 sV2 rV2))
      have D2 : Below V1.heap.size V1 V2 := hX8.trans (hV2.mono hX8.size)
      have Z8 := Z7.trans (D2.mono Z7.size)
      replace hsa := fun f hf => (hsa f hf).below D2
      replace hsb := fun f hf => (hsb f hf).below hV2
      replace rV1 := range_within rV1 (.of_below (lo := 0) (hi := 0) D2) lV1 (Nat.zero_le _)
      have lV2 : X8.heap.size < V2.heap.size := by omega
      have l78 := hX8.size
      replace hLa5 := hLa5.of_below D2
      clear sV2
      go_upto_region 65 with (go_at_call 10; refine (rebuild_kept hLa5 h0 hwk).mono ?_; rintro e X9 ⟨rfl, la9, Fc, hLa9, hin9, hca9, hta9, hlb9⟩)
      have Z9 := Z8.trans (hin9.below Z1.size Z8.size)
      have h89 := hin9.size
      replace hsa := fun f hf => (hsa f hf).within hin9 (by omega)
      replace hsb := fun f hf => (hsb f hf).within hin9 (by omega)
      replace rV1 := range_within rV1 hin9 (by omega) (by omega)
      replace rV2 := range_within rV2 hin9 (by omega) (by omega)
      go_upto_region 66 with (first
        | (go_at_call 11; refine (view_cs Fc la9 _ _ hLa9 hk2 hM1 hM2 hca9.2).mono ?_; rintro e X10 ⟨p'', k'', rfl, hX10, hsc⟩)
        | (refine wpList_keep33 rfl _ _ rfl rfl p'' k'' _ _ _ _ _ rfl rfl ?_; intro V3 hV3 sV3 rV3))
      have D3 : Below X9.heap.size X9 V3 := hX10.trans (hV3.mono hX10.size)
      have Z10 := Z9.trans (D3.mono Z9.size)
      have lV3 : X10.heap.size < V3.heap.size := by omega
      have S1 : Shown V3 (X6.heap.size + 2) p (kept T n4).length (2 * lvs (kept T n4).length) (fun j => (kept T n4).getD j ⟨0, 0, 0, 0, 0⟩) Fa := fun f hf => (hsa f hf).below D3
      have S2 : Shown V3 (V1.heap.size + 2) p' (kept T n4).length (2 * lvs (kept T n4).length) (fun j => (kept T n4).getD j ⟨0, 0, 0, 0, 0⟩) Fa := shown_congr (fun f hf => (hsb f hf).below D3) (IsTree.unique htb6 hta5)
      have S3 : Shown V3 (X9.heap.size + 2) p'' (kept T n4).length (2 * lvs (kept T n4).length) (fun j => (kept T n4).getD j ⟨0, 0, 0, 0, 0⟩) Fa := shown_congr (fun f hf => (hsc f hf).below hV3) (IsTree.unique hta9 hta5)
      replace rV1 := range_within rV1 (.of_below (lo := 0) (hi := 0) D3) (by omega) (Nat.zero_le _)
      replace rV2 := range_within rV2 (.of_below (lo := 0) (hi := 0) D3) (by omega) (Nat.zero_le _)
      have root := root_least hk2 hta5 (fun j hj => (kept_pos T n4 _ j hj).1)
      have l1 : X7.heap.size < V3.heap.size := by have := D3.size; omega
      have l2 : X8.heap.size < V3.heap.size := by have := D3.size; omega
      clear hsa hsb hsc hX1 hX2 hX3 hX4 hX7 hX8 hX10 hV1 hV2 hV3 sV3 D1 D2 D3 Z0 Z1 Z2 Z3 Z4 Z5 Z6 Z7 Z8 Z9 hLa hLb hLa5 hLb6 hLa9 hin5 hin6 hin9 hca5 hcb6 hca9 hta5 htb6 hta9 hlb5 hlb6 hlb9 h23 h34 h56 h45 lV1 l67 lV2 l78 h89 hwk
      generalize X7.heap.size = E1 at *
      generalize X8.heap.size = E2 at *
      generalize X10.heap.size = E3 at *
      have c15a := views_any _ _ hk2 hM2 _ _ p p' k k' (kept T n4).length waiting 0 V3 _ _ S1 S2
      rcases S1 5 (by decide) with h | ⟨g5, hp5, _, hg5, J5⟩
      · exact absurd h (Nat.ne_of_gt hM1)
      have J1 : V3.cell? ⟨g5, 1, none⟩ = some (.int .u64 LW) := by
        rw [J5 1 hM3, hLW.out, ← root]; rfl
      clear J5 root
      go_wp2_with (first
        | (refine wpList_load33 rfl _ rfl E1 rfl _ rfl rV1 ?_)
        | (refine wpList_load33 rfl _ rfl E2 rfl _ rfl rV2 ?_)
        | (refine wpList_load33w (by first | rfl | go_simp) _ rfl E3 rfl _ rfl rC ?_)
        | (refine wpList_load33w (by first | rfl | go_simp) _ rfl E1 rfl _ rfl rA ?_)
        | (go_at_call 15; with_reducible refine c15a.mono ?_; rintro e X11 ⟨rfl, hX11⟩
           have rA := range_within rV1 (.of_below (lo := 0) (hi := 0) hX11) l1 (Nat.zero_le _)
           have rC := range_within rV3 (.of_below (lo := 0) (hi := 0) hX11) lV3 (Nat.zero_le _)
           have c15b := views_any _ _ hk2 hM2 _ _ p'' p k'' k (kept T n4).length waiting 0 X11 _ _ (fun f hf => (S3 f hf).below hX11) (fun f hf => (S1 f hf).below hX11)
           have Z11 := Z10.trans (hX11.mono Z10.size)
           replace l1 := Nat.lt_of_lt_of_le l1 hX11.size
           replace J1 := (hX11.cell (p := ⟨g5, 1, none⟩) hg5).trans J1
           replace hg5 := Nat.lt_of_lt_of_le hg5 hX11.size
           clear c15a rV1 rV2 rV3 S1 S2 S3)
        | (go_at_call 15; with_reducible refine c15b.mono ?_; rintro e X12 ⟨rfl, hX12⟩
           obtain ⟨_, _, _, _, _, e5, _, _, _, _, e10⟩ := fields33 (range_within rA (.of_below (lo := 0) (hi := 0) hX12) l1 (Nat.zero_le _))
           rw [hp5] at e5
           replace J1 := (hX12.cell (p := ⟨g5, 1, none⟩) hg5).trans J1
           have Z12 := Z11.trans (hX12.mono Z11.size)
           clear c15b rA rC))
      go_ret
      exact ⟨rfl, Z12⟩

end Go.Proofs.Qxb6609061a.Line
