/-
  FnRebuildKeepsWaitingTasksAndBuildsTree returns true, and writes nothing that was there.
-/
import Derived.Test.Qxb6609061aTopParts
import Derived.Deep.DeepCutAuto
import Derived.BigQuiet
namespace Go.Proofs.Qxb6609061a.Line
open Go.RowKit

set_option maxHeartbeats 1600000 in
set_option maxRecDepth 100000 in
theorem top3_big (a0 a1 a2 a3 a4 a5 : Option Addr) (n0 n1 n2 n3 n4 n5 c0 c1 c2 c3 c4 c5 : Nat) (w : World) (h : ¬ (n0 ≤ 65536 ∧ n1 ≤ 65536 ∧ n2 ≤ 65536 ∧ n3 ≤ 65536 ∧ n4 ≤ 65536 ∧ n5 ≤ 65536)) :
    Calls Try.prog 3 #[.slice a0 n0 c0, .slice a1 n1 c1, .slice a2 n2 c2, .slice a3 n3 c3, .slice a4 n4 c4, .slice a5 n5 c5] w fun e w' => e = .returned (.bool true) ∧ Below w.heap.size w w' := by
  by_cases h0 : n0 ≤ 65536
  · by_cases h1 : n1 ≤ 65536
    · by_cases h2 : n2 ≤ 65536
      · by_cases h3 : n3 ≤ 65536
        · by_cases h4 : n4 ≤ 65536
          · have h5 : ¬ n5 ≤ 65536 := fun h5 => h ⟨h0, h1, h2, h3, h4, h5⟩
            clear h
            go_enter Try.func3, Try.ntmps3
            go_wp2_with (go_at_call 6; refine (bytes3_any _ _ _ _ _ _ _ _ _ _ _ _ _ _ _ _ _ _ _).mono ?_; rintro e w' ⟨he | he, rfl⟩ <;> subst he)
            all_goals (go_ret; exact ⟨rfl, Below.refl _ _⟩)
          · clear h
            go_enter Try.func3, Try.ntmps3
            go_wp2_with (go_at_call 6; refine (bytes3_any _ _ _ _ _ _ _ _ _ _ _ _ _ _ _ _ _ _ _).mono ?_; rintro e w' ⟨he | he, rfl⟩ <;> subst he)
            all_goals (go_ret; exact ⟨rfl, Below.refl _ _⟩)
        · clear h
          go_enter Try.func3, Try.ntmps3
          go_wp2_with (go_at_call 6; refine (bytes3_any _ _ _ _ _ _ _ _ _ _ _ _ _ _ _ _ _ _ _).mono ?_; rintro e w' ⟨he | he, rfl⟩ <;> subst he)
          all_goals (go_ret; exact ⟨rfl, Below.refl _ _⟩)
      · clear h
        go_enter Try.func3, Try.ntmps3
        go_wp2_with (go_at_call 6; refine (bytes3_any _ _ _ _ _ _ _ _ _ _ _ _ _ _ _ _ _ _ _).mono ?_; rintro e w' ⟨he | he, rfl⟩ <;> subst he)
        all_goals (go_ret; exact ⟨rfl, Below.refl _ _⟩)
    · clear h
      go_enter Try.func3, Try.ntmps3
      go_wp2_with (go_at_call 6; refine (bytes3_any _ _ _ _ _ _ _ _ _ _ _ _ _ _ _ _ _ _ _).mono ?_; rintro e w' ⟨he | he, rfl⟩ <;> subst he)
      all_goals (go_ret; exact ⟨rfl, Below.refl _ _⟩)
  · clear h
    go_enter Try.func3, Try.ntmps3
    go_wp2_with (go_at_call 6; refine (bytes3_any _ _ _ _ _ _ _ _ _ _ _ _ _ _ _ _ _ _ _).mono ?_; rintro e w' ⟨he | he, rfl⟩ <;> subst he)
    all_goals (go_ret; exact ⟨rfl, Below.refl _ _⟩)

set_option maxHeartbeats 1600000 in
set_option maxRecDepth 100000 in
theorem top3_small (a0 a1 a2 a3 a4 a5 : Option Addr) (n0 n1 n2 n3 n4 n5 c0 c1 c2 c3 c4 c5 : Nat) (T : Nat → Task) (w : World) (h0 : n0 ≤ 65536) (h1 : n1 ≤ 65536) (h2 : n2 ≤ 65536) (h3 : n3 ≤ 65536) (h4 : n4 ≤ 65536) (h5 : n5 ≤ 65536)
    (R5 : Row64 w a5 n5 c5) (hT : ∀ j, (T j).count ≤ 9223372036854775807 ∧ (T j).work ≤ 9223372036854775807) (R0 : Row w a0 n0 fun j => (T j).id) (R1 : Row w a1 n1 fun j => (T j).submit) (R2 : Row w a2 n2 fun j => (T j).work) (R3 : Row w a3 n3 fun j => (T j).count) (R4 : Row w a4 n4 fun j => (T j).pushed) :
    Calls Try.prog 3 #[.slice a0 n0 c0, .slice a1 n1 c1, .slice a2 n2 c2, .slice a3 n3 c3, .slice a4 n4 c4, .slice a5 n5 c5] w fun e w' => e = .returned (.bool true) ∧ Below w.heap.size w w' := by
  have q0 := neq22 w a0 n0 c0
  go_enter Try.func3, Try.ntmps3
  go_upto_if 55 with (go_at_call 6; refine (bytes3_any _ _ _ _ _ _ _ _ _ _ _ _ _ _ _ _ _ _ _).mono ?_; rintro e w' ⟨he | he, hw⟩ <;> subst he <;> obtain rfl := hw.symm)
  rotate_left 1
  · go_ret; exact ⟨rfl, Below.refl _ _⟩
  go_cut [0] from 54 to 62 (fun s wx => ∃ a c, s = .slice a n0 c ∧ Arr wx a n0 (fun j => (T j).id) ∧ Below w.heap.size w wx)
  case first =>
    rcases R0 with ⟨rfl, rfl⟩ | ⟨x, rfl, A⟩
    · go_wp2
      go_meet
      case rel => exact ⟨_, _, rfl, .inl rfl, Below.refl _ _⟩
    · obtain ⟨w1, w2, hm, hc, hb, hA⟩ := copy_made 22 3 Try.underlying22 info3x x n0 c0 _ w h0 A
      have hc1 := hc 3
      clear hc A
      go_wp2
      go_meet
      case rel => exact ⟨_, _, rfl, hA, hb⟩
  obtain ⟨a0', c0', rfl, A0, hbw⟩ := hcut
  have B0 := hbw
  replace R1 := R1.below hbw
  replace R2 := R2.below hbw
  replace R3 := R3.below hbw
  replace R4 := R4.below hbw
  replace R5 := R5.below hbw
  clear hbw q0 R0
  have q1 := neq23 wc a1 n1 c1
  go_upto_if 64 with fail
  go_cut [1] from 63 to 71 (fun s wx => ∃ a c, s = .slice a n1 c ∧ Arr wx a n1 (fun j => (T j).submit) ∧ Below wc.heap.size wc wx)
  case first =>
    rcases R1 with ⟨rfl, rfl⟩ | ⟨x, rfl, A⟩
    · go_wp2
      go_meet
      case rel => exact ⟨_, _, rfl, .inl rfl, Below.refl _ _⟩
    · obtain ⟨w1, w2, hm, hc, hb, hA⟩ := copy_made 23 2 Try.underlying23 info2x x n1 c1 _ wc h1 A
      have hc1 := hc 3
      clear hc A
      go_wp2
      go_meet
      case rel => exact ⟨_, _, rfl, hA, hb⟩
  obtain ⟨a1', c1', rfl, A1, hbw⟩ := hcut
  have B1 := B0.trans (hbw.mono B0.size)
  replace A0 := A0.below hbw
  replace R2 := R2.below hbw
  replace R3 := R3.below hbw
  replace R4 := R4.below hbw
  replace R5 := R5.below hbw
  clear hbw q1 R1
  have q2 := neq23 wc a2 n2 c2
  go_upto_if 73 with fail
  go_cut [2] from 72 to 80 (fun s wx => ∃ a c, s = .slice a n2 c ∧ Arr wx a n2 (fun j => (T j).work) ∧ Below wc.heap.size wc wx)
  case first =>
    rcases R2 with ⟨rfl, rfl⟩ | ⟨x, rfl, A⟩
    · go_wp2
      go_meet
      case rel => exact ⟨_, _, rfl, .inl rfl, Below.refl _ _⟩
    · obtain ⟨w1, w2, hm, hc, hb, hA⟩ := copy_made 23 2 Try.underlying23 info2x x n2 c2 _ wc h2 A
      have hc1 := hc 3
      clear hc A
      go_wp2
      go_meet
      case rel => exact ⟨_, _, rfl, hA, hb⟩
  obtain ⟨a2', c2', rfl, A2, hbw⟩ := hcut
  have B2 := B1.trans (hbw.mono B1.size)
  replace A0 := A0.below hbw
  replace A1 := A1.below hbw
  replace R3 := R3.below hbw
  replace R4 := R4.below hbw
  replace R5 := R5.below hbw
  clear hbw q2 R2
  have q3 := neq23 wc a3 n3 c3
  go_upto_if 82 with fail
  go_cut [3] from 81 to 89 (fun s wx => ∃ a c, s = .slice a n3 c ∧ Arr wx a n3 (fun j => (T j).count) ∧ Below wc.heap.size wc wx)
  case first =>
    rcases R3 with ⟨rfl, rfl⟩ | ⟨x, rfl, A⟩
    · go_wp2
      go_meet
      case rel => exact ⟨_, _, rfl, .inl rfl, Below.refl _ _⟩
    · obtain ⟨w1, w2, hm, hc, hb, hA⟩ := copy_made 23 2 Try.underlying23 info2x x n3 c3 _ wc h3 A
      have hc1 := hc 3
      clear hc A
      go_wp2
      go_meet
      case rel => exact ⟨_, _, rfl, hA, hb⟩
  obtain ⟨a3', c3', rfl, A3, hbw⟩ := hcut
  have B3 := B2.trans (hbw.mono B2.size)
  replace A0 := A0.below hbw
  replace A1 := A1.below hbw
  replace A2 := A2.below hbw
  replace R4 := R4.below hbw
  replace R5 := R5.below hbw
  clear hbw q3 R3
  have q4 := neq23 wc a4 n4 c4
  go_upto_if 91 with fail
  go_cut [4] from 90 to 98 (fun s wx => ∃ a c, s = .slice a n4 c ∧ Arr wx a n4 (fun j => (T j).pushed) ∧ Below wc.heap.size wc wx)
  case first =>
    rcases R4 with ⟨rfl, rfl⟩ | ⟨x, rfl, A⟩
    · go_wp2
      go_meet
      case rel => exact ⟨_, _, rfl, .inl rfl, Below.refl _ _⟩
    · obtain ⟨w1, w2, hm, hc, hb, hA⟩ := copy_made 23 2 Try.underlying23 info2x x n4 c4 _ wc h4 A
      have hc1 := hc 3
      clear hc A
      go_wp2
      go_meet
      case rel => exact ⟨_, _, rfl, hA, hb⟩
  obtain ⟨a4', c4', rfl, A4, hbw⟩ := hcut
  have B4 := B3.trans (hbw.mono B3.size)
  replace A0 := A0.below hbw
  replace A1 := A1.below hbw
  replace A2 := A2.below hbw
  replace A3 := A3.below hbw
  replace R5 := R5.below hbw
  clear hbw q4 R4
  by_cases hl1 : n1 = n0
  rotate_left 1
  · go_wp2
    go_ret; exact ⟨rfl, B4⟩
  by_cases hl2 : n2 = n0
  rotate_left 1
  · go_wp2
    go_ret; exact ⟨rfl, B4⟩
  by_cases hl3 : n3 = n0
  rotate_left 1
  · go_wp2
    go_ret; exact ⟨rfl, B4⟩
  by_cases hl4 : n4 = n0
  rotate_left 1
  · go_wp2
    go_ret; exact ⟨rfl, B4⟩
  subst hl1 hl2 hl3
  subst hl4
  go_upto_region 41 with (go_at_call 7; refine (counts_any T n4 h0 _ _ _ _ _ A2 A3 (fun j _ => (hT j).1)).mono ?_; rintro e w' ⟨hw, he | ⟨waiting, first, he, hall⟩⟩ <;> subst he <;> obtain rfl := hw.symm)
  · go_ret; exact ⟨rfl, B4⟩
  have hk := kept_le T n4
  obtain ⟨⟨l1, l2, _, _, _⟩, _⟩ := lvs_facts (kept T n4).length (by omega)
  have hM1 : 0 < 2 * lvs (kept T n4).length := by omega
  have hM2 : 2 * lvs (kept T n4).length ≤ 1000000 := by omega
  clear l1 l2
  go_upto_region 45 with (first
    | (go_at_call 8; refine (clone_any _ _ _ _ h5 R5).mono ?_; rintro e w1 ⟨la, ll, lc, rfl, hb1⟩)
    | (go_at_call 9; refine (make_any n4 h0 T _ _ _ _ _ _ _ _ _ _ la ll lc _ _ _ _ (A0.below hb1) (A1.below hb1) (A2.below hb1) (A3.below hb1) (A4.below hb1)).mono ?_; rintro e w2 ⟨rfl, hb2, pa, g, cap, pb, hL⟩)
    | (go_at_call 10; refine (zzrebuild_any hL h0 (fun i hi => ⟨(hall i hi).1, (hT i).2⟩)).mono ?_; rintro e w3 ⟨rfl, lb, F, hL3, hin3, hc3, ht3, hlb⟩)
    | (go_at_call 11; refine (view_cs F lb _ _ hL3 (by omega) hM1 hM2 hc3.2).mono ?_; rintro e w4 ⟨p, k, rfl, hb4, hseen⟩)
    | (refine wpList_keep33 rfl _ _ rfl rfl p k _ _ _ _ _ rfl rfl ?_; intro V hbV hsV hrV))
  have H4 : Below wc.heap.size wc V := ((((hb1.trans (hb2.mono hb1.size)).trans (hin3.below hb1.size (Nat.le_trans hb1.size hb2.size))).trans (hb4.mono (Nat.le_trans hb1.size (Nat.le_trans hb2.size hin3.size)))).trans (hbV.mono (Nat.le_trans hb1.size (Nat.le_trans hb2.size (Nat.le_trans hin3.size hb4.size)))))
  have BV : Below w.heap.size w V := B4.trans (H4.mono B4.size)
  replace A0 := A0.below H4
  replace A1 := A1.below H4
  replace A2 := A2.below H4
  replace A3 := A3.below H4
  replace A4 := A4.below H4
  have S0 := seen_arr (m' := (kept T n4).length) (fun j => ((kept T n4).getD j ⟨0, 0, 0, 0, 0⟩).id) ((hseen 0 (by decide)).below hbV) rfl (fun _ => rfl)
  have S1 := seen_arr (m' := (kept T n4).length) (fun j => ((kept T n4).getD j ⟨0, 0, 0, 0, 0⟩).submit) ((hseen 1 (by decide)).below hbV) rfl (fun _ => rfl)
  have S2 := seen_arr (m' := (kept T n4).length) (fun j => ((kept T n4).getD j ⟨0, 0, 0, 0, 0⟩).work) ((hseen 2 (by decide)).below hbV) rfl (fun _ => rfl)
  have S3 := seen_arr (m' := (kept T n4).length) (fun j => ((kept T n4).getD j ⟨0, 0, 0, 0, 0⟩).count) ((hseen 3 (by decide)).below hbV) rfl (fun _ => rfl)
  have S4 := seen_arr (m' := (kept T n4).length) (fun j => ((kept T n4).getD j ⟨0, 0, 0, 0, 0⟩).pushed) ((hseen 4 (by decide)).below hbV) rfl (fun _ => rfl)
  have S6 := seen_arr (m' := pgs (kept T n4).length) (fun j => ((min 1024 ((kept T n4).length - 1024 * j) : Nat) : Int)) ((hseen 6 (by decide)).below hbV) rfl (fun _ => rfl)
  have S5 := (hseen 5 (by decide)).below hbV
  obtain ⟨e0, e1, e2, e3, e4, e5, e6, e7, e8, e9, e10⟩ := fields33 hrV
  clear hrV hseen hL hL3 hc3 hin3 hlb hb1 hb2 hb4 hbV R5 B0 B1 B2 B3 B4
  obtain ⟨m, hm⟩ : ∃ m, m = (kept T n4).length := ⟨_, rfl⟩
  have hB : w4.heap.size < V.heap.size := by omega
  generalize w4.heap.size = B at *
  obtain ⟨w5, hmk, hb5, hs5, O5⟩ := own_start 23 2 Try.underlying23 info2x m (fun j => ((kept T n4).getD j ⟨0, 0, 0, 0, 0⟩).work) V (by omega)
  rw [hm] at hmk
  have hs5' : V.heap.size < w5.heap.size := by omega
  clear hs5 hsV
  generalize p 0 = p0 at *
  generalize p 1 = p1 at *
  generalize p 2 = p2 at *
  generalize p 3 = p3 at *
  generalize p 4 = p4 at *
  generalize p 5 = p5 at *
  generalize p 6 = p6 at *
  go_wp2_with fail
  go_loopw [25, 26, 27] (fun v25 v26 v27 wr => ∃ i : Nat, i ≤ n4 ∧ v27 = .int .i64 i ∧ v26 = .int .i64 (kept T i).length ∧ v25 = .slice (some ⟨V.heap.size, 0, none⟩) (kept T i).length (kept T n4).length ∧ Below V.heap.size V wr ∧ V.heap.size < wr.heap.size ∧ Own wr V.heap.size (kept T i).length m (fun j => ((kept T n4).getD j ⟨0, 0, 0, 0, 0⟩).work)) (fun _ _ v27 _ => n4 - (intOf v27).toNat)
  case atStart => exact ⟨0, Nat.zero_le _, rfl, rfl, rfl, hb5, hs5', O5⟩
  case round =>
    obtain ⟨i, hi, rfl, rfl, rfl, hbel, hsz, O⟩ := hrel
    clear hmk hb5 hs5' O5
    by_cases hlt : i < n4
    · rcases A0 with h | ⟨b0, rfl, I0⟩
      · omega
      rcases A1 with h | ⟨b1, rfl, I1⟩
      · omega
      rcases A2 with h | ⟨b2, rfl, I2⟩
      · omega
      rcases A3 with h | ⟨b3, rfl, I3⟩
      · omega
      rcases A4 with h | ⟨b4, rfl, I4⟩
      · omega
      replace I0 : wr.cell? ⟨b0, i, none⟩ = some (.int .i64 (T i).id) := (hbel.cell (p := ⟨b0, i, none⟩) (block_lt_of_cell (I0 i hlt))).trans (I0 i hlt)
      replace I1 : wr.cell? ⟨b1, i, none⟩ = some (.int .i64 (T i).submit) := (hbel.cell (p := ⟨b1, i, none⟩) (block_lt_of_cell (I1 i hlt))).trans (I1 i hlt)
      replace I2 : wr.cell? ⟨b2, i, none⟩ = some (.int .i64 (T i).work) := (hbel.cell (p := ⟨b2, i, none⟩) (block_lt_of_cell (I2 i hlt))).trans (I2 i hlt)
      replace I3 : wr.cell? ⟨b3, i, none⟩ = some (.int .i64 (T i).count) := (hbel.cell (p := ⟨b3, i, none⟩) (block_lt_of_cell (I3 i hlt))).trans (I3 i hlt)
      replace I4 : wr.cell? ⟨b4, i, none⟩ = some (.int .i64 (T i).pushed) := (hbel.cell (p := ⟨b4, i, none⟩) (block_lt_of_cell (I4 i hlt))).trans (I4 i hlt)
      by_cases hpos : 0 < (T i).count
      · obtain ⟨hat, hlt2⟩ := kept_at T hlt hpos ⟨0, 0, 0, 0, 0⟩
        have hk1 : (kept T (i + 1)).length = (kept T i).length + 1 := by rw [kept_yes hpos]; simp
        have HK1 : Hid ((kept T (i + 1)).length = (kept T i).length + 1) := hk1
        rcases S0 with h | ⟨s0, rfl, J0⟩
        · omega
        replace J0 : wr.cell? ⟨s0, (kept T i).length, none⟩ = some (.int .i64 (T i).id) := by
          have h := (hbel.cell (p := ⟨s0, (kept T i).length, none⟩) (block_lt_of_cell (J0 _ hlt2))).trans (J0 _ hlt2)
          rw [show ((fun j => ((kept T n4).getD j ⟨0, 0, 0, 0, 0⟩).id) (kept T i).length) = (T i).id from congrArg Task.id hat] at h
          exact h
        replace e0 := (hbel.cell (p := ⟨B, 0, none⟩) hB).trans e0
        rcases S1 with h | ⟨s1, rfl, J1⟩
        · omega
        replace J1 : wr.cell? ⟨s1, (kept T i).length, none⟩ = some (.int .i64 (T i).submit) := by
          have h := (hbel.cell (p := ⟨s1, (kept T i).length, none⟩) (block_lt_of_cell (J1 _ hlt2))).trans (J1 _ hlt2)
          rw [show ((fun j => ((kept T n4).getD j ⟨0, 0, 0, 0, 0⟩).submit) (kept T i).length) = (T i).submit from congrArg Task.submit hat] at h
          exact h
        replace e1 := (hbel.cell (p := ⟨B, 1, none⟩) hB).trans e1
        rcases S2 with h | ⟨s2, rfl, J2⟩
        · omega
        replace J2 : wr.cell? ⟨s2, (kept T i).length, none⟩ = some (.int .i64 (T i).work) := by
          have h := (hbel.cell (p := ⟨s2, (kept T i).length, none⟩) (block_lt_of_cell (J2 _ hlt2))).trans (J2 _ hlt2)
          rw [show ((fun j => ((kept T n4).getD j ⟨0, 0, 0, 0, 0⟩).work) (kept T i).length) = (T i).work from congrArg Task.work hat] at h
          exact h
        replace e2 := (hbel.cell (p := ⟨B, 2, none⟩) hB).trans e2
        rcases S3 with h | ⟨s3, rfl, J3⟩
        · omega
        replace J3 : wr.cell? ⟨s3, (kept T i).length, none⟩ = some (.int .i64 (T i).count) := by
          have h := (hbel.cell (p := ⟨s3, (kept T i).length, none⟩) (block_lt_of_cell (J3 _ hlt2))).trans (J3 _ hlt2)
          rw [show ((fun j => ((kept T n4).getD j ⟨0, 0, 0, 0, 0⟩).count) (kept T i).length) = (T i).count from congrArg Task.count hat] at h
          exact h
        replace e3 := (hbel.cell (p := ⟨B, 3, none⟩) hB).trans e3
        rcases S4 with h | ⟨s4, rfl, J4⟩
        · omega
        replace J4 : wr.cell? ⟨s4, (kept T i).length, none⟩ = some (.int .i64 (T i).pushed) := by
          have h := (hbel.cell (p := ⟨s4, (kept T i).length, none⟩) (block_lt_of_cell (J4 _ hlt2))).trans (J4 _ hlt2)
          rw [show ((fun j => ((kept T n4).getD j ⟨0, 0, 0, 0, 0⟩).pushed) (kept T i).length) = (T i).pushed from congrArg Task.pushed hat] at h
          exact h
        replace e4 := (hbel.cell (p := ⟨B, 4, none⟩) hB).trans e4
        have hne0 : ¬ (T i).count = 0 := by omega
        have hkm : (kept T i).length ≤ 65536 := by omega
        have HW : Hid ((fun j => ((kept T n4).getD j ⟨0, 0, 0, 0, 0⟩).work) (kept T i).length = (T i).work) := congrArg Task.work hat
        clear hk1 hat
        generalize (T i).id = x0 at *
        generalize (T i).submit = x1 at *
        generalize (T i).work = x2 at *
        generalize (T i).count = x3 at *
        generalize (T i).pushed = x4 at *
        go_wp2_with fail
        go_quiet (fail)
        obtain ⟨w6, hap, O6, hs6, hb6, _⟩ := own_step 23 2 Try.underlying23 info2x (show Own (wr.drewN nq) _ _ _ _ from O) (show (kept T i).length < m by omega) hsz
        rw [HW.out] at hap
        replace hap := hap 23
        rw [hm] at hap
        have hbel6 : Below V.heap.size V w6 := (show Below V.heap.size V (wr.drewN nq) from ⟨hbel.os, hbel.tape, hbel.output, hbel.size, hbel.block⟩).trans (hb6 _ (Nat.le_refl _))
        have hsz6 : V.heap.size < w6.heap.size := by rw [hs6]; exact Nat.lt_succ_of_lt hsz
        clear hs6 hb6 O hbel
        go_wp2_with (at_builtin; refine wpList_append rfl _ _ 23 rfl rfl rfl hap ?_)
        go_roundw
        case rel => exact ⟨i + 1, by omega, by go_num, by rw [HK1.out]; go_num, by rw [HK1.out], hbel6, hsz6, by rw [HK1.out]; exact O6⟩
        case measure => simp [intOf]; omega
      · have hz : (T i).count = 0 := by have := (hall i hlt).2; omega
        rw [hz] at I3
        have HK0 : Hid (kept T (i + 1) = kept T i) := kept_no hpos
        go_wp2
        go_roundw
        case rel => exact ⟨i + 1, by omega, by go_num, by rw [show kept T (i + 1) = kept T i from HK0], by rw [show kept T (i + 1) = kept T i from HK0], hbel, hsz, by rw [show kept T (i + 1) = kept T i from HK0]; exact O⟩
        case measure => simp [intOf]; omega
    · obtain rfl : n4 = i := by omega
      rcases S5 with h | ⟨g5, rfl, _, _, J5⟩
      · exact absurd h (Nat.ne_of_gt hM1)
      have c12 := pages_any (kept T n4).length (by omega) p6 (k 6) wr (S6.below hbel)
      have c13 := tree_any (kept T n4).length (by omega) _ F ht3 (fun j hj => (kept_pos T n4 _ j hj).1) (fun j hj => by obtain ⟨_, i, hi, he⟩ := kept_pos T n4 ⟨0, 0, 0, 0, 0⟩ j hj; rw [he]; exact ⟨(hall i hi).1, (hT i).2⟩) g5 (k 5) (kept T n4).length (some ⟨V.heap.size, 0, none⟩) wr
        (fun j hj => (hbel.cell (p := ⟨g5, j, none⟩) (block_lt_of_cell (J5 j hj))).trans (J5 j hj)) O.arr
      replace e5 := (hbel.cell (p := ⟨B, 5, none⟩) hB).trans e5
      replace e6 := (hbel.cell (p := ⟨B, 6, none⟩) hB).trans e6
      have BR : Below w.heap.size w wr := BV.trans (hbel.mono BV.size)
      clear J5 S0 S1 S2 S3 S4 S6 A0 A1 A2 A3 A4 ht3 hall hT O hbel
      generalize (kept T n4).length = N at *
      go_wp2_with (first
        | (go_at_call 12; refine c12.mono ?_; rintro e w' ⟨rfl, hw'⟩; obtain rfl := hw'.symm)
        | (go_at_call 13; refine c13.mono ?_; rintro e w' ⟨rfl, hw'⟩; obtain rfl := hw'.symm))
      go_ret
      exact ⟨rfl, BR⟩

end Go.Proofs.Qxb6609061a.Line
