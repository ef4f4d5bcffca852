import Derived.Test.Qxb6609061aRising
import Derived.LaidEqlPtr
namespace Go.Proofs.Qxb6609061a.Rising
open Go.RowKit

theorem below_drewN (w : World) (n : Nat) : Below w.heap.size w (w.drewN n) := ⟨rfl, rfl, rfl, Nat.le_refl _, fun _ _ => rfl⟩

theorem quietly {f : FuncId} {args : Array Value} {w : World} {v : Value} (h : Calls Try.prog f args w fun e w' => e = .returned v ∧ ∃ n, w' = w.drewN n) : Calls Try.prog f args w fun e w' => e = .returned v ∧ Below w.heap.size w w' :=
  h.mono fun _ _ ⟨he, n, hw⟩ => ⟨he, by rw [hw]; exact below_drewN _ _⟩

theorem info92 : (Try.prog.info? 92).map (fun i => i.size) = some 16 := by kernel_rfl

/-- Two risings at two blocks are not one. -/
theorem eql_two {w : World} {r1 m1 s1 r2 m2 s2 : Nat} {a1 b1 a2 b2 : Int} {k1 k2 : Nat} (h1 : RisingAt w r1 m1 s1 a1 b1 k1) (h2 : RisingAt w r2 m2 s2 a2 b2 k2) (hne : r1 ≠ r2) :
    (binOp .eql 40 (.pointer (some ⟨r1, 0, none⟩)) (.pointer (some ⟨r2, 0, none⟩))).run Try.prog w = .ok (.bool false) w := by
  cases hq : Try.prog.info? 92 with
  | none => have := info92; simp [hq] at this
  | some i =>
    have hs : i.size = 16 := by have := info92; simpa [hq] using this
    exact run_eql_ptr_other (P := Try.prog) w (a := ⟨r1, 0, none⟩) (b := ⟨r2, 0, none⟩) Try.underlying40 hq (by omega) (by intro h; simp only [Addr.mk.injEq] at h; exact hne h.1) h1.cells h2.cells

theorem neq_now (w : World) : (binOp .neq 59 (.agg #[.int .i64 0, .int .u64 0, .int .u64 0]) (.agg #[.int .i64 0, .int .u64 0, .int .u64 0])).run Try.prog w = .ok (.bool false) w := by kernel_rfl

set_option maxHeartbeats 2000000 in
set_option maxRecDepth 100000 in
theorem law5_most (age most seed sw sd : Int) (hm0 : (most != 0) = true) (pl : ByteArray) (hpl : pl.size ≤ 65536) (w : World) :
    Calls Try.prog 5 #[.int .i64 age, .int .i64 most, .int .u64 seed, .int .i64 sw, .int .i64 sd, .string pl] w fun e w' => e = .returned (.bool true) ∧ Below w.heap.size w w' := by
  have HM : Hid (mostOf most = most) := by
    have : most ≠ 0 := by simpa using hm0
    simp [mostOf, this, Hid]
  have hneq := neq_now
  go_enter Try.func5, Try.ntmps5
  go_wp2_with fail
  refine (bytes_any age most seed sw sd pl (by omega) w).mono ?_
  rintro e w0 ⟨h | h, hw⟩
  · rw [h, hw]
    clear h hw
    go_wp2
    go_ret
    exact ⟨rfl, Below.refl _ _⟩
  rw [h, hw]
  clear h hw
  go_wp2_with fail
  refine (config_any age most 0 0 0 _ w).mono ?_
  rintro e w1 ⟨rfl, HB1⟩
  go_wp2_with fail
  refine (zznew_any age most 0 0 0 _ w1).mono ?_
  rintro e w2 ⟨r1, m1, s1, rfl, R1, h1a, h1b, h1c, hb2⟩
  rw [HM.out] at R1
  have HB2 := HB1.trans (hb2.mono HB1.size)
  clear HB1 hb2 h1a
  go_wp2_with fail
  refine (config_any age most seed sw sd pl w2).mono ?_
  rintro e w3 ⟨rfl, hb3⟩
  have R1 := R1.all hb3
  have HB3 := HB2.trans (hb3.mono HB2.size)
  clear HB2 hb3
  go_wp2_with fail
  refine (zznew_any age most seed sw sd pl w3).mono ?_
  rintro e w4 ⟨r2, m2, s2, rfl, R2, h2a, h2b, h2c, hb4⟩
  rw [HM.out] at R2
  have hr1 := block_lt R1.cells
  have hm1 := block_lt R1.cohorts
  have hs1 : s1 < w3.heap.size := by obtain ⟨_, _, _, he⟩ := R1.served; exact block_lt he
  have R1 := R1.all hb4
  have HB4 := HB3.trans (hb4.mono HB3.size)
  have hW := HB3.size
  clear HB3 hb4
  have heq := eql_two R1 R2 (by omega)
  go_wp2_with fail
  refine (quietly (span_any r1 m1 s1 age most 0 w4 R1)).mono ?_
  rintro e w5 ⟨rfl, hb5⟩
  have R1 := R1.all hb5
  have R2 := R2.all hb5
  have HB5 := HB4.trans (hb5.mono HB4.size)
  clear hb5 HB4 heq
  go_wp2_with fail
  refine (quietly (span_any r2 m2 s2 age most 0 w5 R2)).mono ?_
  rintro e w6 ⟨rfl, hb6⟩
  have R1 := R1.all hb6
  have R2 := R2.all hb6
  have HB6 := HB5.trans (hb6.mono HB5.size)
  clear hb6 HB5
  go_wp2_with fail
  refine (now_any r1 m1 s1 age most 0 w6 R1).mono ?_
  rintro e w7 ⟨rfl, hb7⟩
  have R1 := R1.all hb7
  have R2 := R2.all hb7
  have HB7 := HB6.trans (hb7.mono HB6.size)
  clear hb7 HB6
  go_wp2_with fail
  refine (now_any r2 m2 s2 age most 0 w7 R2).mono ?_
  rintro e w8 ⟨rfl, hb8⟩
  have R1 := R1.all hb8
  have R2 := R2.all hb8
  have HB8 := HB7.trans (hb8.mono HB7.size)
  clear hb8 HB7
  go_wp2_with fail
  refine (quietly (lens_any r1 m1 s1 age most 0 w8 R1)).mono ?_
  rintro e w9 ⟨rfl, hb9⟩
  have R1 := R1.all hb9
  have R2 := R2.all hb9
  have HB9 := HB8.trans (hb9.mono HB8.size)
  clear hb9 HB8
  go_wp2_with fail
  refine (zero_any w9).mono ?_
  rintro e wz ⟨rfl, hwz⟩
  rw [hwz]
  clear hwz
  go_wp2_with fail
  refine (quietly (lens_any r2 m2 s2 age most 0 w9 R2)).mono ?_
  rintro e w10 ⟨rfl, hb10⟩
  have R1 := R1.all hb10
  have R2 := R2.all hb10
  have HB10 := HB9.trans (hb10.mono HB9.size)
  clear hb10 HB9
  go_wp2_with fail
  refine (zero_any w10).mono ?_
  rintro e wz ⟨rfl, hwz⟩
  rw [hwz]
  clear hwz
  go_wp2_with fail
  refine (quietly (counts_any r1 m1 s1 age most 0 w10 R1)).mono ?_
  rintro e w11 ⟨rfl, hb11⟩
  have R1 := R1.all hb11
  have R2 := R2.all hb11
  have HB11 := HB10.trans (hb11.mono HB10.size)
  clear hb11 HB10
  go_wp2_with fail
  refine (none_any w11).mono ?_
  rintro e wz ⟨rfl, hwz⟩
  rw [hwz]
  clear hwz
  go_wp2_with fail
  refine (quietly (counts_any r2 m2 s2 age most 0 w11 R2)).mono ?_
  rintro e w12 ⟨rfl, hb12⟩
  have R1 := R1.all hb12
  have R2 := R2.all hb12
  have HB12 := HB11.trans (hb12.mono HB11.size)
  clear hb12 HB11
  go_wp2_with fail
  refine (none_any w12).mono ?_
  rintro e wz ⟨rfl, hwz⟩
  rw [hwz]
  clear hwz
  go_wp2_with fail
  refine (quietly (made_any r1 m1 s1 age most 0 w12 R1)).mono ?_
  rintro e w13 ⟨rfl, hb13⟩
  have R1 := R1.all hb13
  have R2 := R2.all hb13
  have HB13 := HB12.trans (hb13.mono HB12.size)
  clear hb13 HB12
  go_wp2_with fail
  refine (both_any w13).mono ?_
  rintro e wz ⟨rfl, hwz⟩
  rw [hwz]
  clear hwz
  go_wp2_with fail
  refine (quietly (made_any r2 m2 s2 age most 0 w13 R2)).mono ?_
  rintro e w14 ⟨rfl, hb14⟩
  have R1 := R1.all hb14
  have R2 := R2.all hb14
  have HB14 := HB13.trans (hb14.mono HB13.size)
  clear hb14 HB13
  go_wp2_with fail
  refine (both_any w14).mono ?_
  rintro e wz ⟨rfl, hwz⟩
  rw [hwz]
  clear hwz
  go_wp2_with fail
  refine (mark_any w3.heap.size r2 m2 s2 age most w14 R2 (by omega) (by omega) (by omega)).mono ?_
  rintro e w15 ⟨rfl, R2, hb15, _⟩
  have R1 := R1.below hb15 hr1 hm1 hs1
  have HB15 := HB14.trans (hb15.mono hW)
  clear hb15 HB14
  go_wp2_with fail
  refine (quietly (lens_any r1 m1 s1 age most 0 w15 R1)).mono ?_
  rintro e w16 ⟨rfl, hb16⟩
  have R1 := R1.all hb16
  have R2 := R2.all hb16
  have HB16 := HB15.trans (hb16.mono HB15.size)
  clear hb16 HB15
  go_wp2_with fail
  refine (quietly (lens_any r2 m2 s2 age most 1 w16 R2)).mono ?_
  rintro e w17 ⟨rfl, hb17⟩
  have R1 := R1.all hb17
  have R2 := R2.all hb17
  have HB17 := HB16.trans (hb17.mono HB16.size)
  clear hb17 HB16
  go_wp2
  go_ret
  exact ⟨rfl, HB17⟩

set_option maxHeartbeats 2000000 in
set_option maxRecDepth 100000 in
theorem law5_zero (age seed sw sd : Int) (pl : ByteArray) (hpl : pl.size ≤ 65536) (w : World) :
    Calls Try.prog 5 #[.int .i64 age, .int .i64 0, .int .u64 seed, .int .i64 sw, .int .i64 sd, .string pl] w fun e w' => e = .returned (.bool true) ∧ Below w.heap.size w w' := by
  have HM : Hid (mostOf 0 = 9223372036854774807) := rfl
  have hneq := neq_now
  go_enter Try.func5, Try.ntmps5
  go_wp2_with fail
  refine (bytes_any age 0 seed sw sd pl (by omega) w).mono ?_
  rintro e w0 ⟨h | h, hw⟩
  · rw [h, hw]
    clear h hw
    go_wp2
    go_ret
    exact ⟨rfl, Below.refl _ _⟩
  rw [h, hw]
  clear h hw
  go_wp2_with fail
  refine (config_any age 0 0 0 0 _ w).mono ?_
  rintro e w1 ⟨rfl, HB1⟩
  go_wp2_with fail
  refine (zznew_any age 0 0 0 0 _ w1).mono ?_
  rintro e w2 ⟨r1, m1, s1, rfl, R1, h1a, h1b, h1c, hb2⟩
  rw [HM.out] at R1
  have HB2 := HB1.trans (hb2.mono HB1.size)
  clear HB1 hb2 h1a
  go_wp2_with fail
  refine (config_any age 0 seed sw sd pl w2).mono ?_
  rintro e w3 ⟨rfl, hb3⟩
  have R1 := R1.all hb3
  have HB3 := HB2.trans (hb3.mono HB2.size)
  clear HB2 hb3
  go_wp2_with fail
  refine (zznew_any age 0 seed sw sd pl w3).mono ?_
  rintro e w4 ⟨r2, m2, s2, rfl, R2, h2a, h2b, h2c, hb4⟩
  rw [HM.out] at R2
  have hr1 := block_lt R1.cells
  have hm1 := block_lt R1.cohorts
  have hs1 : s1 < w3.heap.size := by obtain ⟨_, _, _, he⟩ := R1.served; exact block_lt he
  have R1 := R1.all hb4
  have HB4 := HB3.trans (hb4.mono HB3.size)
  have hW := HB3.size
  clear HB3 hb4
  have heq := eql_two R1 R2 (by omega)
  go_wp2_with fail
  refine (quietly (span_any r1 m1 s1 age 9223372036854774807 0 w4 R1)).mono ?_
  rintro e w5 ⟨rfl, hb5⟩
  have R1 := R1.all hb5
  have R2 := R2.all hb5
  have HB5 := HB4.trans (hb5.mono HB4.size)
  clear hb5 HB4 heq
  go_wp2_with fail
  refine (quietly (span_any r2 m2 s2 age 9223372036854774807 0 w5 R2)).mono ?_
  rintro e w6 ⟨rfl, hb6⟩
  have R1 := R1.all hb6
  have R2 := R2.all hb6
  have HB6 := HB5.trans (hb6.mono HB5.size)
  clear hb6 HB5
  go_wp2_with fail
  refine (now_any r1 m1 s1 age 9223372036854774807 0 w6 R1).mono ?_
  rintro e w7 ⟨rfl, hb7⟩
  have R1 := R1.all hb7
  have R2 := R2.all hb7
  have HB7 := HB6.trans (hb7.mono HB6.size)
  clear hb7 HB6
  go_wp2_with fail
  refine (now_any r2 m2 s2 age 9223372036854774807 0 w7 R2).mono ?_
  rintro e w8 ⟨rfl, hb8⟩
  have R1 := R1.all hb8
  have R2 := R2.all hb8
  have HB8 := HB7.trans (hb8.mono HB7.size)
  clear hb8 HB7
  go_wp2_with fail
  refine (quietly (lens_any r1 m1 s1 age 9223372036854774807 0 w8 R1)).mono ?_
  rintro e w9 ⟨rfl, hb9⟩
  have R1 := R1.all hb9
  have R2 := R2.all hb9
  have HB9 := HB8.trans (hb9.mono HB8.size)
  clear hb9 HB8
  go_wp2_with fail
  refine (zero_any w9).mono ?_
  rintro e wz ⟨rfl, hwz⟩
  rw [hwz]
  clear hwz
  go_wp2_with fail
  refine (quietly (lens_any r2 m2 s2 age 9223372036854774807 0 w9 R2)).mono ?_
  rintro e w10 ⟨rfl, hb10⟩
  have R1 := R1.all hb10
  have R2 := R2.all hb10
  have HB10 := HB9.trans (hb10.mono HB9.size)
  clear hb10 HB9
  go_wp2_with fail
  refine (zero_any w10).mono ?_
  rintro e wz ⟨rfl, hwz⟩
  rw [hwz]
  clear hwz
  go_wp2_with fail
  refine (quietly (counts_any r1 m1 s1 age 9223372036854774807 0 w10 R1)).mono ?_
  rintro e w11 ⟨rfl, hb11⟩
  have R1 := R1.all hb11
  have R2 := R2.all hb11
  have HB11 := HB10.trans (hb11.mono HB10.size)
  clear hb11 HB10
  go_wp2_with fail
  refine (none_any w11).mono ?_
  rintro e wz ⟨rfl, hwz⟩
  rw [hwz]
  clear hwz
  go_wp2_with fail
  refine (quietly (counts_any r2 m2 s2 age 9223372036854774807 0 w11 R2)).mono ?_
  rintro e w12 ⟨rfl, hb12⟩
  have R1 := R1.all hb12
  have R2 := R2.all hb12
  have HB12 := HB11.trans (hb12.mono HB11.size)
  clear hb12 HB11
  go_wp2_with fail
  refine (none_any w12).mono ?_
  rintro e wz ⟨rfl, hwz⟩
  rw [hwz]
  clear hwz
  go_wp2_with fail
  refine (quietly (made_any r1 m1 s1 age 9223372036854774807 0 w12 R1)).mono ?_
  rintro e w13 ⟨rfl, hb13⟩
  have R1 := R1.all hb13
  have R2 := R2.all hb13
  have HB13 := HB12.trans (hb13.mono HB12.size)
  clear hb13 HB12
  go_wp2_with fail
  refine (both_any w13).mono ?_
  rintro e wz ⟨rfl, hwz⟩
  rw [hwz]
  clear hwz
  go_wp2_with fail
  refine (quietly (made_any r2 m2 s2 age 9223372036854774807 0 w13 R2)).mono ?_
  rintro e w14 ⟨rfl, hb14⟩
  have R1 := R1.all hb14
  have R2 := R2.all hb14
  have HB14 := HB13.trans (hb14.mono HB13.size)
  clear hb14 HB13
  go_wp2_with fail
  refine (both_any w14).mono ?_
  rintro e wz ⟨rfl, hwz⟩
  rw [hwz]
  clear hwz
  go_wp2_with fail
  refine (mark_any w3.heap.size r2 m2 s2 age 9223372036854774807 w14 R2 (by omega) (by omega) (by omega)).mono ?_
  rintro e w15 ⟨rfl, R2, hb15, _⟩
  have R1 := R1.below hb15 hr1 hm1 hs1
  have HB15 := HB14.trans (hb15.mono hW)
  clear hb15 HB14
  go_wp2_with fail
  refine (quietly (lens_any r1 m1 s1 age 9223372036854774807 0 w15 R1)).mono ?_
  rintro e w16 ⟨rfl, hb16⟩
  have R1 := R1.all hb16
  have R2 := R2.all hb16
  have HB16 := HB15.trans (hb16.mono HB15.size)
  clear hb16 HB15
  go_wp2_with fail
  refine (quietly (lens_any r2 m2 s2 age 9223372036854774807 1 w16 R2)).mono ?_
  rintro e w17 ⟨rfl, hb17⟩
  have R1 := R1.all hb17
  have R2 := R2.all hb17
  have HB17 := HB16.trans (hb17.mono HB16.size)
  clear hb17 HB16
  go_wp2
  go_ret
  exact ⟨rfl, HB17⟩

set_option maxHeartbeats 400000 in
set_option maxRecDepth 100000 in
theorem law5_big (age most seed sw sd : Int) (pl : ByteArray) (hpl : pl.size ≤ 9223372036854775807) (hbig : ¬ pl.size ≤ 65536) (w : World) :
    Calls Try.prog 5 #[.int .i64 age, .int .i64 most, .int .u64 seed, .int .i64 sw, .int .i64 sd, .string pl] w fun e w' => e = .returned (.bool true) ∧ Below w.heap.size w w' := by
  go_enter Try.func5, Try.ntmps5
  go_wp2_with fail
  refine (bytes_any age most seed sw sd pl hpl w).mono ?_
  rintro e w0 ⟨h | h, hw⟩
  all_goals
    rw [h, hw]
    clear h hw
    go_wp2
    go_ret
    exact ⟨rfl, Below.refl _ _⟩

theorem law5_any (age most seed sw sd : Int) (pl : ByteArray) (hpl : pl.size ≤ 9223372036854775807) (w : World) :
    Calls Try.prog 5 #[.int .i64 age, .int .i64 most, .int .u64 seed, .int .i64 sw, .int .i64 sd, .string pl] w fun e w' => e = .returned (.bool true) ∧ Below w.heap.size w w' := by
  by_cases hbig : pl.size ≤ 65536
  · by_cases h0 : most = 0
    · subst h0
      exact law5_zero age seed sw sd pl hbig w
    · exact law5_most age most seed sw sd (by simpa using h0) pl hbig w
  · exact law5_big age most seed sw sd pl hpl hbig w

end Go.Proofs.Qxb6609061a.Rising
