/-
  FnCompareRangesMatchesKeyOrder: the walk.
-/
import Derived.Test.Qxb6614828aHeld
namespace Go.Proofs.Qxb6614828a.Bytes
open Go.RowKit Go.Proofs.Qxb6614828a.Cmp

set_option maxHeartbeats 1600000 in
set_option maxRecDepth 100000 in
theorem top3 (a0 a1 a2 a6 a7 a8 : ByteArray) (a3 a4 a5 a9 a10 a11 : Int) (h3 : -9223372036854775808 ≤ a3) (h3' : a3 ≤ 9223372036854775807) (h9 : -9223372036854775808 ≤ a9) (h9' : a9 ≤ 9223372036854775807)
    (h5 : 0 ≤ a5) (h5' : a5 ≤ 18446744073709551615) (h11 : 0 ≤ a11) (h11' : a11 ≤ 18446744073709551615) (w : World) :
    Calls Try.prog 3 #[.string a0, .string a1, .string a2, .int .i64 a3, .int .i64 a4, .int .u64 a5, .string a6, .string a7, .string a8, .int .i64 a9, .int .i64 a10, .int .u64 a11] w fun e w' => e = .returned (.bool true) ∧ Below w.heap.size w w' := by
  by_cases hA : a0.size ≤ 65536 ∧ a1.size ≤ 65536 ∧ a2.size ≤ 65536
  · obtain ⟨ha0, ha1, ha2⟩ := hA
    by_cases hB : a6.size ≤ 65536 ∧ a7.size ≤ 65536 ∧ a8.size ≤ 65536
    · obtain ⟨hb0, hb1, hb2⟩ := hB
      go_enter Try.func3, Try.ntmps3
      go_wp2_with (go_at_call 7; refine (zz7_any _ _ _ _ _ _ _ _ _ _ _ _ _).mono ?_; rintro e w' ⟨he | he, rfl⟩ <;> subst he)
      · generalize hW1 : (World.alloc (World.alloc _ (.cells #[.int .i64 a3, .int .i64 a4] 27)) _) = W1
        generalize hW2 : (World.alloc (World.alloc W1 _) _) = W2
        have e1 : W1.heap.size = w'.heap.size + 2 := by rw [← hW1]; simp
        have B1 : Below w'.heap.size w' W1 := by rw [← hW1]; exact laid_below _ _ _
        have HA1 : Held W1 (w'.heap.size + 1) a0 a1 a2 a5 w'.heap.size a3 := by rw [← hW1]; exact Held.laid _ _ _ _ _ _ _
        have B2 : Below W1.heap.size W1 W2 := by rw [← hW2]; exact laid_below _ _ _
        have HB2 : Held W2 (w'.heap.size + 1 + 1 + 1) a6 a7 a8 a11 (w'.heap.size + 1 + 1) a9 := by
          have := Held.laid W1 a6 a7 a8 a11 a9 a10
          rw [e1] at this; rw [← hW2]; exact this
        have HA2 := HA1.below B2
        have BB2 := two_below B1 B2
        clear hW1 hW2 HA1 B1 B2 e1
        refine (key_any a3 a1 a5 h3 h3' h5 h5' ha1 W2).mono ?_
        rintro e w3 ⟨v1, rfl, K1⟩
        obtain ⟨g1, c1, rfl, L1, b1⟩ := K1.cells
        have HA3 := HA2.below K1.bel
        have HB3 := HB2.below K1.bel
        have BB3 := two_below BB2 K1.bel
        clear HA2 HB2 BB2 K1
        go_wp2_with fail
        refine (key_any a9 a7 a11 h9 h9' h11 h11' hb1 w3).mono ?_
        rintro e w4 ⟨v2, rfl, K2⟩
        obtain ⟨g2, c2, rfl, L2, b2⟩ := K2.cells
        have HA4 := HA3.below K2.bel
        have HB4 := HB3.below K2.bel
        have BB4 := two_below BB3 K2.bel
        have L1' := L1.below b1 K2.bel
        have b1' : g1 < w4.heap.size := Nat.lt_of_lt_of_le b1 K2.bel.size
        clear HA3 HB3 BB3 K2 L1 b1
        have cb := bytes_any _ _ g1 g2 c1 c2 w4 (key_len a3 a1 a5 ha1) (key_len a9 a7 a11 hb1) L1' L2 b1' b2
        rw [key_law a3 a5 a9 a11 a1 a7 h3 h3' h9 h9' h5 h5' h11 h11'] at cb
        go_wp2_with fail
        refine cb.mono ?_
        rintro e w5 ⟨rfl, B5⟩
        have HA5 := HA4.below B5
        have HB5 := HB4.below B5
        have BB5 := two_below BB4 B5
        clear HA4 HB4 BB4 B5 L1' L2 b1' b2 cb
        have cz := zz_any a0 a1 a2 a5 _ a6 a7 a8 a11 _ a3 a9 w5 HA5.cr HB5.cr
        have hsw : ranks a9 a7 a11 a3 a1 a5 = - ranks a3 a1 a5 a9 a7 a11 := by
          rw [← key_law a3 a5 a9 a11 a1 a7 h3 h3' h9 h9' h5 h5' h11 h11', ← key_law a9 a11 a3 a5 a7 a1 h9 h9' h3 h3' h11 h11' h5 h5', lex_swap]
        have h3v : ranks a3 a1 a5 a9 a7 a11 = -1 ∨ ranks a3 a1 a5 a9 a7 a11 = 0 ∨ ranks a3 a1 a5 a9 a7 a11 = 1 := by
          rw [← key_law a3 a5 a9 a11 a1 a7 h3 h3' h9 h9' h5 h5' h11 h11']; exact lex_three _ _
        have cz2 : ∀ w6, Below w5.heap.size w5 w6 → Calls Try.prog 10 #[.agg #[.string a6, .string a7, .string a8, .int .u64 a11, .pointer (some ⟨w'.heap.size + 1 + 1, 0, none⟩)], .agg #[.string a0, .string a1, .string a2, .int .u64 a5, .pointer (some ⟨w'.heap.size, 0, none⟩)]] w6 fun e w'' =>
            e = .returned (.int .i64 (- ranks a3 a1 a5 a9 a7 a11)) ∧ Below w6.heap.size w6 w'' := fun w6 h6 => by
          have := zz_any a6 a7 a8 a11 _ a0 a1 a2 a5 _ a9 a3 w6 (HB5.below h6).cr (HA5.below h6).cr
          rw [hsw] at this
          exact this
        generalize ranks a3 a1 a5 a9 a7 a11 = R at *
        clear hsw
        obtain ⟨p0, p1, p2, p3, p4, pr⟩ := id HA5
        obtain ⟨q0, q1, q2, q3, q4, qr⟩ := id HB5
        go_wp2_with fail
        refine cz.mono ?_
        rintro e w6 ⟨rfl, B6⟩
        have HA6 := HA5.below B6
        have HB6 := HB5.below B6
        have BB6 := two_below BB5 B6
        have cz3 := cz2 w6 B6
        clear p0 p1 p2 p3 p4 pr q0 q1 q2 q3 q4 qr cz cz2 HA5 HB5 BB5 B6
        obtain ⟨p0, p1, p2, p3, p4, pr⟩ := id HA6
        obtain ⟨q0, q1, q2, q3, q4, qr⟩ := id HB6
        go_wp2_with fail
        refine cz3.mono ?_
        rintro e w7 ⟨rfl, B7⟩
        have BB7 := two_below BB6 B7
        clear p0 p1 p2 p3 p4 pr q0 q1 q2 q3 q4 qr cz3 HA6 HB6 BB6 B7
        rcases h3v with rfl | rfl | rfl
        · go_wp2
          go_ret
          exact ⟨rfl, BB7⟩
        · go_wp2
          go_ret
          exact ⟨rfl, BB7⟩
        · go_wp2
          go_ret
          exact ⟨rfl, BB7⟩
      · go_ret
        exact ⟨rfl, Below.refl _ _⟩
    · go_enter Try.func3, Try.ntmps3
      go_wp2_with (go_at_call 7; refine (zz7_any _ _ _ _ _ _ _ _ _ _ _ _ _).mono ?_; rintro e w' ⟨he | he, rfl⟩ <;> subst he)
      all_goals first | (exfalso; omega) | (go_ret; exact ⟨rfl, Below.refl _ _⟩)
  · go_enter Try.func3, Try.ntmps3
    go_wp2_with (go_at_call 7; refine (zz7_any _ _ _ _ _ _ _ _ _ _ _ _ _).mono ?_; rintro e w' ⟨he | he, rfl⟩ <;> subst he)
    all_goals first | (exfalso; omega) | (go_ret; exact ⟨rfl, Below.refl _ _⟩)

end Go.Proofs.Qxb6614828a.Bytes
