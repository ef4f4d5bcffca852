/-
  FnCompareRangesTransitive: the walk.
-/
import Derived.Test.Qxb6614828aHeld
namespace Go.Proofs.Qxb6614828a.Bytes
open Go.RowKit Go.Proofs.Qxb6614828a.Cmp

theorem lex_le (x y z : List Int) (h : lex x y ≤ 0) (k : lex y z ≤ 0) : lex x z ≤ 0 := by
  rcases lex_three x y with h1 | h1 | h1
  · rcases lex_three y z with k1 | k1 | k1
    · rw [lex_less x y z h1 k1]; decide
    · rw [← lex_zero y z k1, h1]; decide
    · omega
  · rw [lex_zero x y h1]; exact k
  · omega

theorem lex_laws (x y z : List Int) : (0 < lex x y ∨ 0 < lex y z ∨ lex x z ≤ 0) ∧ (lex x y < 0 ∨ lex y z < 0 ∨ 0 ≤ lex x z) := by
  constructor
  · by_cases h : lex x y ≤ 0
    · by_cases k : lex y z ≤ 0
      · exact .inr (.inr (lex_le x y z h k))
      · exact .inr (.inl (by omega))
    · exact .inl (by omega)
  · have e1 := lex_swap x y
    have e2 := lex_swap y z
    have e3 := lex_swap x z
    by_cases h : lex x y < 0
    · exact .inl h
    · by_cases k : lex y z < 0
      · exact .inr (.inl k)
      · have := lex_le z y x (by omega) (by omega)
        exact .inr (.inr (by omega))

set_option maxHeartbeats 3200000 in
set_option maxRecDepth 100000 in
theorem top4 (a0 a2 a3 a5 a6 a8 : Int) (a1 a4 a7 : ByteArray) (h0 : -9223372036854775808 ≤ a0) (h0' : a0 ≤ 9223372036854775807) (h3 : -9223372036854775808 ≤ a3) (h3' : a3 ≤ 9223372036854775807) (h6 : -9223372036854775808 ≤ a6) (h6' : a6 ≤ 9223372036854775807)
    (h2 : 0 ≤ a2) (h2' : a2 ≤ 18446744073709551615) (h5 : 0 ≤ a5) (h5' : a5 ≤ 18446744073709551615) (h8 : 0 ≤ a8) (h8' : a8 ≤ 18446744073709551615) (w : World) :
    Calls Try.prog 4 #[.int .i64 a0, .string a1, .int .u64 a2, .int .i64 a3, .string a4, .int .u64 a5, .int .i64 a6, .string a7, .int .u64 a8] w fun e w' => e = .returned (.bool true) ∧ Below w.heap.size w w' := by
  by_cases hA : a1.size ≤ 65536 ∧ a4.size ≤ 65536 ∧ a7.size ≤ 65536
  · obtain ⟨ha1, ha4, ha7⟩ := hA
    go_enter Try.func4, Try.ntmps4
    go_wp2_with (go_at_call 11; refine (zz11_any _ _ _ _ _ _ _ _ _ _).mono ?_; rintro e w' ⟨he | he, rfl⟩ <;> subst he)
    · generalize hW1 : (World.alloc (World.alloc _ (.cells #[.int .i64 a0, _] 27)) _) = W1
      generalize hW2 : (World.alloc (World.alloc W1 _) _) = W2
      generalize hW3 : (World.alloc (World.alloc W2 _) _) = W3
      have e1 : W1.heap.size = w'.heap.size + 2 := by rw [← hW1]; simp
      have e2 : W2.heap.size = w'.heap.size + 4 := by rw [← hW2]; simp; omega
      have B1 : Below w'.heap.size w' W1 := by rw [← hW1]; exact laid_below _ _ _
      have B2 : Below W1.heap.size W1 W2 := by rw [← hW2]; exact laid_below _ _ _
      have B3 : Below W2.heap.size W2 W3 := by rw [← hW3]; exact laid_below _ _ _
      have HA1 : Held W1 (w'.heap.size + 1) ⟨#[]⟩ a1 ⟨#[]⟩ a2 w'.heap.size a0 := by rw [← hW1]; exact Held.laid _ _ _ _ _ _ _
      have HB2 : Held W2 (w'.heap.size + 1 + 1 + 1) ⟨#[]⟩ a4 ⟨#[]⟩ a5 (w'.heap.size + 1 + 1) a3 := by
        have := Held.laid W1 ⟨#[]⟩ a4 ⟨#[]⟩ a5 a3 0
        rw [e1] at this; rw [← hW2]; exact this
      have HC3 : Held W3 (w'.heap.size + 1 + 1 + 1 + 1 + 1) ⟨#[]⟩ a7 ⟨#[]⟩ a8 (w'.heap.size + 1 + 1 + 1 + 1) a6 := by
        have := Held.laid W2 ⟨#[]⟩ a7 ⟨#[]⟩ a8 a6 0
        rw [e2] at this; rw [← hW3]; exact this
      have HA3 := (HA1.below B2).below B3
      have HB3 := HB2.below B3
      have BB3 := two_below (two_below B1 B2) B3
      clear hW1 hW2 hW3 HA1 HB2 B1 B2 B3 e1 e2
      refine (key_any a0 a1 a2 h0 h0' h2 h2' ha1 W3).mono ?_
      rintro e w4 ⟨vA, rfl, KA⟩
      obtain ⟨gA, cA, rfl, LA4, bA4⟩ := KA.cells
      have HA4 := HA3.below KA.bel
      have HB4 := HB3.below KA.bel
      have HC4 := HC3.below KA.bel
      have BB4 := two_below BB3 KA.bel
      clear HA3 HB3 HC3 BB3 KA 
      go_wp2_with fail
      refine (key_any a3 a4 a5 h3 h3' h5 h5' ha4 w4).mono ?_
      rintro e w5 ⟨vB, rfl, KB⟩
      obtain ⟨gB, cB, rfl, LB5, bB5⟩ := KB.cells
      have HA5 := HA4.below KB.bel
      have HB5 := HB4.below KB.bel
      have HC5 := HC4.below KB.bel
      have BB5 := two_below BB4 KB.bel
      have LA5 := LA4.below bA4 KB.bel
      have bA5 : gA < w5.heap.size := Nat.lt_of_lt_of_le bA4 KB.bel.size
      clear HA4 HB4 HC4 BB4 KB LA4 bA4
      go_wp2_with fail
      refine (key_any a6 a7 a8 h6 h6' h8 h8' ha7 w5).mono ?_
      rintro e w6 ⟨vC, rfl, KC⟩
      obtain ⟨gC, cC, rfl, LC6, bC6⟩ := KC.cells
      have HA6 := HA5.below KC.bel
      have HB6 := HB5.below KC.bel
      have HC6 := HC5.below KC.bel
      have BB6 := two_below BB5 KC.bel
      have LA6 := LA5.below bA5 KC.bel
      have bA6 : gA < w6.heap.size := Nat.lt_of_lt_of_le bA5 KC.bel.size
      have LB6 := LB5.below bB5 KC.bel
      have bB6 : gB < w6.heap.size := Nat.lt_of_lt_of_le bB5 KC.bel.size
      clear HA5 HB5 HC5 BB5 KC LA5 bA5 LB5 bB5
      have LL := lex_laws (key a0 a1.data.toList a2) (key a3 a4.data.toList a5) (key a6 a7.data.toList a8)
      rw [key_law a0 a2 a3 a5 a1 a4 h0 h0' h3 h3' h2 h2' h5 h5', key_law a3 a5 a6 a8 a4 a7 h3 h3' h6 h6' h5 h5' h8 h8', key_law a0 a2 a6 a8 a1 a7 h0 h0' h6 h6' h2 h2' h8 h8'] at LL
      have zAB : ∀ W, Below w6.heap.size w6 W → Calls Try.prog 10 #[.agg #[.string ⟨#[]⟩, .string a1, .string ⟨#[]⟩, .int .u64 a2, .pointer (some ⟨w'.heap.size, 0, none⟩)], .agg #[.string ⟨#[]⟩, .string a4, .string ⟨#[]⟩, .int .u64 a5, .pointer (some ⟨w'.heap.size + 1 + 1, 0, none⟩)]] W fun e w'' => e = .returned (.int .i64 (ranks a0 a1 a2 a3 a4 a5)) ∧ Below W.heap.size W w'' := fun W hW => zz_any ⟨#[]⟩ a1 ⟨#[]⟩ a2 _ ⟨#[]⟩ a4 ⟨#[]⟩ a5 _ a0 a3 W (HA6.below hW).cr (HB6.below hW).cr
      have zBC : ∀ W, Below w6.heap.size w6 W → Calls Try.prog 10 #[.agg #[.string ⟨#[]⟩, .string a4, .string ⟨#[]⟩, .int .u64 a5, .pointer (some ⟨w'.heap.size + 1 + 1, 0, none⟩)], .agg #[.string ⟨#[]⟩, .string a7, .string ⟨#[]⟩, .int .u64 a8, .pointer (some ⟨w'.heap.size + 1 + 1 + 1 + 1, 0, none⟩)]] W fun e w'' => e = .returned (.int .i64 (ranks a3 a4 a5 a6 a7 a8)) ∧ Below W.heap.size W w'' := fun W hW => zz_any ⟨#[]⟩ a4 ⟨#[]⟩ a5 _ ⟨#[]⟩ a7 ⟨#[]⟩ a8 _ a3 a6 W (HB6.below hW).cr (HC6.below hW).cr
      have zAC : ∀ W, Below w6.heap.size w6 W → Calls Try.prog 10 #[.agg #[.string ⟨#[]⟩, .string a1, .string ⟨#[]⟩, .int .u64 a2, .pointer (some ⟨w'.heap.size, 0, none⟩)], .agg #[.string ⟨#[]⟩, .string a7, .string ⟨#[]⟩, .int .u64 a8, .pointer (some ⟨w'.heap.size + 1 + 1 + 1 + 1, 0, none⟩)]] W fun e w'' => e = .returned (.int .i64 (ranks a0 a1 a2 a6 a7 a8)) ∧ Below W.heap.size W w'' := fun W hW => zz_any ⟨#[]⟩ a1 ⟨#[]⟩ a2 _ ⟨#[]⟩ a7 ⟨#[]⟩ a8 _ a0 a6 W (HA6.below hW).cr (HC6.below hW).cr
      have yAB : ∀ W, Below w6.heap.size w6 W → Calls Try.prog 8 #[.slice (some ⟨gA, 0, none⟩) (key a0 a1.data.toList a2).length cA, .slice (some ⟨gB, 0, none⟩) (key a3 a4.data.toList a5).length cB] W fun e w'' => e = .returned (.int .i64 (ranks a0 a1 a2 a3 a4 a5)) ∧ Below W.heap.size W w'' := fun W hW => by
        have := bytes_any (key a0 a1.data.toList a2) (key a3 a4.data.toList a5) gA gB cA cB W (key_len _ _ _ ha1) (key_len _ _ _ ha4) (LA6.below bA6 hW) (LB6.below bB6 hW) (Nat.lt_of_lt_of_le bA6 hW.size) (Nat.lt_of_lt_of_le bB6 hW.size)
        rw [key_law a0 a2 a3 a5 a1 a4 h0 h0' h3 h3' h2 h2' h5 h5'] at this; exact this
      have yBC : ∀ W, Below w6.heap.size w6 W → Calls Try.prog 8 #[.slice (some ⟨gB, 0, none⟩) (key a3 a4.data.toList a5).length cB, .slice (some ⟨gC, 0, none⟩) (key a6 a7.data.toList a8).length cC] W fun e w'' => e = .returned (.int .i64 (ranks a3 a4 a5 a6 a7 a8)) ∧ Below W.heap.size W w'' := fun W hW => by
        have := bytes_any (key a3 a4.data.toList a5) (key a6 a7.data.toList a8) gB gC cB cC W (key_len _ _ _ ha4) (key_len _ _ _ ha7) (LB6.below bB6 hW) (LC6.below bC6 hW) (Nat.lt_of_lt_of_le bB6 hW.size) (Nat.lt_of_lt_of_le bC6 hW.size)
        rw [key_law a3 a5 a6 a8 a4 a7 h3 h3' h6 h6' h5 h5' h8 h8'] at this; exact this
      have yAC : ∀ W, Below w6.heap.size w6 W → Calls Try.prog 8 #[.slice (some ⟨gA, 0, none⟩) (key a0 a1.data.toList a2).length cA, .slice (some ⟨gC, 0, none⟩) (key a6 a7.data.toList a8).length cC] W fun e w'' => e = .returned (.int .i64 (ranks a0 a1 a2 a6 a7 a8)) ∧ Below W.heap.size W w'' := fun W hW => by
        have := bytes_any (key a0 a1.data.toList a2) (key a6 a7.data.toList a8) gA gC cA cC W (key_len _ _ _ ha1) (key_len _ _ _ ha7) (LA6.below bA6 hW) (LC6.below bC6 hW) (Nat.lt_of_lt_of_le bA6 hW.size) (Nat.lt_of_lt_of_le bC6 hW.size)
        rw [key_law a0 a2 a6 a8 a1 a7 h0 h0' h6 h6' h2 h2' h8 h8'] at this; exact this
      generalize ranks a0 a1 a2 a3 a4 a5 = RAB at *
      generalize ranks a3 a4 a5 a6 a7 a8 = RBC at *
      generalize ranks a0 a1 a2 a6 a7 a8 = RAC at *
      have T1 : Hid ((0 < RAB ∨ 0 < RBC ∨ RAC ≤ 0) ∧ (RAB < 0 ∨ RBC < 0 ∨ 0 ≤ RAC)) := LL
      clear LL
      have N6 := Below.refl w6.heap.size w6
      have q6 := zAB w6 N6
      have KA6 := HA6.below N6
      have KB6 := HB6.below N6
      have KC6 := HC6.below N6
      obtain ⟨a0, a1, a2, a3, a4, ar⟩ := KA6
      obtain ⟨b0, b1, b2, b3, b4, br⟩ := KB6
      go_wp2_with fail
      refine q6.mono ?_
      rintro e w7 ⟨rfl, B7⟩
      have N7 := two_below N6 B7
      clear q6 B7 a0 a1 a2 a3 a4 ar b0 b1 b2 b3 b4 br
      have q7 := zBC w7 N7
      have KA7 := HA6.below N7
      have KB7 := HB6.below N7
      have KC7 := HC6.below N7
      obtain ⟨b0, b1, b2, b3, b4, br⟩ := KB7
      obtain ⟨c0, c1, c2, c3, c4, cr⟩ := KC7
      go_wp2_with fail
      refine q7.mono ?_
      rintro e w8 ⟨rfl, B8⟩
      have N8 := two_below N7 B8
      clear q7 B8 b0 b1 b2 b3 b4 br c0 c1 c2 c3 c4 cr
      have q8 := zAC w8 N8
      have KA8 := HA6.below N8
      have KB8 := HB6.below N8
      have KC8 := HC6.below N8
      obtain ⟨a0, a1, a2, a3, a4, ar⟩ := KA8
      obtain ⟨c0, c1, c2, c3, c4, cr⟩ := KC8
      go_wp2_with fail
      refine q8.mono ?_
      rintro e w9 ⟨rfl, B9⟩
      have N9 := two_below N8 B9
      clear q8 B9 a0 a1 a2 a3 a4 ar c0 c1 c2 c3 c4 cr
      have q9 := yAB w9 N9
      go_wp2_with fail
      refine q9.mono ?_
      rintro e w10 ⟨rfl, B10⟩
      have N10 := two_below N9 B10
      clear q9 B10
      have q10 := yBC w10 N10
      go_wp2_with fail
      refine q10.mono ?_
      rintro e w11 ⟨rfl, B11⟩
      have N11 := two_below N10 B11
      clear q10 B11
      have q11 := yAC w11 N11
      go_wp2_with fail
      refine q11.mono ?_
      rintro e w12 ⟨rfl, B12⟩
      have N12 := two_below N11 B12
      clear q11 B12
      have BBn := two_below BB6 N12
      clear zAB zBC zAC yAB yBC yAC HA6 HB6 HC6 BB6 LA6 LB6 LC6 bA6 bB6 bC6
      go_wp2
      all_goals (have T2 : (0 < RAB ∨ 0 < RBC ∨ RAC ≤ 0) ∧ (RAB < 0 ∨ RBC < 0 ∨ 0 ≤ RAC) := T1)
      all_goals first | (exfalso; omega) | (go_ret; exact ⟨rfl, BBn⟩)
    · go_ret
      exact ⟨rfl, Below.refl _ _⟩
  · go_enter Try.func4, Try.ntmps4
    go_wp2_with (go_at_call 11; refine (zz11_any _ _ _ _ _ _ _ _ _ _).mono ?_; rintro e w' ⟨he | he, rfl⟩ <;> subst he)
    all_goals first | (exfalso; omega) | (go_ret; exact ⟨rfl, Below.refl _ _⟩)

end Go.Proofs.Qxb6614828a.Bytes
