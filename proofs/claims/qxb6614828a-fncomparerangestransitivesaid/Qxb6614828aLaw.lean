/-
  The plain law: two keys stand as their holders stand.
-/
import Derived.Test.Qxb6614828aKey
import Derived.Test.Qxb6614828aRange
namespace Go.Proofs.Qxb6614828a.Bytes
open Go.Proofs.Qxb6614828a.Cmp

def beN : Nat → Int → List Int
  | 0, _ => []
  | n + 1, u => u / 2 ^ (8 * n) % 256 :: beN n u

theorem be8_eq (u : Int) : be8 u = beN 8 u := rfl

theorem lex_cons (x y : Int) (xs ys : List Int) : lex (x :: xs) (y :: ys) = if x < y then -1 else if y < x then 1 else lex xs ys := rfl

theorem step_mod (u : Int) (n : Nat) : u % 2 ^ (8 * (n + 1)) = 2 ^ (8 * n) * (u / 2 ^ (8 * n) % 256) + u % 2 ^ (8 * n) := by
  have e : (2 : Int) ^ (8 * (n + 1)) = 2 ^ (8 * n) * 256 := by
    rw [show 8 * (n + 1) = 8 * n + 8 by omega, Int.pow_add]; rfl
  have hp : (0 : Int) < 2 ^ (8 * n) := Int.pow_pos (by decide)
  rw [e]
  generalize (2 : Int) ^ (8 * n) = P at *
  have h1 : u % P + P * (u / P) = u := Int.emod_add_mul_ediv u P
  have hr0 := Int.emod_nonneg u (Int.ne_of_gt hp)
  have hr1 := Int.emod_lt_of_pos u hp
  generalize u % P = r at *
  generalize u / P = q at *
  have h2 : q = 256 * (q / 256) + q % 256 := by omega
  have h3 : 0 ≤ q % 256 := by omega
  have h4 : q % 256 ≤ 255 := by omega
  generalize q / 256 = t at *
  generalize q % 256 = d at *
  have h5 : u = (P * d + r) + P * 256 * t := by
    rw [← h1, h2, Int.mul_add, Int.mul_assoc]; omega
  have h6 := Int.mul_le_mul_of_nonneg_left h4 (Int.le_of_lt hp)
  have h7 := Int.mul_nonneg (Int.le_of_lt hp) h3
  rw [h5, Int.add_mul_emod_self_left, Int.emod_eq_of_lt (by omega) (by omega)]

theorem lex_beN (n : Nat) (u v : Int) (X Y : List Int) : lex (beN n u ++ X) (beN n v ++ Y) = if u % 2 ^ (8 * n) < v % 2 ^ (8 * n) then -1 else if v % 2 ^ (8 * n) < u % 2 ^ (8 * n) then 1 else lex X Y := by
  induction n with
  | zero => simp [beN, Int.emod_one]
  | succ n ih =>
    have hp : (0 : Int) < 2 ^ (8 * n) := Int.pow_pos (by decide)
    rw [beN, beN, List.cons_append, List.cons_append, lex_cons, ih, step_mod u n, step_mod v n]
    have h1 := Int.emod_nonneg u (Int.ne_of_gt hp)
    have h2 := Int.emod_lt_of_pos u hp
    have h3 := Int.emod_nonneg v (Int.ne_of_gt hp)
    have h4 := Int.emod_lt_of_pos v hp
    generalize u / 2 ^ (8 * n) % 256 = a
    generalize v / 2 ^ (8 * n) % 256 = b
    generalize u % 2 ^ (8 * n) = r at *
    generalize v % 2 ^ (8 * n) = s at *
    generalize (2 : Int) ^ (8 * n) = P at *
    by_cases hab : a < b
    · have := Int.mul_le_mul_of_nonneg_left (show a + 1 ≤ b by omega) (Int.le_of_lt hp)
      rw [Int.mul_add] at this
      rw [if_pos hab, if_pos (by omega)]
    · by_cases hba : b < a
      · have := Int.mul_le_mul_of_nonneg_left (show b + 1 ≤ a by omega) (Int.le_of_lt hp)
        rw [Int.mul_add] at this
        rw [if_neg hab, if_pos hba, if_neg (by omega), if_pos (by omega)]
      · obtain rfl : a = b := by omega
        rw [if_neg hab, if_neg hba]
        have e1 : (P * a + r < P * a + s) = (r < s) := by apply propext; omega
        have e2 : (P * a + s < P * a + r) = (s < r) := by apply propext; omega
        simp only [e1, e2]

theorem lex_be8 (u v : Int) (hu : 0 ≤ u) (hu2 : u < 18446744073709551616) (hv : 0 ≤ v) (hv2 : v < 18446744073709551616) (X Y : List Int) :
    lex (be8 u ++ X) (be8 v ++ Y) = if u < v then -1 else if v < u then 1 else lex X Y := by
  rw [be8_eq, be8_eq, lex_beN]
  have e : (2 : Int) ^ (8 * 8) = 18446744073709551616 := by decide
  rw [e, Int.emod_eq_of_lt hu hu2, Int.emod_eq_of_lt hv hv2]

theorem lex_esc : ∀ (a b : List UInt8) (X Y : List Int), lex (esc a ++ (0 :: 1 :: X)) (esc b ++ (0 :: 1 :: Y)) = if Lib.compareBytes a b = 0 then lex X Y else Lib.compareBytes a b
  | [], [], X, Y => by simp [esc, lex_cons, Lib.compareBytes]
  | [], y :: b, X, Y => by
    by_cases h : y = 0
    · subst h; simp [esc, lex_cons, Lib.compareBytes]
    · have : (0 : Int) < y.toNat := by
        have : y.toNat ≠ 0 := fun h0 => h (UInt8.toNat_inj.1 (by simpa using h0))
        omega
      simp [esc, lex_cons, Lib.compareBytes, h]; omega
  | x :: a, [], X, Y => by
    by_cases h : x = 0
    · subst h; simp [esc, lex_cons, Lib.compareBytes]
    · have : (0 : Int) < x.toNat := by
        have : x.toNat ≠ 0 := fun h0 => h (UInt8.toNat_inj.1 (by simpa using h0))
        omega
      have h2 : ¬ ((x.toNat : Int) < 0) := by omega
      simp [esc, lex_cons, Lib.compareBytes, h, h2]; omega
  | x :: a, y :: b, X, Y => by
    have ih := lex_esc a b X Y
    by_cases hx : x = 0
    · subst hx
      by_cases hy : y = 0
      · subst hy
        simp [esc, lex_cons, Lib.compareBytes, ih]
      · have hp : (0 : Int) < y.toNat := by
          have : y.toNat ≠ 0 := fun h0 => hy (UInt8.toNat_inj.1 (by simpa using h0))
          omega
        have hl : (0 : UInt8) < y := by rw [UInt8.lt_iff_toNat_lt]; simp; omega
        simp [esc, lex_cons, Lib.compareBytes, hy, hl]; omega
    · have hp : (0 : Int) < x.toNat := by
        have : x.toNat ≠ 0 := fun h0 => hx (UInt8.toNat_inj.1 (by simpa using h0))
        omega
      by_cases hy : y = 0
      · subst hy
        have hl : (0 : UInt8) < x := by rw [UInt8.lt_iff_toNat_lt]; simp; omega
        have hl2 : ¬ x < (0 : UInt8) := by rw [UInt8.lt_iff_toNat_lt]; simp
        have h2 : ¬ ((x.toNat : Int) < 0) := by omega
        simp [esc, lex_cons, Lib.compareBytes, hx, hl, hl2, h2]; omega
      · simp only [esc, if_neg hx, if_neg hy, List.cons_append, lex_cons, Lib.compareBytes, ih]
        have e1 : (x < y) = ((x.toNat : Int) < y.toNat) := by rw [UInt8.lt_iff_toNat_lt]; apply propext; omega
        have e2 : (y < x) = ((y.toNat : Int) < x.toNat) := by rw [UInt8.lt_iff_toNat_lt]; apply propext; omega
        simp only [e1, e2]
        by_cases h1 : (x.toNat : Int) < y.toNat
        · simp [h1]
        · by_cases h2 : (y.toNat : Int) < x.toNat
          · simp [h1, h2]
          · simp [h1, h2]

theorem key_law (sa ta sb tb : Int) (na nb : ByteArray) (hsa : -9223372036854775808 ≤ sa) (hsa2 : sa ≤ 9223372036854775807) (hsb : -9223372036854775808 ≤ sb) (hsb2 : sb ≤ 9223372036854775807)
    (hta : 0 ≤ ta) (hta2 : ta ≤ 18446744073709551615) (htb : 0 ≤ tb) (htb2 : tb ≤ 18446744073709551615) :
    lex (key sa na.data.toList ta) (key sb nb.data.toList tb) = ranks sa na ta sb nb tb := by
  unfold key ranks or3 cmpInt
  simp only [List.append_assoc, List.cons_append, List.nil_append]
  rw [lex_be8 _ _ (by omega) (by omega) (by omega) (by omega), lex_esc]
  have e := lex_be8 ta tb hta (by omega) htb (by omega) [] []
  simp only [List.append_nil] at e
  rw [e]
  have e1 : (sa + 9223372036854775808 < sb + 9223372036854775808) = (sa < sb) := by apply propext; omega
  have e2 : (sb + 9223372036854775808 < sa + 9223372036854775808) = (sb < sa) := by apply propext; omega
  simp only [e1, e2]
  by_cases h1 : sa < sb
  · simp [h1]
  · by_cases h2 : sb < sa
    · simp [h1, h2]
    · simp [h1, h2, lex]

theorem lex_swap : ∀ (x y : List Int), lex y x = - lex x y
  | [], [] => rfl
  | [], _ :: _ => rfl
  | _ :: _, [] => rfl
  | a :: x, b :: y => by
    have ih := lex_swap x y
    rw [lex_cons, lex_cons]
    by_cases h1 : a < b
    · rw [if_neg (by omega), if_pos h1, if_pos h1]; rfl
    · by_cases h2 : b < a
      · rw [if_pos h2, if_neg h1, if_pos h2]
      · rw [if_neg h2, if_neg h1, if_neg h1, if_neg h2, ih]

theorem lex_three : ∀ (x y : List Int), lex x y = -1 ∨ lex x y = 0 ∨ lex x y = 1
  | [], [] => .inr (.inl rfl)
  | [], _ :: _ => .inl rfl
  | _ :: _, [] => .inr (.inr rfl)
  | a :: x, b :: y => by
    rw [lex_cons]
    split
    · exact .inl rfl
    · split
      · exact .inr (.inr rfl)
      · exact lex_three x y

theorem lex_zero : ∀ (x y : List Int), lex x y = 0 → x = y
  | [], [], _ => rfl
  | [], _ :: _, h => by cases h
  | _ :: _, [], h => by cases h
  | a :: x, b :: y, h => by
    rw [lex_cons] at h
    split at h
    · cases h
    · split at h
      · cases h
      · obtain rfl : a = b := by omega
        rw [lex_zero x y h]

theorem lex_less : ∀ (x y z : List Int), lex x y = -1 → lex y z = -1 → lex x z = -1
  | [], [], _, h, _ => by cases h
  | [], _ :: _, [], _, h => by cases h
  | [], _ :: _, _ :: _, _, _ => rfl
  | _ :: _, [], _, h, _ => by cases h
  | _ :: _, _ :: _, [], _, h => by cases h
  | a :: x, b :: y, c :: z, h, k => by
    rw [lex_cons] at h k ⊢
    by_cases h1 : a < b
    · by_cases k1 : b < c
      · rw [if_pos (by omega)]
      · rw [if_neg k1] at k
        by_cases k2 : c < b
        · rw [if_pos k2] at k; cases k
        · rw [if_pos (by omega)]
    · rw [if_neg h1] at h
      by_cases h2 : b < a
      · rw [if_pos h2] at h; cases h
      · rw [if_neg h2] at h
        obtain rfl : a = b := by omega
        by_cases k1 : a < c
        · rw [if_pos k1]
        · rw [if_neg k1] at k
          by_cases k2 : c < a
          · rw [if_pos k2] at k; cases k
          · rw [if_neg k2] at k
            rw [if_neg k1, if_neg k2]
            exact lex_less x y z h k

end Go.Proofs.Qxb6614828a.Bytes
