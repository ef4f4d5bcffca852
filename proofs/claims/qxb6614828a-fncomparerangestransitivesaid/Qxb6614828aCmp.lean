/-
  The comparisons of the library that compareRanges calls: cmp.Compare (int64, uint64), strings.Compare, cmp.Or.
-/
import Derived.Test.Qxb6614828aRows
import Derived.WalkKit
import Derived.ProofKit
import Derived.Lib.Bytealg
namespace Go.Proofs.Qxb6614828a.Cmp
open Go.RowKit
set_option linter.unusedSimpArgs false

/-- -1, 0, 1 as two integers stand. -/
def cmpInt (x y : Int) : Int := if x < y then -1 else if y < x then 1 else 0

theorem isNaN_any (x : Int) (w : World) : Calls Try.prog 32 #[.int .i64 x] w fun e w' => e = .returned (.bool false) ∧ w' = w := by
  go_enter Try.func32, Try.ntmps32
  go_wp2
  go_ret
  exact ⟨rfl, rfl⟩

theorem isNaNu_any (x : Int) (w : World) : Calls Try.prog 34 #[.int .u64 x] w fun e w' => e = .returned (.bool false) ∧ w' = w := by
  go_enter Try.func34, Try.ntmps34
  go_wp2
  go_ret
  exact ⟨rfl, rfl⟩

theorem compare_any (x y : Int) (w : World) : Calls Try.prog 28 #[.int .i64 x, .int .i64 y] w fun e w' => e = .returned (.int .i64 (cmpInt x y)) ∧ w' = w := by
  unfold cmpInt
  by_cases h1 : x < y
  · go_enter Try.func28, Try.ntmps28
    go_wp2_with (go_at_call 32; refine (isNaN_any _ _).mono ?_; rintro e w' ⟨rfl, rfl⟩)
    go_ret
    simp [h1]
  · by_cases h2 : y < x
    · go_enter Try.func28, Try.ntmps28
      go_wp2_with (go_at_call 32; refine (isNaN_any _ _).mono ?_; rintro e w' ⟨rfl, rfl⟩)
      go_ret
      simp [h1, h2]
    · go_enter Try.func28, Try.ntmps28
      go_wp2_with (go_at_call 32; refine (isNaN_any _ _).mono ?_; rintro e w' ⟨rfl, rfl⟩)
      go_ret
      simp [h1, h2]

theorem compareu_any (x y : Int) (w : World) : Calls Try.prog 30 #[.int .u64 x, .int .u64 y] w fun e w' => e = .returned (.int .i64 (cmpInt x y)) ∧ w' = w := by
  unfold cmpInt
  by_cases h1 : x < y
  · go_enter Try.func30, Try.ntmps30
    go_wp2_with (go_at_call 34; refine (isNaNu_any _ _).mono ?_; rintro e w' ⟨rfl, rfl⟩)
    go_ret
    simp [h1]
  · by_cases h2 : y < x
    · go_enter Try.func30, Try.ntmps30
      go_wp2_with (go_at_call 34; refine (isNaNu_any _ _).mono ?_; rintro e w' ⟨rfl, rfl⟩)
      go_ret
      simp [h1, h2]
    · go_enter Try.func30, Try.ntmps30
      go_wp2_with (go_at_call 34; refine (isNaNu_any _ _).mono ?_; rintro e w' ⟨rfl, rfl⟩)
      go_ret
      simp [h1, h2]

theorem cmpstr_any (a b : ByteArray) (w : World) : Calls Try.prog 33 #[.string a, .string b] w fun e w' => e = .returned (.int .i64 (Lib.compareBytes a.data.toList b.data.toList)) ∧ w' = w := by
  go_enter Try.func33, Try.ntmps33
  go_wp2
  rw [run_callFunc_extern Try.func36 (by kernel_rfl) (by kernel_rfl) (by kernel_rfl) (e := Extern.BytealgCompare.compare) (by kernel_rfl), Lib.run_compareString]
  simp only [Result.andThen]
  rw [Oper.upon_value]
  go_wp2
  go_ret
  exact ⟨rfl, rfl⟩

theorem strcmp_any (a b : ByteArray) (w : World) : Calls Try.prog 29 #[.string a, .string b] w fun e w' => e = .returned (.int .i64 (Lib.compareBytes a.data.toList b.data.toList)) ∧ w' = w := by
  go_enter Try.func29, Try.ntmps29
  go_wp2_with (go_at_call 33; refine (cmpstr_any _ _ _).mono ?_; rintro e w' ⟨rfl, rfl⟩)
  go_ret
  exact ⟨rfl, rfl⟩

/-- The first of three that is not 0. -/
def or3 (x y z : Int) : Int := if x = 0 then if y = 0 then z else y else x

theorem or_any (x y z : Int) (b : Nat) (w : World) (h0 : w.cell? ⟨b, 0, none⟩ = some (.int .i64 x)) (h1 : w.cell? ⟨b, 1, none⟩ = some (.int .i64 y)) (h2 : w.cell? ⟨b, 2, none⟩ = some (.int .i64 z)) :
    Calls Try.prog 27 #[.slice (some ⟨b, 0, none⟩) 3 3] w fun e w' => e = .returned (.int .i64 (or3 x y z)) ∧ w' = w := by
  go_enter Try.func27, Try.ntmps27
  go_wp2
  go_loopw [8] (fun i wr => wr = w ∧ (i = .int .i64 0 ∨ (i = .int .i64 1 ∧ x = 0) ∨ (i = .int .i64 2 ∧ x = 0 ∧ y = 0) ∨ (i = .int .i64 3 ∧ x = 0 ∧ y = 0 ∧ z = 0))) (fun i _ => 3 - (intOf i).toNat)
  case atStart => exact ⟨rfl, Or.inl rfl⟩
  case round =>
    obtain ⟨rfl, hi⟩ := hrel
    rcases hi with rfl | ⟨rfl, rfl⟩ | ⟨rfl, rfl, rfl⟩ | ⟨rfl, rfl, rfl, rfl⟩
    · by_cases hx : x = 0
      · subst hx
        go_wp2
        go_roundw
        case rel => simp
        case measure => simp [intOf]
      · go_wp2
        go_ret
        simp [or3, hx]
    · by_cases hx : y = 0
      · subst hx
        go_wp2
        go_roundw
        case rel => simp
        case measure => simp [intOf]
      · go_wp2
        go_ret
        simp [or3, hx]
    · by_cases hx : z = 0
      · subst hx
        go_wp2
        go_roundw
        case rel => simp
        case measure => simp [intOf]
      · go_wp2
        go_ret
        simp [or3]
    · go_wp2
      go_ret
      simp [or3]

end Go.Proofs.Qxb6614828a.Cmp
