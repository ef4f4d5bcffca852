/-
  zzEqInts, zzEqI64s, zzEqU64s at two slices that hold the same numbers: true.
-/
import Derived.Test.Qxb6609061aTopParts
import Derived.BigQuiet
namespace Go.Proofs.Qxb6609061a.Line
open Go.RowKit

/-- n numbers of uint64, read through a slice whose address is a. -/
def Arr64 (w : World) (a : Option Addr) (n : Nat) (x : Nat → Int) : Prop := n = 0 ∨ ∃ b, a = some ⟨b, 0, none⟩ ∧ ∀ j, j < n → w.cell? ⟨b, j, none⟩ = some (.int .u64 (x j))

theorem seen_arr64 {w : World} {lo : Nat} {p : Option Addr} {m m' : Nat} {x : Nat → Value} (y : Nat → Int) (h : Seen w lo p m x) (hm : m = m') (hx : ∀ j, x j = .int .u64 (y j)) : Arr64 w p m' y := by
  subst hm
  rcases h with h | ⟨g, e, _, _, h1⟩
  · exact .inl h
  · exact .inr ⟨g, e, fun j hj => by rw [h1 j hj, hx]⟩

set_option maxHeartbeats 1600000 in
set_option maxRecDepth 100000 in
theorem eq31 (n : Nat) (hn : n ≤ 65536) (x : Nat → Int) (a b : Option Addr) (ca cb : Nat) (w : World) (A : Arr w a n x) (B : Arr w b n x) :
    Calls Try.prog 31 #[.slice a n ca, .slice b n cb] w fun e w' => e = .returned (.bool true) ∧ ∃ k, w' = w.drewN k := by
  go_enter Try.func31, Try.ntmps31
  go_wp2
  go_loopw [5] (fun v wr => ∃ i k : Nat, i ≤ n ∧ v = .int .i64 i ∧ wr = w.drewN k) (fun v _ => n - (intOf v).toNat)
  case atStart => exact ⟨0, 0, Nat.zero_le _, rfl, rfl⟩
  case round =>
    obtain ⟨i, k, hi, rfl, rfl⟩ := hrel
    by_cases hlt : i < n
    · rcases A with h | ⟨ba, rfl, I⟩
      · omega
      rcases B with h | ⟨bb, rfl, J⟩
      · omega
      replace I : w.cell? ⟨ba, i, none⟩ = some (.int .i64 (x i)) := I i hlt
      replace J : w.cell? ⟨bb, i, none⟩ = some (.int .i64 (x i)) := J i hlt
      generalize x i = z at *
      have hzz : (z != z) = false := by simp
      go_wp2_with fail
      go_quiet (fail)
      go_wp2
      go_roundw
      case rel => exact ⟨i + 1, k + nq, by omega, by go_num, rfl⟩
      case measure => simp [intOf]; omega
    · go_wp2
      go_ret
      exact ⟨rfl, k, rfl⟩

set_option maxHeartbeats 1600000 in
set_option maxRecDepth 100000 in
theorem eq32 (n : Nat) (hn : n ≤ 65536) (x : Nat → Int) (a b : Option Addr) (ca cb : Nat) (w : World) (A : Arr w a n x) (B : Arr w b n x) :
    Calls Try.prog 32 #[.slice a n ca, .slice b n cb] w fun e w' => e = .returned (.bool true) ∧ ∃ k, w' = w.drewN k := by
  go_enter Try.func32, Try.ntmps32
  go_wp2
  go_loopw [5] (fun v wr => ∃ i k : Nat, i ≤ n ∧ v = .int .i64 i ∧ wr = w.drewN k) (fun v _ => n - (intOf v).toNat)
  case atStart => exact ⟨0, 0, Nat.zero_le _, rfl, rfl⟩
  case round =>
    obtain ⟨i, k, hi, rfl, rfl⟩ := hrel
    by_cases hlt : i < n
    · rcases A with h | ⟨ba, rfl, I⟩
      · omega
      rcases B with h | ⟨bb, rfl, J⟩
      · omega
      replace I : w.cell? ⟨ba, i, none⟩ = some (.int .i64 (x i)) := I i hlt
      replace J : w.cell? ⟨bb, i, none⟩ = some (.int .i64 (x i)) := J i hlt
      generalize x i = z at *
      have hzz : (z != z) = false := by simp
      go_wp2_with fail
      go_quiet (fail)
      go_wp2
      go_roundw
      case rel => exact ⟨i + 1, k + nq, by omega, by go_num, rfl⟩
      case measure => simp [intOf]; omega
    · go_wp2
      go_ret
      exact ⟨rfl, k, rfl⟩

set_option maxHeartbeats 1600000 in
set_option maxRecDepth 100000 in
theorem eq33 (n : Nat) (hn : n ≤ 1000000) (x : Nat → Int) (a b : Option Addr) (ca cb : Nat) (w : World) (A : Arr64 w a n x) (B : Arr64 w b n x) :
    Calls Try.prog 33 #[.slice a n ca, .slice b n cb] w fun e w' => e = .returned (.bool true) ∧ ∃ k, w' = w.drewN k := by
  go_enter Try.func33, Try.ntmps33
  go_wp2
  go_loopw [5] (fun v wr => ∃ i k : Nat, i ≤ n ∧ v = .int .i64 i ∧ wr = w.drewN k) (fun v _ => n - (intOf v).toNat)
  case atStart => exact ⟨0, 0, Nat.zero_le _, rfl, rfl⟩
  case round =>
    obtain ⟨i, k, hi, rfl, rfl⟩ := hrel
    by_cases hlt : i < n
    · rcases A with h | ⟨ba, rfl, I⟩
      · omega
      rcases B with h | ⟨bb, rfl, J⟩
      · omega
      replace I : w.cell? ⟨ba, i, none⟩ = some (.int .u64 (x i)) := I i hlt
      replace J : w.cell? ⟨bb, i, none⟩ = some (.int .u64 (x i)) := J i hlt
      generalize x i = z at *
      have hzz : (z != z) = false := by simp
      go_wp2_with fail
      go_quiet (fail)
      go_wp2
      go_roundw
      case rel => exact ⟨i + 1, k + nq, by omega, by go_num, rfl⟩
      case measure => simp [intOf]; omega
    · go_wp2
      go_ret
      exact ⟨rfl, k, rfl⟩

end Go.Proofs.Qxb6609061a.Line
