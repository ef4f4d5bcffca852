/-
  zzCloneU64: a copy in memory of its own, or nil.
-/
import Derived.Test.Qxb6609061aBuild
namespace Go.Proofs.Qxb6609061a.Line
open Go.RowKit

theorem eql_slice_nil (a : Option Addr) (n c : Nat) (w : World) : (binOp .eql 24 (.slice a n c) (.slice none 0 0)).run Try.prog w = .ok (.bool a.isNone) w := by
  have h := run_equal_slice_nil (P := Try.prog) w 24 37 a n c Try.underlying24
  simp [binOp, h]

set_option maxRecDepth 100000 in
theorem clone_nil (w : World) : Calls Try.prog 8 #[.slice none 0 0] w fun e w' => e = .returned (.slice none 0 0) ∧ w' = w := by
  have he := eql_slice_nil none 0 0 w
  go_enter Try.func8, Try.ntmps8
  go_wp2
  go_ret
  exact ⟨rfl, rfl⟩

set_option maxHeartbeats 1000000 in
set_option maxRecDepth 100000 in
theorem clone_some (x : Addr) (n c : Nat) (z : Nat → Int) (w : World) (hn : n ≤ 65536) (A : ∀ i, i < n → w.cell? (x.add i) = some (.int .u64 (z i))) (hx : ∀ i, i < n → (x.add i).block < w.heap.size) :
    Calls Try.prog 8 #[.slice (some x) n c] w fun e w' => e = .returned (.slice (some ⟨w.heap.size, 0, none⟩) n n) ∧ Below w.heap.size w w' := by
  have he := eql_slice_nil (some x) n c w
  obtain ⟨i37, hi37, hz37, hs37, hb37⟩ := info_parts info37x
  obtain ⟨M, hM, hmk⟩ : ∃ M : Array Value, M.size = n ∧ (Instr.makeSlice 24 (.int .i64 n) (.int .i64 n)).run Try.prog w = .ok (.slice (some ⟨w.heap.size, 0, none⟩) n n) (w.alloc (.cells M 37)) := by
    have := run_make w 24 37 i37 (.int .u64 0) Try.underlying24 hi37 hz37 .i64 .i64 n n (by omega) (Int.le_refl _) (by rw [hb37]; omega) (by omega)
    exact ⟨madeCells (Value.int .u64 0).cells (n * i37.size), by simp [madeCells, hs37], by simpa using this⟩
  have ht : (w.alloc (.cells M 37)).there w.heap.size 0 n := there_block (heap_new _ _) 0 n (by omega)
  have hb : Below w.heap.size w (w.alloc (.cells M 37)) := (Below.refl _ _).alloc (Nat.le_refl _) _
  go_enter Try.func8, Try.ntmps8
  go_wp2
  go_loopw [4] (fun v wr => ∃ i : Nat, i ≤ n ∧ v = .int .i64 i ∧ wr.there w.heap.size 0 n ∧ Below w.heap.size w wr) (fun v _ => n - (intOf v).toNat)
  case atStart => exact ⟨0, Nat.zero_le _, rfl, ht, hb⟩
  case round =>
    obtain ⟨i, hi, rfl, hth, hbel⟩ := hrel
    by_cases hlt : i < n
    · have c1 := (hbel.cell (hx i hlt)).trans (A i hlt)
      obtain ⟨u, hu⟩ := Option.isSome_iff_exists.1 (hth i hlt).1
      have hf := (hth i hlt).2
      rw [Nat.zero_add] at hu hf
      have th2 := there_setCell hth ⟨w.heap.size, i, none⟩ (.int .u64 (z i))
      have b2 := hbel.setCell (p := ⟨w.heap.size, i, none⟩) (Nat.le_refl _) (.int .u64 (z i))
      clear hth ht hb A
      generalize z i = zi at *
      go_wp2
      go_roundw
      case rel => exact ⟨i + 1, by omega, by go_num, th2, b2⟩
      case measure => simp [intOf]; omega
    · go_wp2
      go_ret
      exact ⟨rfl, hbel⟩

end Go.Proofs.Qxb6609061a.Line
