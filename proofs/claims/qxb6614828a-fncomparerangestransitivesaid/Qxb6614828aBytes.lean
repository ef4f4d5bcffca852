/-
  compareBytes: two rows of bytes, in the order of a dictionary.
-/
import Derived.Test.Qxb6614828aRows
import Derived.WalkKit
import Derived.ProofKit
import Derived.BigQuiet
namespace Go.Proofs.Qxb6614828a.Bytes
open Go.RowKit

def lex : List Int → List Int → Int
  | [], [] => 0
  | [], _ :: _ => -1
  | _ :: _, [] => 1
  | x :: xs, y :: ys => if x < y then -1 else if y < x then 1 else lex xs ys

theorem lex_drop (xs ys : List Int) (i : Nat) (hx : i < xs.length) (hy : i < ys.length) :
    lex (xs.drop i) (ys.drop i) = if xs.getD i 0 < ys.getD i 0 then -1 else if ys.getD i 0 < xs.getD i 0 then 1 else lex (xs.drop (i + 1)) (ys.drop (i + 1)) := by
  rw [List.drop_eq_getElem_cons hx, List.drop_eq_getElem_cons hy]
  simp [lex, hx, hy]

theorem lex_end (xs ys : List Int) (i : Nat) (h : ¬ (i < xs.length ∧ i < ys.length)) (hx : i ≤ xs.length) (hy : i ≤ ys.length) :
    lex (xs.drop i) (ys.drop i) = if xs.length < ys.length then -1 else if ys.length < xs.length then 1 else 0 := by
  by_cases h1 : i < xs.length
  · have : i = ys.length := by omega
    subst this
    rw [List.drop_eq_getElem_cons h1, List.drop_length, if_neg (by omega), if_pos h1]
    rfl
  · have : i = xs.length := by omega
    subst this
    rw [List.drop_length]
    by_cases h2 : xs.length < ys.length
    · rw [List.drop_eq_getElem_cons h2, if_pos h2]
      rfl
    · have : xs.length = ys.length := by omega
      rw [this, List.drop_length, if_neg (by omega), if_neg (by omega)]
      rfl

theorem bel_drewN {B : Nat} {a w : World} (h : Below B a w) (n : Nat) : Below B a (w.drewN n) := ⟨h.os, h.tape, h.output, h.size, h.block⟩

/-- A slice of bytes lies at the head of block g. -/
def Lies (w : World) (g : Nat) (xs : List Int) : Prop := ∀ i, i < xs.length → w.cell? ⟨g, i, none⟩ = some (.int .u8 (xs.getD i 0))

set_option maxHeartbeats 1000000 in
set_option maxRecDepth 100000 in
theorem bytes_any (xs ys : List Int) (gx gy cx cy : Nat) (w : World) (hlx : xs.length ≤ 1000000) (hly : ys.length ≤ 1000000) (hx : Lies w gx xs) (hy : Lies w gy ys) (bx : gx < w.heap.size) (by' : gy < w.heap.size) :
    Calls Try.prog 8 #[.slice (some ⟨gx, 0, none⟩) xs.length cx, .slice (some ⟨gy, 0, none⟩) ys.length cy] w fun e w' => e = .returned (.int .i64 (lex xs ys)) ∧ Below w.heap.size w w' := by
  by_cases hmin : ys.length < xs.length
  · go_enter Try.func8, Try.ntmps8
    go_wp2
    go_loopw [6] (fun v wr => ∃ i : Nat, i ≤ ys.length ∧ v = .int .i64 i ∧ lex xs ys = lex (xs.drop i) (ys.drop i) ∧ Below w.heap.size w wr) (fun v _ => ys.length - (intOf v).toNat)
    case atStart => exact ⟨0, Nat.zero_le _, rfl, rfl, Below.refl _ _⟩
    case round =>
      obtain ⟨i, hi, rfl, hl, bel⟩ := hrel
      by_cases hlt : i < ys.length
      · have hl2 := lex_drop xs ys i (by omega) (by omega)
        have c1 : wr.cell? ⟨gx, i, none⟩ = some (.int .u8 (xs.getD i 0)) := (bel.cell bx).trans (hx i (by omega))
        have c2 : wr.cell? ⟨gy, i, none⟩ = some (.int .u8 (ys.getD i 0)) := (bel.cell by').trans (hy i (by omega))
        generalize xs.getD i 0 = p at *
        generalize ys.getD i 0 = q at *
        have hix : i < xs.length := by omega
        have hiy : i < ys.length := by omega
        by_cases h1 : p < q
        · have E : Hid (lex xs ys = -1) := (show lex xs ys = -1 by rw [hl, hl2, if_pos h1])
          clear hl hl2
          go_wp2_with (go_quiet (fail))
          go_ret
          exact ⟨congrArg (fun z => Ending.returned (Value.int .i64 z)) (show lex xs ys = -1 from E).symm, bel_drewN bel _⟩
        · by_cases h2 : q < p
          · have E : Hid (lex xs ys = 1) := (show lex xs ys = 1 by rw [hl, hl2, if_neg h1, if_pos h2])
            clear hl hl2
            go_wp2_with (go_quiet (fail))
            go_ret
            exact ⟨congrArg (fun z => Ending.returned (Value.int .i64 z)) (show lex xs ys = 1 from E).symm, by first | exact bel_drewN (bel_drewN bel _) _ | exact bel_drewN bel _⟩
          · have E : Hid (lex xs ys = lex (xs.drop (i + 1)) (ys.drop (i + 1))) := (show lex xs ys = lex (xs.drop (i + 1)) (ys.drop (i + 1)) by rw [hl, hl2, if_neg h1, if_neg h2])
            clear hl hl2
            go_wp2_with (go_quiet (fail))
            go_roundw
            case rel => exact ⟨i + 1, by omega, by go_num, E, by first | exact bel_drewN (bel_drewN bel _) _ | exact bel_drewN bel _⟩
            case measure => simp [intOf]; omega
      · have hl2 := lex_end xs ys i (by omega) (by omega) (by omega)
        by_cases h1 : xs.length < ys.length
        · have E : Hid (lex xs ys = -1) := (show lex xs ys = -1 by rw [hl, hl2, if_pos h1])
          clear hl hl2
          go_wp2
          all_goals (first | (exfalso; omega) | (go_ret; exact ⟨congrArg (fun z => Ending.returned (Value.int .i64 z)) (show lex xs ys = -1 from E).symm, bel⟩))
        · by_cases h2 : ys.length < xs.length
          · have E : Hid (lex xs ys = 1) := (show lex xs ys = 1 by rw [hl, hl2, if_neg h1, if_pos h2])
            clear hl hl2
            go_wp2
            all_goals (first | (exfalso; omega) | (go_ret; exact ⟨congrArg (fun z => Ending.returned (Value.int .i64 z)) (show lex xs ys = 1 from E).symm, bel⟩))
          · have E : Hid (lex xs ys = 0) := (show lex xs ys = 0 by rw [hl, hl2, if_neg h1, if_neg h2])
            clear hl hl2
            go_wp2
            all_goals (first | (exfalso; omega) | (go_ret; exact ⟨congrArg (fun z => Ending.returned (Value.int .i64 z)) (show lex xs ys = 0 from E).symm, bel⟩))
  · go_enter Try.func8, Try.ntmps8
    go_wp2
    go_loopw [6] (fun v wr => ∃ i : Nat, i ≤ xs.length ∧ v = .int .i64 i ∧ lex xs ys = lex (xs.drop i) (ys.drop i) ∧ Below w.heap.size w wr) (fun v _ => xs.length - (intOf v).toNat)
    case atStart => exact ⟨0, Nat.zero_le _, rfl, rfl, Below.refl _ _⟩
    case round =>
      obtain ⟨i, hi, rfl, hl, bel⟩ := hrel
      by_cases hlt : i < xs.length
      · have hl2 := lex_drop xs ys i (by omega) (by omega)
        have c1 : wr.cell? ⟨gx, i, none⟩ = some (.int .u8 (xs.getD i 0)) := (bel.cell bx).trans (hx i (by omega))
        have c2 : wr.cell? ⟨gy, i, none⟩ = some (.int .u8 (ys.getD i 0)) := (bel.cell by').trans (hy i (by omega))
        generalize xs.getD i 0 = p at *
        generalize ys.getD i 0 = q at *
        have hix : i < xs.length := by omega
        have hiy : i < ys.length := by omega
        by_cases h1 : p < q
        · have E : Hid (lex xs ys = -1) := (show lex xs ys = -1 by rw [hl, hl2, if_pos h1])
          clear hl hl2
          go_wp2_with (go_quiet (fail))
          go_ret
          exact ⟨congrArg (fun z => Ending.returned (Value.int .i64 z)) (show lex xs ys = -1 from E).symm, bel_drewN bel _⟩
        · by_cases h2 : q < p
          · have E : Hid (lex xs ys = 1) := (show lex xs ys = 1 by rw [hl, hl2, if_neg h1, if_pos h2])
            clear hl hl2
            go_wp2_with (go_quiet (fail))
            go_ret
            exact ⟨congrArg (fun z => Ending.returned (Value.int .i64 z)) (show lex xs ys = 1 from E).symm, by first | exact bel_drewN (bel_drewN bel _) _ | exact bel_drewN bel _⟩
          · have E : Hid (lex xs ys = lex (xs.drop (i + 1)) (ys.drop (i + 1))) := (show lex xs ys = lex (xs.drop (i + 1)) (ys.drop (i + 1)) by rw [hl, hl2, if_neg h1, if_neg h2])
            clear hl hl2
            go_wp2_with (go_quiet (fail))
            go_roundw
            case rel => exact ⟨i + 1, by omega, by go_num, E, by first | exact bel_drewN (bel_drewN bel _) _ | exact bel_drewN bel _⟩
            case measure => simp [intOf]; omega
      · have hl2 := lex_end xs ys i (by omega) (by omega) (by omega)
        by_cases h1 : xs.length < ys.length
        · have E : Hid (lex xs ys = -1) := (show lex xs ys = -1 by rw [hl, hl2, if_pos h1])
          clear hl hl2
          go_wp2
          all_goals (first | (exfalso; omega) | (go_ret; exact ⟨congrArg (fun z => Ending.returned (Value.int .i64 z)) (show lex xs ys = -1 from E).symm, bel⟩))
        · by_cases h2 : ys.length < xs.length
          · have E : Hid (lex xs ys = 1) := (show lex xs ys = 1 by rw [hl, hl2, if_neg h1, if_pos h2])
            clear hl hl2
            go_wp2
            all_goals (first | (exfalso; omega) | (go_ret; exact ⟨congrArg (fun z => Ending.returned (Value.int .i64 z)) (show lex xs ys = 1 from E).symm, bel⟩))
          · have E : Hid (lex xs ys = 0) := (show lex xs ys = 0 by rw [hl, hl2, if_neg h1, if_neg h2])
            clear hl hl2
            go_wp2
            all_goals (first | (exfalso; omega) | (go_ret; exact ⟨congrArg (fun z => Ending.returned (Value.int .i64 z)) (show lex xs ys = 0 from E).symm, bel⟩))
end Go.Proofs.Qxb6614828a.Bytes
