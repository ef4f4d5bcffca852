/-
  'if s != nil { c := make([]T, len(s)); copy(c, s); s = c }' at a slice of integers: what is made.
-/
import Derived.Test.Qxb6609061aCount
import Derived.Test.Qxb6609061aBuild
import Derived.Laws.CopyOwn
namespace Go.Proofs.Qxb6609061a.Line
open Go.RowKit

/-- A slice of integers that came in: nil, or cells from an address on. -/
def Row (w : World) (a : Option Addr) (n : Nat) (z : Nat → Int) : Prop := (a = none ∧ n = 0) ∨ ∃ x, a = some x ∧ ∀ j, j < n → w.cell? (x.add j) = some (.int .i64 (z j))

theorem Row.below {w w' : World} {a : Option Addr} {n : Nat} {z : Nat → Int} (h : Row w a n z) (hb : Below w.heap.size w w') : Row w' a n z := by
  rcases h with h | ⟨x, e, h1⟩
  · exact .inl h
  · exact .inr ⟨x, e, fun j hj => (hb.cell (block_lt_of_cell (h1 j hj))).trans (h1 j hj)⟩

theorem below_setCells {B g : Nat} (hBg : B ≤ g) : ∀ (vs : List Value) (o : Nat) {w0 w : World}, Below B w0 w → Below B w0 (w.setCells g o vs)
  | [], _, _, _, hb => hb
  | v :: r, o, _, _, hb => below_setCells hBg r (o + 1) (hb.setCell (p := ⟨g, o, none⟩) hBg v)

theorem info2x : (Try.prog.info? 2).map (fun i => (i.zero, i.size, i.bytes)) = some (some (.int .i64 0), 1, 8) := by kernel_rfl
theorem info3x : (Try.prog.info? 3).map (fun i => (i.zero, i.size, i.bytes)) = some (some (.int .i64 0), 1, 8) := by kernel_rfl

theorem copy_made (t e : TypeId) (ht : Try.prog.underlying t = some (.slice e)) (hi : (Try.prog.info? e).map (fun i => (i.zero, i.size, i.bytes)) = some (some (.int .i64 0), 1, 8))
    (x : Addr) (n c : Nat) (z : Nat → Int) (w : World) (hn : n ≤ 65536) (A : ∀ j, j < n → w.cell? (x.add j) = some (.int .i64 (z j))) :
    ∃ w1 w2, (Instr.makeSlice t (.int .i64 n) (.int .i64 n)).run Try.prog w = .ok (.slice (some ⟨w.heap.size, 0, none⟩) n n) w1 ∧
      (∀ ty, (Builtin.copy_ #[t, t] ty #[.slice (some ⟨w.heap.size, 0, none⟩) n n, .slice (some x) n c]).run Try.prog w1 = .ok (goInt n) w2) ∧ Below w.heap.size w w2 ∧ Arr w2 (some ⟨w.heap.size, 0, none⟩) n z := by
  obtain ⟨i, hi1, hz, hs, hb⟩ := info_parts hi
  have hmk := run_make w t e i (.int .i64 0) ht hi1 hz .i64 .i64 n n (by omega) (Int.le_refl _) (by rw [hb]; omega) (by omega)
  obtain ⟨M, hM, hM2⟩ : ∃ M, M = madeCells (Value.int .i64 0).cells (n * i.size) ∧ M.size = n := ⟨_, rfl, by simp [madeCells, hs]⟩
  simp only [Int.toNat_natCast] at hmk
  rw [← hM] at hmk
  have ht1 : (w.alloc (.cells M e)).there w.heap.size 0 n := there_block (heap_new _ _) 0 n (by omega)
  have hb1 : Below w.heap.size w (w.alloc (.cells M e)) := (Below.refl _ _).alloc (Nat.le_refl _) _
  obtain ⟨cs, hcs⟩ : ∃ cs : List Value, cs = (List.range n).map (fun j => .int .i64 (z j)) := ⟨_, rfl⟩
  have hl : cs.length = n := by rw [hcs]; simp
  have hcp := fun ty => run_copy_cells (P := Try.prog) (w.alloc (.cells M e)) t t ty e w.heap.size 0 n n x n c cs ht (by rw [hi1]; simp [hs]) (by rw [hl]; simp)
    (fun j v hj => by
      have hjn : j < n := by rw [← hl]; exact (List.getElem?_eq_some_iff.1 hj).1
      rw [hcs] at hj
      simp [hjn] at hj
      rw [← hj]
      exact (hb1.cell (block_lt_of_cell (A j hjn))).trans (A j hjn))
    (fun j hj => (ht1 j (by omega)).1) (fun j hj => (ht1 j (by omega)).2)
    (by intro v hv; rw [hcs] at hv; simp at hv; obtain ⟨j, _, rfl⟩ := hv; rfl)
  refine ⟨_, _, hmk, fun ty => by rw [hcp ty, hl], below_setCells (Nat.le_refl _) _ _ hb1, .inr ⟨_, rfl, fun j hj => ?_⟩⟩
  have := World.cell?_setCells_in w.heap.size cs 0 (w.alloc (.cells M e)) (fun j hj => by have := (ht1 j (by omega)).1; simpa using this) j (by omega)
  rw [Nat.zero_add] at this
  rw [this]
  simp [hcs]

theorem neq22 (w : World) (a : Option Addr) (n c : Nat) : (binOp .neq 22 (.slice a n c) (.slice none 0 0)).run Try.prog w = .ok (.bool (!a.isNone)) w := run_neq_slice_nil_any w 22 3 a n c 0 0 Try.underlying22
theorem neq23 (w : World) (a : Option Addr) (n c : Nat) : (binOp .neq 23 (.slice a n c) (.slice none 0 0)).run Try.prog w = .ok (.bool (!a.isNone)) w := run_neq_slice_nil_any w 23 2 a n c 0 0 Try.underlying23

end Go.Proofs.Qxb6609061a.Line
