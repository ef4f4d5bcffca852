/-
  What the two laws over rebuild share: the copy of the old tree; the view as kept in a struct variable.
-/
import Derived.Test.Qxb6609061aCopy
import Derived.Test.Qxb6609061aBytes
import Derived.Test.Qxb6609061aMakeAny
import Derived.Test.Qxb6609061aHoldsTree
import Derived.Test.Qxb6609061aSee
import Derived.Test.Qxb6609061aPages
import Derived.Test.Qxb6609061aClone
namespace Go.Proofs.Qxb6609061a.Line
open Go.RowKit

/-- A slice of uint64 that came in: nil, or cells from an address on. -/
def Row64 (w : World) (a : Option Addr) (n c : Nat) : Prop := (a = none ∧ n = 0 ∧ c = 0) ∨ ∃ (x : Addr) (z : Nat → Int), a = some x ∧ ∀ j, j < n → w.cell? (x.add j) = some (.int .u64 (z j))

theorem Row64.below {w w' : World} {a : Option Addr} {n c : Nat} (h : Row64 w a n c) (hb : Below w.heap.size w w') : Row64 w' a n c := by
  rcases h with h | ⟨x, z, e, h1⟩
  · exact .inl h
  · exact .inr ⟨x, z, e, fun j hj => (hb.cell (block_lt_of_cell (h1 j hj))).trans (h1 j hj)⟩

theorem clone_any (a : Option Addr) (n c : Nat) (w : World) (hn : n ≤ 65536) (h : Row64 w a n c) :
    Calls Try.prog 8 #[.slice a n c] w fun e w' => ∃ la ll lc, e = .returned (.slice la ll lc) ∧ Below w.heap.size w w' := by
  rcases h with ⟨rfl, rfl, rfl⟩ | ⟨x, z, rfl, A⟩
  · exact (clone_nil w).mono fun e w' ⟨h1, h2⟩ => ⟨none, 0, 0, h1, h2 ▸ Below.refl _ _⟩
  · exact (clone_some x n c z w hn A (fun i hi => block_lt_of_cell (A i hi))).mono fun e w' ⟨h1, h2⟩ => ⟨_, _, _, h1, h2⟩

/-- The eleven fields of a view. -/
def fields (p : Nat → Option Addr) (k : Nat → Nat) (n M : Nat) (held waiting first : Int) : List Value :=
  [.slice (p 0) n (k 0), .slice (p 1) n (k 1), .slice (p 2) n (k 2), .slice (p 3) n (k 3), .slice (p 4) n (k 4), .slice (p 5) M (k 5), .slice (p 6) (pgs n) (k 6), .int .i64 held, .int .i64 waiting, .int .i64 first, .int .i64 n]

theorem view_cs {w : World} {lo hi q : Nat} {pa : Option Addr} {g cap : Nat} {pb : Nat → Nat} {n : Nat} {T : Nat → Task} {held waiting first : Int} (F : Nat → Int) (lb M lc : Nat) (h : Line w lo hi q pa g cap pb n T (.slice (some ⟨lb, 0, none⟩) M lc) held waiting first) (hn : n ≤ 65536) (hM : 0 < M) (hM2 : M ≤ 1000000) (hF : ∀ j, j < M → w.cell? ⟨lb, j, none⟩ = some (.int .u64 (F j))) :
    Calls Try.prog 11 #[.pointer (some ⟨q, 0, none⟩)] w fun e w' => ∃ (p : Nat → Option Addr) (k : Nat → Nat), e = .returned (.agg (fields p k n M held waiting first).toArray) ∧ Below w.heap.size w w' ∧
      ∀ f, f < 7 → Seen w' (w.heap.size + 2) (p f) (lvB n M (pgs n) f) (fldT T n F f) :=
  (view_any F lb M lc h hn hM hM2 hF).mono fun _ _ ⟨p, k, h1, h2, h3⟩ => ⟨p, k, h1, h2, h3⟩

theorem wpList_keep33 {ops : Array Oper} {rest : List Oper} {op : Oper} {a : Act} {w : World} {M : Array Value} {Q : Exit → Act → World → Prop} (hgd : op.guard = none) (x y : Operand) (ho : op.op = .store 33 x y)
    (hM : M.size = 11) (p : Nat → Option Addr) (k : Nat → Nat) (n m : Nat) (held waiting first : Int) (hx : a.eval x = .pointer (some ⟨w.heap.size, 0, none⟩)) (hy : a.eval y = .agg (fields p k n m held waiting first).toArray)
    (h : ∀ V, Below w.heap.size w V → V.heap.size = w.heap.size + 1 → V.rangeAt w.heap.size 0 (fields p k n m held waiting first) → wpList Try.prog ops Q rest (a.put op.dst undef) V) :
    wpList Try.prog ops Q (op :: rest) a (w.alloc (.cells M 33)) := by
  have ht : (w.alloc (.cells M 33)).there w.heap.size 0 11 := there_block (heap_new _ _) 0 11 (by omega)
  refine wpList_store33 hgd x y ho w.heap.size _ hx hy rfl ht (by simp [fields, Value.oneCell']) (h _ ?_ ?_ ?_)
  · exact below_setCells (Nat.le_refl _) _ _ ((Below.refl _ _).alloc (Nat.le_refl _) _)
  · rw [size_setCells]; simp
  · exact World.rangeAt_setCells_same _ _ _ _ ht

theorem fields33 {V : World} {B : Nat} {p : Nat → Option Addr} {k : Nat → Nat} {n m : Nat} {held waiting first : Int} (r : V.rangeAt B 0 (fields p k n m held waiting first)) :
    V.cell? ⟨B, 0, none⟩ = some (.slice (p 0) n (k 0)) ∧ V.cell? ⟨B, 1, none⟩ = some (.slice (p 1) n (k 1)) ∧ V.cell? ⟨B, 2, none⟩ = some (.slice (p 2) n (k 2)) ∧ V.cell? ⟨B, 3, none⟩ = some (.slice (p 3) n (k 3)) ∧ V.cell? ⟨B, 4, none⟩ = some (.slice (p 4) n (k 4)) ∧
    V.cell? ⟨B, 5, none⟩ = some (.slice (p 5) m (k 5)) ∧ V.cell? ⟨B, 6, none⟩ = some (.slice (p 6) (pgs n) (k 6)) ∧ V.cell? ⟨B, 7, none⟩ = some (.int .i64 held) ∧ V.cell? ⟨B, 8, none⟩ = some (.int .i64 waiting) ∧ V.cell? ⟨B, 9, none⟩ = some (.int .i64 first) ∧ V.cell? ⟨B, 10, none⟩ = some (.int .i64 n) :=
  ⟨r 0 _ rfl, r 1 _ rfl, r 2 _ rfl, r 3 _ rfl, r 4 _ rfl, r 5 _ rfl, r 6 _ rfl, r 7 _ rfl, r 8 _ rfl, r 9 _ rfl, r 10 _ rfl⟩

/-- A slice of the call's own, made with room c, that holds n numbers so far. -/
def Own (w : World) (b n c : Nat) (x : Nat → Int) : Prop := w.there b 0 c ∧ ∀ j, j < n → w.cell? ⟨b, j, none⟩ = some (.int .i64 (x j))

theorem Own.arr {w : World} {b n c : Nat} {x : Nat → Int} (h : Own w b n c x) : Arr w (some ⟨b, 0, none⟩) n x := .inr ⟨b, rfl, h.2⟩

theorem Own.drew {w : World} {b n c : Nat} {x : Nat → Int} (h : Own w b n c x) : Own w.drew b n c x := h

theorem Own.below {w w' : World} {b n c : Nat} {x : Nat → Int} (h : Own w b n c x) (hb : Below w.heap.size w w') (hlt : b < w.heap.size) : Own w' b n c x :=
  ⟨fun j hj => by rw [hb.cell (p := ⟨b, 0 + j, none⟩) hlt, hb.frozen (p := ⟨b, 0 + j, none⟩) hlt]; exact h.1 j hj, fun j hj => (hb.cell (p := ⟨b, j, none⟩) hlt).trans (h.2 j hj)⟩

theorem own_start (t e : TypeId) (ht : Try.prog.underlying t = some (.slice e)) (hi : (Try.prog.info? e).map (fun i => (i.zero, i.size, i.bytes)) = some (some (.int .i64 0), 1, 8)) (c : Nat) (x : Nat → Int) (w : World) (hc : c ≤ 65536) :
    ∃ w1, (Instr.makeSlice t (.int .i64 0) (.int .i64 c)).run Try.prog w = .ok (.slice (some ⟨w.heap.size, 0, none⟩) 0 c) w1 ∧ Below w.heap.size w w1 ∧ w1.heap.size = w.heap.size + 1 ∧ Own w1 w.heap.size 0 c x := by
  obtain ⟨i, hi1, hz, hs, hb⟩ := info_parts hi
  have hmk := run_make w t e i (.int .i64 0) ht hi1 hz .i64 .i64 0 c (by omega) (by omega) (by rw [hb]; omega) (by omega)
  obtain ⟨M, hM, hM2⟩ : ∃ M, M = madeCells (Value.int .i64 0).cells (c * i.size) ∧ M.size = c := ⟨_, rfl, by simp [madeCells, hs]⟩
  simp only [Int.toNat_natCast, Int.toNat_zero] at hmk
  rw [← hM] at hmk
  have ht1 : (w.alloc (.cells M e)).there w.heap.size 0 c := there_block (heap_new _ _) 0 c (by omega)
  exact ⟨_, hmk, (Below.refl _ _).alloc (Nat.le_refl _) _, by simp, ht1, fun j hj => absurd hj (Nat.not_lt_zero _)⟩

theorem own_step (t e : TypeId) (ht : Try.prog.underlying t = some (.slice e)) (hi : (Try.prog.info? e).map (fun i => (i.zero, i.size, i.bytes)) = some (some (.int .i64 0), 1, 8)) {w : World} {b n c : Nat} {x : Nat → Int} (h : Own w b n c x) (hn : n < c) (hlt : b < w.heap.size) :
    ∃ w2, (∀ ty, (Builtin.append_ #[t, t] ty #[.slice (some ⟨b, 0, none⟩) n c, .slice (some ⟨w.heap.size, 0, none⟩) 1 1]).run Try.prog (w.alloc (.cells #[.int .i64 (x n)] e)) = .ok (.slice (some ⟨b, 0, none⟩) (n + 1) c) w2) ∧
      Own w2 b (n + 1) c x ∧ w2.heap.size = w.heap.size + 1 ∧ (∀ B, B ≤ b → Below B w w2) ∧ ∀ b' n' c' x', b' ≠ b → b' < w.heap.size → Own w b' n' c' x' → Own w2 b' n' c' x' := by
  obtain ⟨i, hi1, hz, hs, hb⟩ := info_parts hi
  have hba : Below w.heap.size w (w.alloc (.cells #[.int .i64 (x n)] e)) := (Below.refl _ _).alloc (Nat.le_refl _) _
  have h1 : Own (w.alloc (.cells #[.int .i64 (x n)] e)) b n c x := h.below hba hlt
  have hin := h1.1 n hn
  rw [Nat.zero_add] at hin
  have hrun := fun ty => run_append_room_cells (P := Try.prog) (w.alloc (.cells #[.int .i64 (x n)] e)) t ty e i ht hi1 b 0 n c ⟨w.heap.size, 0, none⟩ 1 1 [.int .i64 (x n)] (by simp [hs])
    (by intro j u hj; cases j with | zero => (simp at hj; subst hj; simp [Addr.add]) | succ j => simp at hj)
    (by intro u hu; simp at hu; subst hu; rfl) (by omega) (fun j hj => by simp at hj; subst hj; simpa [hs] using hin.1) (fun j hj => by simp at hj; subst hj; simpa [hs] using hin.2)
  simp only [hs, Nat.mul_one, Nat.zero_add] at hrun
  refine ⟨_, hrun, ⟨World.there_setCells h1.1 _ _ _, fun j hj => ?_⟩, by rw [size_setCells]; simp, fun B hB => ?_, fun b' n' c' x' hne hlt' ho => ?_⟩
  · by_cases e1 : j = n
    · subst e1
      have := World.cell?_setCells_in b [.int .i64 (x j)] j (w.alloc (.cells #[.int .i64 (x j)] e)) (fun i hi => by simp at hi; subst hi; simpa using hin.1) 0 (by simp)
      simpa using this
    · exact csets (h1.2 j (by omega)) _ (.inr (by simp; omega))
  · exact below_setCells hB _ _ ((Below.refl _ _).alloc (by omega) _)
  · have h2 := ho.below hba hlt'
    exact ⟨World.there_setCells h2.1 _ _ _, fun j hj => csets (h2.2 j hj) _ (.inl hne)⟩

theorem seen_arr {w : World} {lo : Nat} {p : Option Addr} {m m' : Nat} {x : Nat → Value} (y : Nat → Int) (h : Seen w lo p m x) (hm : m = m') (hx : ∀ j, x j = .int .i64 (y j)) : Arr w p m' y := by
  subst hm
  rcases h with h | ⟨g, e, _, _, h1⟩
  · exact .inl h
  · exact .inr ⟨g, e, fun j hj => by rw [h1 j hj, hx]⟩

theorem kept_mono (T : Nat → Task) {i n : Nat} (h : i ≤ n) : ∃ l, kept T n = kept T i ++ l := by
  induction n with
  | zero => exact ⟨[], by rw [show i = 0 by omega]; simp⟩
  | succ n ih =>
    by_cases e : i = n + 1
    · subst e; exact ⟨[], by simp⟩
    · obtain ⟨l, hl⟩ := ih (by omega)
      by_cases hc : 0 < (T n).count
      · exact ⟨l ++ [T n], by rw [kept_yes hc, hl]; simp⟩
      · exact ⟨l, by rw [kept_no hc, hl]⟩

theorem kept_at (T : Nat → Task) {i n : Nat} (h : i < n) (hc : 0 < (T i).count) (d : Task) : (kept T n).getD (kept T i).length d = T i ∧ (kept T i).length < (kept T n).length := by
  obtain ⟨l, hl⟩ := kept_mono T (show i + 1 ≤ n by omega)
  rw [hl, kept_yes hc]
  simp

theorem kept_pos (T : Nat → Task) (n : Nat) (d : Task) : ∀ j, j < (kept T n).length → 0 < ((kept T n).getD j d).count ∧ ∃ i, i < n ∧ (kept T n).getD j d = T i := fun j hj => by
  have hm : (kept T n).getD j d ∈ kept T n := by
    rw [List.getD_eq_getElem?_getD, List.getElem?_eq_getElem hj]; exact List.getElem_mem hj
  simp only [kept, List.mem_filter, List.mem_map, List.mem_range, decide_eq_true_eq] at hm
  obtain ⟨⟨i, hi, he⟩, hp⟩ := hm
  exact ⟨by simpa [kept] using hp, i, hi, he.symm⟩

end Go.Proofs.Qxb6609061a.Line
