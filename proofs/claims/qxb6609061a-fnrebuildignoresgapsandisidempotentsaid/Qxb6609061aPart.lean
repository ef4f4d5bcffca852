/-
  A waitLine in the making: what holds at the head of ZZnewWaitLine's loop, and what each of its two writes does to it.
-/
import Derived.Test.Qxb6609061aRebuild
import Derived.Laws.OwnMore
import Derived.OneCell
namespace Go.Proofs.Qxb6609061a.Line
open Go.RowKit

/-- Page k, when i tasks are laid. -/
def pgv (pb : Nat → Nat) (i k : Nat) : Value := .slice (some ⟨pb k, 0, none⟩) (min 1024 (i - 1024 * k)) 1024

structure Part (w wr : World) (pa : Option Addr) (cap : Nat) (pb : Nat → Nat) (np i : Nat) (T : Nat → Task) (least : Value) (held waiting first : Int) : Prop where
  bel : Below w.heap.size w wr
  siz : w.heap.size < wr.heap.size
  h0 : wr.cell? ⟨w.heap.size, 0, none⟩ = some (.slice pa np cap)
  h1 : wr.cell? ⟨w.heap.size, 1, none⟩ = some (.int .i64 0)
  h2 : wr.cell? ⟨w.heap.size, 2, none⟩ = some least
  h3 : wr.cell? ⟨w.heap.size, 3, none⟩ = some (.int .i64 held)
  h4 : wr.cell? ⟨w.heap.size, 4, none⟩ = some (.int .i64 waiting)
  h5 : wr.cell? ⟨w.heap.size, 5, none⟩ = some (.int .i64 first)
  qth : wr.there w.heap.size 0 6
  own : wr.ownsRow (w.heap.size + 1) 76 1 (.slice pa np cap) np ((List.range np).map (pgv pb i))
  pbr : ∀ k, k < np → w.heap.size < pb k ∧ pb k < wr.heap.size ∧ pa ≠ some ⟨pb k, 0, none⟩
  inj : ∀ j k, j < np → k < np → pb j = pb k → j = k
  pth : ∀ k, k < np → wr.there (pb k) 0 5120
  task : ∀ j, j < i → wr.rangeAt (pb (j / 1024)) (j % 1024 * 5) (T j).cs

section
variable {w wr : World} {pa : Option Addr} {cap : Nat} {pb : Nat → Nat} {np i : Nat} {T : Nat → Task} {least : Value} {held waiting first : Int}

theorem Part.drew (h : Part w wr pa cap pb np i T least held waiting first) : Part w wr.drew pa cap pb np i T least held waiting first :=
  ⟨h.bel.drew, h.siz, h.h0, h.h1, h.h2, h.h3, h.h4, h.h5, h.qth, h.own.drew, h.pbr, h.inj, h.pth, h.task⟩

theorem Part.shape (h : Part w wr pa cap pb np i T least held waiting first) (h0 : 0 < np) : ∃ g, pa = some ⟨g, 0, none⟩ ∧ w.heap.size < g ∧ g < wr.heap.size ∧ np ≤ cap := by
  rcases h.own.2 with ⟨_, h2⟩ | ⟨g, c, cur, he, hb, hg, hn, _⟩
  · omega
  · injection he with e1 e2 e3
    subst e1 e3
    exact ⟨g, rfl, hb, (Array.getElem?_eq_some_iff.1 hg).1, hn⟩

theorem Part.ob (h : Part w wr pa cap pb np i T least held waiting first) {k : Nat} (hk : (Value.slice pa np cap).ownBlock = some k) : w.heap.size < k ∧ k < wr.heap.size ∧ pa = some ⟨k, 0, none⟩ := by
  have h1 := h.own.lt k hk
  rcases h.own.2 with ⟨he, _⟩ | ⟨g, c, cur, he, _⟩
  · rw [he] at hk; cases hk
  · injection he with e1 e2 e3
    subst e1
    injection hk with hk
    subst hk
    exact ⟨h1.1, h1.2, rfl⟩

/-- A new page. -/
theorem Part.newPage (h : Part w wr pa cap pb np i T least held waiting first) (hi : i = 1024 * np) {M : Array Value} (hM : M.size = 5120) {w2 w3 : World} (hw2 : w2 = (wr.alloc (.cells M 78)).alloc (.cells #[.slice (some ⟨wr.heap.size, 0, none⟩) 0 1024] 76))
    {g cap' : Nat} (own3 : w3.ownsRow (w.heap.size + 1) 76 1 (.slice (some ⟨g, 0, none⟩) (np + 1) cap') (np + 1) ((List.range np).map (pgv pb i) ++ [.slice (some ⟨wr.heap.size, 0, none⟩) 0 1024]))
    (gr : w2.grownBy w3 (Value.slice pa np cap).ownBlock) (hat : (Value.slice pa np cap).ownBlock = some g ∨ g = w2.heap.size) (hg3 : g < w3.heap.size) :
    Part w (w3.setCell ⟨w.heap.size, 0, none⟩ (.slice (some ⟨g, 0, none⟩) (np + 1) cap')) (some ⟨g, 0, none⟩) cap' (fun k => if k = np then wr.heap.size else pb k) (np + 1) i T least held waiting first := by
  have s2 : w2.heap.size = wr.heap.size + 2 := by rw [hw2]; simp
  have hsz := h.siz
  have o2 : ∀ k, k < wr.heap.size → w2.heap[k]? = wr.heap[k]? := fun k hk => by
    rw [hw2, heap_alloc_old _ _ (by simp; omega), heap_alloc_old _ _ hk]
  have n2 : w2.heap[wr.heap.size]? = some (.cells M 78) := by
    rw [hw2, heap_alloc_old _ _ (by simp), heap_new]
  have row : ∀ k, (Value.slice pa np cap).ownBlock = some k → w.heap.size < k ∧ k < wr.heap.size ∧ pa = some ⟨k, 0, none⟩ := fun k hk => h.ob hk
  have o3 : ∀ k, k < wr.heap.size → (Value.slice pa np cap).ownBlock ≠ some k → w3.heap[k]? = wr.heap[k]? := fun k hk hn => (gr.block k (by omega) (fun e => hn e.symm)).trans (o2 k hk)
  have n3 : w3.heap[wr.heap.size]? = some (.cells M 78) := (gr.block _ (by omega) (fun e => by have := (row _ e.symm).2.1; omega)).trans n2
  have hq3 : w3.heap[w.heap.size]? = wr.heap[w.heap.size]? := o3 _ hsz (fun e => by have := (row _ e).1; omega)
  have hgq : w.heap.size < g := by
    rcases hat with e | e
    · exact (row g e).1
    · omega
  have s3 := gr.size
  have c3 : ∀ j, w3.cell? ⟨w.heap.size, j, none⟩ = wr.cell? ⟨w.heap.size, j, none⟩ := fun j => World.cell?_of_block (w := wr) (a := ⟨w.heap.size, j, none⟩) hq3
  have c4 : ∀ j v, j ≠ 0 → wr.cell? ⟨w.heap.size, j, none⟩ = some v → (w3.setCell ⟨w.heap.size, 0, none⟩ (.slice (some ⟨g, 0, none⟩) (np + 1) cap')).cell? ⟨w.heap.size, j, none⟩ = some v := fun j v hj hv => by
    rw [World.cell?_setCell_other _ _ _ _ (by intro e; injection e with _ e2; omega), c3, hv]
  have b4 : ∀ k, k < wr.heap.size → k ≠ w.heap.size → (Value.slice pa np cap).ownBlock ≠ some k → (w3.setCell ⟨w.heap.size, 0, none⟩ (.slice (some ⟨g, 0, none⟩) (np + 1) cap')).heap[k]? = wr.heap[k]? := fun k hk hq hn =>
    (Below.heap_setCell _ _ _ _ hq).trans (o3 k hk hn)
  have pbo : ∀ k, k < np → (Value.slice pa np cap).ownBlock ≠ some (pb k) := fun k hk e => (h.pbr k hk).2.2 (row _ e).2.2
  have gne : ∀ k, k < np → g ≠ pb k := fun k hk e => by
    rcases hat with e2 | e2
    · exact pbo k hk (by rw [← e]; exact e2)
    · have := (h.pbr k hk).2.1; omega
  refine ⟨?_, ?_, ?_, c4 1 _ (by decide) h.h1, c4 2 _ (by decide) h.h2, c4 3 _ (by decide) h.h3, c4 4 _ (by decide) h.h4, c4 5 _ (by decide) h.h5, ?_, ?_, ?_, ?_, ?_, ?_⟩
  · refine Below.setCell (h.bel.trans ?_) (Nat.le_refl _) _
    exact ⟨gr.os.trans (by rw [hw2]; rfl), gr.tape.trans (by rw [hw2]; rfl), gr.output.trans (by rw [hw2]; rfl), by omega, fun k hk => o3 k (by omega) (fun e => by have := (row _ e).1; omega)⟩
  · rw [size_setCell]; omega
  · exact World.cell?_setCell_same _ _ _ (by rw [c3]; exact h.h0)
  · exact there_setCell (there_same hq3 h.qth) _ _
  · refine ownsRow_setCell_other ?_ ?_ _
    · have e : (List.range (np + 1)).map (pgv (fun k => if k = np then wr.heap.size else pb k) i) = (List.range np).map (pgv pb i) ++ [.slice (some ⟨wr.heap.size, 0, none⟩) 0 1024] := by
        rw [List.range_succ, List.map_append]
        congr 1
        · apply List.map_congr_left
          intro k hk
          have := List.mem_range.1 hk
          simp [pgv, show k ≠ np by omega]
        · simp [pgv, hi]
      rw [e]; exact own3
    · intro e
      injection e with e
      simp at e
      omega
  · intro k hk
    rw [size_setCell]
    by_cases e : k = np
    · simp only [e, if_true]
      refine ⟨hsz, by omega, fun e2 => ?_⟩
      injection e2 with e2
      injection e2 with e2
      rcases hat with e3 | e3
      · have := (row _ e3).2.1; omega
      · omega
    · simp only [if_neg e]
      have := h.pbr k (by omega)
      refine ⟨this.1, by omega, fun e2 => ?_⟩
      injection e2 with e2
      injection e2 with e2
      exact gne k (by omega) e2
  · intro j k hj hk e
    by_cases e1 : j = np
    · by_cases e2 : k = np
      · omega
      · rw [if_pos e1, if_neg e2] at e
        have := (h.pbr k (by omega)).2.1; omega
    · by_cases e2 : k = np
      · rw [if_neg e1, if_pos e2] at e
        have := (h.pbr j (by omega)).2.1; omega
      · rw [if_neg e1, if_neg e2] at e
        exact h.inj j k (by omega) (by omega) e
  · intro k hk
    refine there_setCell ?_ _ _
    by_cases e : k = np
    · simp only [e, if_true]
      exact there_block n3 0 5120 (by omega)
    · simp only [if_neg e]
      have := h.pbr k (by omega)
      exact there_same (o3 _ this.2.1 (pbo k (by omega))) (h.pth k (by omega))
  · intro j hj
    have hk : j / 1024 < np := by omega
    have := h.pbr _ hk
    simp only [show j / 1024 ≠ np by omega, if_false]
    exact range_same (b4 _ this.2.1 (by omega) (pbo _ hk)) (h.task j hj)

theorem ownsRow_setCells_other {base : Nat} {e : TypeId} {size : Nat} {v : Value} {n : Nat} {xs : List Value} {b : Nat} (hb : v.ownBlock ≠ some b) : ∀ (vs : List Value) (o : Nat) (w : World), w.ownsRow base e size v n xs → (w.setCells b o vs).ownsRow base e size v n xs
  | [], _, _, h => h
  | u :: r, o, w, h => by
    rw [World.setCells]
    exact ownsRow_setCells_other hb r (o + 1) _ (ownsRow_setCell_other h hb u)

/-- A task more. -/
theorem Part.newTask {g : Nat} (h : Part w wr (some ⟨g, 0, none⟩) cap pb np i T least held waiting first) (hi : np = i / 1024 + 1) {W1 W2 W3 : World} (b1 : Below wr.heap.size wr W1)
    (hW2 : W2 = W1.setCells (pb (i / 1024)) (i % 1024 * 5) (T i).cs) (hW3 : W3 = W2.setCell ⟨g, i / 1024, none⟩ (.slice (some ⟨pb (i / 1024), 0, none⟩) (i % 1024 + 1) 1024)) :
    Part w W3 (some ⟨g, 0, none⟩) cap pb np (i + 1) T least held waiting first := by
  have hp : i / 1024 < np := by omega
  have hP := h.pbr _ hp
  have hg := h.ob (k := g) rfl
  have hgp : g ≠ pb (i / 1024) := fun e => hP.2.2 (by rw [e])
  have hsz := h.siz
  have o1 : ∀ k, k < wr.heap.size → W1.heap[k]? = wr.heap[k]? := b1.block
  have s1 := b1.size
  have s2 : W2.heap.size = W1.heap.size := by rw [hW2, size_setCells]
  have s3 : W3.heap.size = W1.heap.size := by rw [hW3, size_setCell, s2]
  have V1 : Within w.heap.size w.heap.size w W1 := (Within.of_below h.bel).trans ⟨b1.os, b1.tape, b1.output, b1.size, fun k hk _ => b1.block k hk⟩
  have V2 : Within w.heap.size w.heap.size w W2 := by rw [hW2]; exact Within.setCells (.inl (by omega)) _ _ _ V1
  have V3 : Within w.heap.size w.heap.size w W3 := by rw [hW3]; exact V2.setCell (.inl (by exact Nat.le_of_lt hg.1)) _
  have o2 : ∀ k, k < wr.heap.size → k ≠ pb (i / 1024) → W2.heap[k]? = wr.heap[k]? := fun k hk hn => by
    have := (Within.setCells (lo := pb (i / 1024)) (hi := pb (i / 1024) + 1) (b := pb (i / 1024)) (a := W1) (.inr ⟨Nat.le_refl _, Nat.lt_succ_self _⟩) (T i).cs (i % 1024 * 5) _ (Within.refl _ _ _)).block k (by omega) (by omega)
    rw [hW2, this, o1 k hk]
  have o3 : ∀ k, k < wr.heap.size → k ≠ pb (i / 1024) → k ≠ g → W3.heap[k]? = wr.heap[k]? := fun k hk hn hn2 => by
    rw [hW3, Below.heap_setCell _ _ _ _ hn2]; exact o2 k hk hn
  have hq := o3 w.heap.size hsz (by omega) (by omega)
  have cq : ∀ j v, wr.cell? ⟨w.heap.size, j, none⟩ = some v → W3.cell? ⟨w.heap.size, j, none⟩ = some v := fun j v hv =>
    (World.cell?_of_block (w := wr) (a := ⟨w.heap.size, j, none⟩) hq).trans hv
  refine ⟨V3.below (Nat.le_refl _) (Nat.le_refl _), by omega, cq 0 _ h.h0, cq 1 _ h.h1, cq 2 _ h.h2, cq 3 _ h.h3, cq 4 _ h.h4, cq 5 _ h.h5, there_same hq h.qth, ?_, ?_, h.inj, ?_, ?_⟩
  · have own1 : W1.ownsRow (w.heap.size + 1) 76 1 (.slice (some ⟨g, 0, none⟩) np cap) np ((List.range np).map (pgv pb i)) :=
      h.own.kept (row := none) ⟨b1.os, b1.tape, b1.output, b1.size, fun k hk _ => b1.block k hk⟩ (.inr (by intro e; cases e))
    have own2 : W2.ownsRow (w.heap.size + 1) 76 1 (.slice (some ⟨g, 0, none⟩) np cap) np ((List.range np).map (pgv pb i)) := by
      rw [hW2]; exact ownsRow_setCells_other (by intro e; injection e with e; exact hgp e) _ _ _ own1
    have := (own2.stored (i / 1024) (.slice (some ⟨pb (i / 1024), 0, none⟩) (i % 1024 + 1) 1024)).1
    have e : ((List.range np).map (pgv pb i)).set (i / 1024) (.slice (some ⟨pb (i / 1024), 0, none⟩) (i % 1024 + 1) 1024) = (List.range np).map (pgv pb (i + 1)) := by
      apply List.ext_getElem
      · simp
      · intro k hk1 hk2
        simp only [List.length_set, List.length_map, List.length_range] at hk1
        rw [List.getElem_set]
        by_cases e : i / 1024 = k
        · subst e
          simp only [if_true, List.getElem_map, List.getElem_range, pgv]
          congr 1
          omega
        · simp only [if_neg e, List.getElem_map, List.getElem_range, pgv]
          congr 1
          omega
    rw [e] at this
    rw [hW3]
    exact this
  · intro k hk
    have := h.pbr k hk
    exact ⟨this.1, by omega, this.2.2⟩
  · intro k hk
    have hk2 := h.pbr k hk
    rw [hW3, hW2]
    exact there_setCell (World.there_setCells (there_same (o1 _ hk2.2.1) (h.pth k hk)) _ _ _) _ _
  · intro j hj
    rw [hW3]
    by_cases e : j = i
    · subst e
      refine range_setCell ?_ (by exact hgp) _
      rw [hW2]
      exact World.rangeAt_setCells_same _ _ _ _ (there_sub (there_same (o1 _ hP.2.1) (h.pth _ hp)) (Nat.zero_le _) (by rw [Task.len]; omega))
    · have hk : j / 1024 < np := by omega
      have hk2 := h.pbr _ hk
      have r1 : W1.rangeAt (pb (j / 1024)) (j % 1024 * 5) (T j).cs := range_same (o1 _ hk2.2.1) (h.task j (by omega))
      refine range_setCell ?_ (by intro e2; exact hk2.2.2 (by rw [show g = pb (j / 1024) from e2])) _
      rw [hW2]
      by_cases e3 : pb (j / 1024) = pb (i / 1024)
      · have e4 := h.inj _ _ hk hp e3
        exact World.rangeAt_setCells_apart r1 _ _ _ (.inr (by rw [Task.len, Task.len]; omega))
      · exact World.rangeAt_setCells_apart r1 _ _ _ (.inl e3)

/-- The end: n is laid. -/
theorem Part.line {n : Nat} (h : Part w wr pa cap pb (pgs n) n T least held waiting first) :
    ∃ g, Line (wr.setCell ⟨w.heap.size, 1, none⟩ (.int .i64 n)) w.heap.size wr.heap.size w.heap.size pa g cap pb n T least held waiting first := by
  have hsz := h.siz
  have cq : ∀ j v, j ≠ 1 → wr.cell? ⟨w.heap.size, j, none⟩ = some v → (wr.setCell ⟨w.heap.size, 1, none⟩ (.int .i64 n)).cell? ⟨w.heap.size, j, none⟩ = some v := fun j v hj hv => by
    rw [World.cell?_setCell_other _ _ _ _ (by intro e; injection e with _ e2; omega), hv]
  have ob : ∀ k, k ≠ w.heap.size → (wr.setCell ⟨w.heap.size, 1, none⟩ (.int .i64 n)).heap[k]? = wr.heap[k]? := fun k hk => Below.heap_setCell _ _ _ _ hk
  have c1 : (wr.setCell ⟨w.heap.size, 1, none⟩ (.int .i64 n)).cell? ⟨w.heap.size, 1, none⟩ = some (.int .i64 n) := World.cell?_setCell_same _ _ _ h.h1
  have top : wr.heap.size ≤ (wr.setCell ⟨w.heap.size, 1, none⟩ (.int .i64 n)).heap.size := by rw [size_setCell]; exact Nat.le_refl _
  have pth : ∀ k, k < pgs n → (wr.setCell ⟨w.heap.size, 1, none⟩ (.int .i64 n)).there (pb k) 0 5120 := fun k hk => there_setCell (h.pth k hk) _ _
  have task : ∀ j, j < n → (wr.setCell ⟨w.heap.size, 1, none⟩ (.int .i64 n)).rangeAt (pb (j / 1024)) (j % 1024 * 5) (T j).cs := fun j hj => by
    have := h.pbr _ (pgs_lt hj)
    exact range_setCell (h.task j hj) (by show w.heap.size ≠ _; omega) _
  rcases h.own.2 with ⟨he, h0⟩ | ⟨g, c, cur, he, hb, hg, hn, _⟩
  · have h00 : n = 0 := by unfold pgs at h0; omega
    injection he with e1 _ e3
    refine ⟨0, ⟨⟨Nat.le_refl _, hsz⟩, top, cq 0 _ (by decide) h.h0, c1, cq 2 _ (by decide) h.h2, cq 3 _ (by decide) h.h3, cq 4 _ (by decide) h.h4, cq 5 _ (by decide) h.h5, there_setCell h.qth _ _, .inl ⟨h00, e1, e3⟩, by omega, ?_, ?_, ?_, h.inj, pth, task⟩⟩
    · intro j hj; omega
    · intro k hk; omega
    · intro k hk; omega
  · injection he with e1 _ e3
    subst e1 e3
    have hgl : g < wr.heap.size := (Array.getElem?_eq_some_iff.1 hg).1
    have cg : ∀ k, k < pgs n → wr.cell? ⟨g, k, none⟩ = some (pgv pb n k) := fun k hk => by
      rw [h.own.cellAt k (by omega)]
      simp [hk]
    refine ⟨g, ⟨⟨Nat.le_refl _, hsz⟩, top, cq 0 _ (by decide) h.h0, c1, cq 2 _ (by decide) h.h2, cq 3 _ (by decide) h.h3, cq 4 _ (by decide) h.h4, cq 5 _ (by decide) h.h5, there_setCell h.qth _ _, .inr ⟨rfl, by omega, hgl, by omega⟩, hn, ?_, ?_, ?_, h.inj, pth, task⟩⟩
    · refine there_setCell ?_ _ _
      intro k hk
      rw [Nat.zero_add]
      exact ⟨by rw [cg k hk]; rfl, h.own.frozenAt k⟩
    · intro k hk
      rw [World.cell?_of_block (w := wr) (a := ⟨g, k, none⟩) (ob g (by omega)), cg k hk]
      rfl
    · intro k hk
      have := h.pbr k hk
      exact ⟨by omega, this.2.1, by omega, fun e => this.2.2 (by rw [e])⟩

/-- The beginning. -/
theorem Part.start (w : World) (pb : Nat → Nat) (T : Nat → Task) (least : Value) (held waiting first : Int) :
    Part w (w.alloc (.cells #[.slice none 0 0, .int .i64 0, least, .int .i64 held, .int .i64 waiting, .int .i64 first] 75)) none 0 pb 0 0 T least held waiting first := by
  have hn : (w.alloc (.cells #[.slice none 0 0, .int .i64 0, least, .int .i64 held, .int .i64 waiting, .int .i64 first] 75)).heap[w.heap.size]? = some (.cells #[.slice none 0 0, .int .i64 0, least, .int .i64 held, .int .i64 waiting, .int .i64 first] 75) := heap_new _ _
  exact ⟨(Below.refl _ _).alloc (Nat.le_refl _) _, by simp, by rw [cell_of_row _ _ _ _ _ _ hn]; rfl, by rw [cell_of_row _ _ _ _ _ _ hn]; rfl, by rw [cell_of_row _ _ _ _ _ _ hn]; rfl, by rw [cell_of_row _ _ _ _ _ _ hn]; rfl, by rw [cell_of_row _ _ _ _ _ _ hn]; rfl, by rw [cell_of_row _ _ _ _ _ _ hn]; rfl,
    there_block hn 0 6 (by simp), World.ownsRow_nil _ _ _ _, fun k hk => absurd hk (Nat.not_lt_zero _), fun j k hj => absurd hj (Nat.not_lt_zero _), fun k hk => absurd hk (Nat.not_lt_zero _), fun j hj => absurd hj (Nat.not_lt_zero _)⟩

end
end Go.Proofs.Qxb6609061a.Line
