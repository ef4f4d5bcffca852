/-
  The view of a waitLine in the making: the local struct's fields that grow by append.
-/
import Derived.Test.Qxb6609061aMake
namespace Go.Proofs.Qxb6609061a.Line
open Go.RowKit

/-- The type of a field's elements. -/
def et (f : Nat) : TypeId := if f = 0 ∨ f = 6 then 3 else if f = 5 then 37 else 2

/-- The fields that grow. -/
def grows (f : Nat) : Prop := f < 7

/-- The struct lies at block w.heap.size + 1; field f holds vs f, a slice that owns the first lv f of the numbers fld f. -/
structure Vw (w wr : World) (fld : Nat → Nat → Value) (vs : Nat → Value) (lv : Nat → Nat) : Prop where
  bel : Below w.heap.size w wr
  siz : w.heap.size + 2 ≤ wr.heap.size
  cell : ∀ f, grows f → wr.cell? ⟨w.heap.size + 1, f, none⟩ = some (vs f)
  th : wr.there (w.heap.size + 1) 0 11
  res : wr.there w.heap.size 0 11
  own : ∀ f, grows f → wr.ownsRow (w.heap.size + 2) (et f) 1 (vs f) (lv f) ((List.range (lv f)).map (fld f))
  apart : ∀ f f' k, grows f → grows f' → f ≠ f' → (vs f).ownBlock = some k → (vs f').ownBlock ≠ some k

def upd {α : Type} (g : Nat → α) (f : Nat) (a : α) : Nat → α := fun k => if k = f then a else g k
theorem upd_same {α : Type} (g : Nat → α) (f : Nat) (a : α) : upd g f a f = a := by simp [upd]
theorem upd_other {α : Type} (g : Nat → α) (f : Nat) (a : α) {k : Nat} (h : k ≠ f) : upd g f a k = g k := by simp [upd, h]

section
variable {w wr : World} {fld : Nat → Nat → Value} {vs : Nat → Value} {lv : Nat → Nat}

theorem Vw.drew (h : Vw w wr fld vs lv) : Vw w wr.drew fld vs lv := ⟨h.bel.drew, h.siz, h.cell, h.th, h.res, fun f hf => (h.own f hf).drew, h.apart⟩

theorem Vw.kept (h : Vw w wr fld vs lv) {V1 : World} (hV1 : Below wr.heap.size wr V1) {f : Nat} (hf : grows f) : V1.ownsRow (w.heap.size + 2) (et f) 1 (vs f) (lv f) ((List.range (lv f)).map (fld f)) :=
  (h.own f hf).kept (row := none) ⟨hV1.os, hV1.tape, hV1.output, hV1.size, fun k hk _ => hV1.block k hk⟩ (by
    cases e3 : (vs f).ownBlock with
    | none => exact .inl rfl
    | some b => exact .inr (by intro e; cases e))

theorem Vw.step (h : Vw w wr fld vs lv) (f : Nat) (hf : grows f) (m : Nat) {V1 V2 : World} (hV1 : Below wr.heap.size wr V1) {g cap : Nat}
    (own' : V2.ownsRow (w.heap.size + 2) (et f) 1 (.slice (some ⟨g, 0, none⟩) (lv f + m) cap) (lv f + m) ((List.range (lv f + m)).map (fld f)))
    (gr : V1.grownBy V2 (vs f).ownBlock) (hat : (vs f).ownBlock = some g ∨ g = V1.heap.size) :
    Vw w (V2.setCell ⟨w.heap.size + 1, f, none⟩ (.slice (some ⟨g, 0, none⟩) (lv f + m) cap)) fld (upd vs f (.slice (some ⟨g, 0, none⟩) (lv f + m) cap)) (upd lv f (lv f + m)) := by
  have hsz := h.siz
  have s1 : wr.heap.size ≤ V1.heap.size := hV1.size
  have s2 := gr.size
  have row : ∀ k, (vs f).ownBlock = some k → w.heap.size + 2 ≤ k ∧ k < wr.heap.size := fun k hk => (h.own f hf).lt k hk
  have o1 : ∀ k, k < wr.heap.size → V1.heap[k]? = wr.heap[k]? := hV1.block
  have o2 : ∀ k, k < wr.heap.size → (vs f).ownBlock ≠ some k → V2.heap[k]? = wr.heap[k]? := fun k hk hn => (gr.block k (by omega) (fun e => hn e.symm)).trans (o1 k hk)
  have q2 : V2.heap[w.heap.size + 1]? = wr.heap[w.heap.size + 1]? := o2 _ (by omega) (fun e => by have := (row _ e).1; omega)
  have r2 : V2.heap[w.heap.size]? = wr.heap[w.heap.size]? := o2 _ (by omega) (fun e => by have := (row _ e).1; omega)
  have hg : w.heap.size + 2 ≤ g := by
    rcases hat with e | e
    · exact (row g e).1
    · omega
  refine ⟨?_, by rw [size_setCell]; omega, ?_, there_setCell (there_same q2 h.th) _ _, there_setCell (there_same r2 h.res) _ _, ?_, ?_⟩
  · refine Below.setCell (h.bel.trans ?_) (Nat.le_succ _) _
    exact ⟨gr.os.trans hV1.os, gr.tape.trans hV1.tape, gr.output.trans hV1.output, by omega, fun k hk => o2 k (by omega) (fun e => by have := (row _ e).1; omega)⟩
  · intro k hk
    by_cases e : k = f
    · subst e
      rw [upd_same]
      exact World.cell?_setCell_same _ _ _ ((World.cell?_of_block (w := wr) (a := ⟨w.heap.size + 1, k, none⟩) q2).trans (h.cell k hk))
    · rw [upd_other _ _ _ e, World.cell?_setCell_other _ _ _ _ (by intro e2; injection e2 with _ e3; exact e e3.symm)]
      exact (World.cell?_of_block (w := wr) (a := ⟨w.heap.size + 1, k, none⟩) q2).trans (h.cell k hk)
  · intro k hk
    by_cases e : k = f
    · subst e
      rw [upd_same, upd_same]
      refine ownsRow_setCell_other ?_ (by intro e2; injection e2 with e2; simp at e2; omega) _
      exact own'
    · rw [upd_other _ _ _ e, upd_other _ _ _ e]
      refine ownsRow_setCell_other ?_ (by intro e2; have := ((h.own k hk).lt _ e2).1; simp at this) _
      refine World.ownsRow.kept ?_ gr ?_
      · exact h.kept hV1 hk
      · cases e3 : (vs k).ownBlock with
        | none => exact .inl rfl
        | some b => exact .inr (fun e4 => h.apart k f b hk hf e e3 e4.symm)
  · intro k k' b hk hk' hne hb hb'
    by_cases e : k = f
    · subst e
      rw [upd_same] at hb
      rw [upd_other _ _ _ (Ne.symm hne)] at hb'
      injection hb with hb
      simp at hb
      subst hb
      rcases hat with e2 | e2
      · exact h.apart k k' _ hk hk' hne e2 hb'
      · have := ((h.own k' hk').lt _ hb').2; omega
    · rw [upd_other _ _ _ e] at hb
      by_cases e2 : k' = f
      · subst e2
        rw [upd_same] at hb'
        injection hb' with hb'
        simp at hb'
        subst hb'
        rcases hat with e3 | e3
        · exact h.apart k k' _ hk hk' hne hb e3
        · have := ((h.own k hk).lt _ hb).2; omega
      · rw [upd_other _ _ _ e2] at hb'
        exact h.apart k k' b hk hk' hne hb hb'

/-- Another cell of the struct is written. -/
theorem Vw.put (h : Vw w wr fld vs lv) (f : Nat) (hf : ¬ grows f) (v : Value) : Vw w (wr.setCell ⟨w.heap.size + 1, f, none⟩ v) fld vs lv := by
  refine ⟨h.bel.setCell (Nat.le_succ _) _, by rw [size_setCell]; exact h.siz, ?_, there_setCell h.th _ _, there_setCell h.res _ _, ?_, h.apart⟩
  · intro k hk
    rw [World.cell?_setCell_other _ _ _ _ (by intro e2; injection e2 with _ e3; subst e3; exact hf hk)]
    exact h.cell k hk
  · intro k hk
    exact ownsRow_setCell_other (h.own k hk) (by intro e2; have := ((h.own k hk).lt _ e2).1; simp at this) _

/-- New blocks. -/
theorem Vw.more (h : Vw w wr fld vs lv) {w' : World} (hb : Below wr.heap.size wr w') : Vw w w' fld vs lv := by
  have hsz := h.siz
  have q2 := hb.block (w.heap.size + 1) (by omega)
  have r2 := hb.block w.heap.size (by omega)
  refine ⟨h.bel.trans (hb.mono (by omega)), by have := hb.size; omega, fun f hf => (World.cell?_of_block (w := wr) (a := ⟨w.heap.size + 1, f, none⟩) q2).trans (h.cell f hf), there_same q2 h.th, there_same r2 h.res, ?_, h.apart⟩
  intro f hf
  exact (h.own f hf).kept (row := none) ⟨hb.os, hb.tape, hb.output, hb.size, fun k hk _ => hb.block k hk⟩ (by
    cases e3 : (vs f).ownBlock with
    | none => exact .inl rfl
    | some b => exact .inr (by intro e; cases e))

theorem info_et (f : Nat) : ∃ i z, Try.prog.info? (et f) = some i ∧ i.zero = some z ∧ i.size = 1 ∧ i.bytes = 8 ∧ z.cells.size = 1 := by
  unfold et
  split
  · obtain ⟨i, h1, h2, h3, h4⟩ := info_parts (show (Try.prog.info? 3).map (fun i => (i.zero, i.size, i.bytes)) = some (some (.int .i64 0), 1, 8) by kernel_rfl)
    exact ⟨i, _, h1, h2, h3, h4, rfl⟩
  · split
    · obtain ⟨i, h1, h2, h3, h4⟩ := info_parts (show (Try.prog.info? 37).map (fun i => (i.zero, i.size, i.bytes)) = some (some (.int .u64 0), 1, 8) by kernel_rfl)
      exact ⟨i, _, h1, h2, h3, h4, rfl⟩
    · obtain ⟨i, h1, h2, h3, h4⟩ := info_parts (show (Try.prog.info? 2).map (fun i => (i.zero, i.size, i.bytes)) = some (some (.int .i64 0), 1, 8) by kernel_rfl)
      exact ⟨i, _, h1, h2, h3, h4, rfl⟩

/-- m more numbers, that lie at block b. -/
theorem Vw.append (h : Vw w wr fld vs lv) (f : Nat) (hf : grows f) (t : TypeId) (ht : Try.prog.underlying t = some (.slice (et f))) (m c b : Nat) (hm : 0 < m) (hl : lv f + m ≤ 1000000) {V1 : World} (hV1 : Below wr.heap.size wr V1)
    (hc : ∀ j, j < m → V1.cell? ⟨b, j, none⟩ = some (fld f (lv f + j))) (h1 : ∀ j, (fld f j).oneCell' = true) :
    ∃ (g' c' : Nat) (V2 : World), (Builtin.append_ #[t, t] t #[vs f, .slice (some ⟨b, 0, none⟩) m c]).run Try.prog V1 = .ok (.slice (some ⟨g', 0, none⟩) (lv f + m) c') V2 ∧ (∀ j, j ≠ f → V2.cell? ⟨w.heap.size + 1, j, none⟩ = wr.cell? ⟨w.heap.size + 1, j, none⟩) ∧ V2.cell? ⟨w.heap.size + 1, f, none⟩ = some (vs f) ∧ V2.frozen? ⟨w.heap.size + 1, f, none⟩ = false ∧
      (∀ k, k < w.heap.size → V2.heap[k]? = w.heap[k]?) ∧ Vw w (V2.setCell ⟨w.heap.size + 1, f, none⟩ (.slice (some ⟨g', 0, none⟩) (lv f + m) c')) fld (upd vs f (.slice (some ⟨g', 0, none⟩) (lv f + m) c')) (upd lv f (lv f + m)) := by
  obtain ⟨i0, z, hi, hz, hs, hb, hzs⟩ := info_et f
  have hsz := h.siz
  have s1 := hV1.size
  have own1 := h.kept hV1 hf
  obtain ⟨g, cap, V2, hr, own2, gr, hat, hg⟩ := run_append_lies (P := Try.prog) V1 t t (w.heap.size + 2) (et f) i0 z 1 8 ht hi hz hs hb hzs (by decide) (vs f) (lv f) _ own1 ⟨b, 0, none⟩ m c ((List.range m).map fun j => fld f (lv f + j)) (by simp)
    (by
      intro j u hj
      have hj2 : j < m := by
        have := (List.getElem?_eq_some_iff.1 hj).1
        simpa using this
      have e : (⟨b, 0, none⟩ : Addr).add j = ⟨b, j, none⟩ := by
        simp only [Addr.add, Nat.zero_add]
        split
        · rename_i h; rw [h]
        · rfl
      rw [e, hc j hj2]
      simpa [hj2] using hj)
    (by
      intro u hu
      obtain ⟨j, _, rfl⟩ := List.mem_map.1 hu
      exact h1 _) hm (by unfold maxLen; omega) (by omega) (by omega) _ rfl
  have row : ∀ k, (vs f).ownBlock = some k → w.heap.size + 2 ≤ k ∧ k < wr.heap.size := fun k hk => (h.own f hf).lt k hk
  have o2 : ∀ k, k < w.heap.size + 2 → V2.heap[k]? = wr.heap[k]? := fun k hk => by
    rw [gr.block k (by omega) (fun e => by have := (row _ e.symm).1; omega), hV1.block k (by omega)]
  have q2 := o2 (w.heap.size + 1) (by omega)
  have own3 : V2.ownsRow (w.heap.size + 2) (et f) 1 (.slice (some ⟨g, 0, none⟩) (lv f + m) cap) (lv f + m) ((List.range (lv f + m)).map (fld f)) := by
    have e : (List.range (lv f + m)).map (fld f) = (List.range (lv f)).map (fld f) ++ (List.range m).map fun j => fld f (lv f + j) := by
      rw [List.range_add, List.map_append, List.map_map]; rfl
    rw [e]; exact own2
  refine ⟨g, cap, V2, hr, fun j _ => World.cell?_of_block (w := wr) (a := ⟨w.heap.size + 1, j, none⟩) q2, (World.cell?_of_block (w := wr) (a := ⟨w.heap.size + 1, f, none⟩) q2).trans (h.cell f hf), ?_, fun k hk => (o2 k (by omega)).trans (h.bel.block k hk), h.step f hf m hV1 own3 gr hat⟩
  exact there_frozen (there_same q2 h.th) (Nat.zero_le _) (by unfold grows at hf; omega)

/-- The beginning. -/
theorem Vw.start (w : World) (fld : Nat → Nat → Value) : Vw w ((w.alloc (.cells #[.slice none 0 0, .slice none 0 0, .slice none 0 0, .slice none 0 0, .slice none 0 0, .slice none 0 0, .slice none 0 0, .int .i64 0, .int .i64 0, .int .i64 0, .int .i64 0] 33)).alloc (.cells #[.slice none 0 0, .slice none 0 0, .slice none 0 0, .slice none 0 0, .slice none 0 0, .slice none 0 0, .slice none 0 0, .int .i64 0, .int .i64 0, .int .i64 0, .int .i64 0] 33)) fld (fun _ => .slice none 0 0) (fun _ => 0) := by
  generalize hZ : (#[.slice none 0 0, .slice none 0 0, .slice none 0 0, .slice none 0 0, .slice none 0 0, .slice none 0 0, .slice none 0 0, .int .i64 0, .int .i64 0, .int .i64 0, .int .i64 0] : Array Value) = Z
  have hZs : Z.size = 11 := by rw [← hZ]; rfl
  have h2 : ((w.alloc (.cells Z 33)).alloc (.cells Z 33)).heap[w.heap.size + 1]? = some (.cells Z 33) := by
    have := heap_new (w.alloc (.cells Z 33)) (.cells Z 33)
    simpa using this
  have h1 : ((w.alloc (.cells Z 33)).alloc (.cells Z 33)).heap[w.heap.size]? = some (.cells Z 33) := by
    rw [heap_alloc_old _ _ (by simp), heap_new]
  refine ⟨((Below.refl _ _).alloc (Nat.le_refl _) _).alloc (by simp) _, by simp, ?_, there_block h2 0 11 (by omega), there_block h1 0 11 (by omega), fun f _ => World.ownsRow_nil _ _ _ _, fun _ _ _ _ _ _ e => by cases e⟩
  intro f hf
  rw [cell_of_row _ _ _ _ _ _ h2, ← hZ]
  unfold grows at hf
  match f, hf with
  | 0, _ => rfl
  | 1, _ => rfl
  | 2, _ => rfl
  | 3, _ => rfl
  | 4, _ => rfl
  | 5, _ => rfl
  | 6, _ => rfl

end
end Go.Proofs.Qxb6609061a.Line
