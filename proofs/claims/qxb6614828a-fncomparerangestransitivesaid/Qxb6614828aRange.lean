/-
  compareRanges and ZZcompareRanges.
-/
import Derived.Test.Qxb6614828aCmp
import Derived.Test.Qxb6614828aLast
import Derived.BigRegion
import Derived.Great.BuildSlice
namespace Go.Proofs.Qxb6614828a.Cmp
open Go.RowKit

theorem info3 : (Try.prog.info? 3).map (fun i => (i.zero, i.size, i.bytes)) = some (some (.int .i64 0), 1, 8) := by kernel_rfl

theorem wp_call {P : Program} {o : Oper} {a : Act} {w : World} {K : Act → World → Prop} {Q : Exit → Act → World → Prop} {f : FuncId} {args : Array Value} {v : Value}
    (he : (execOp a.eval o).run P w = .ok (.enter f args) w) (h : Calls P f args w fun e w' => e = .returned v ∧ w' = w) (hk : K (a.put o.dst v) w) : o.wp P a w K Q := by
  unfold Oper.wp
  rw [he]
  exact h.mono (by rintro _ _ ⟨rfl, rfl⟩; exact hk)

theorem wp_value {P : Program} {o : Oper} {a : Act} {w w' : World} {K : Act → World → Prop} {Q : Exit → Act → World → Prop} {v : Value}
    (he : (execOp a.eval o).run P w = .ok (.value v) w') (hk : K (a.put o.dst v) w') : o.wp P a w K Q := by
  unfold Oper.wp
  rw [he]
  exact hk

set_option maxHeartbeats 1600000 in
set_option maxRecDepth 100000 in
set_option linter.unusedSimpArgs false in
theorem cr_any (ha na ma : ByteArray) (ta : Int) (ra : Nat) (hb nb mb : ByteArray) (tb : Int) (rb : Nat) (sa sb : Int) (w : World)
    (h1 : w.cell? ⟨ra, 0, none⟩ = some (.int .i64 sa)) (h2 : w.cell? ⟨rb, 0, none⟩ = some (.int .i64 sb)) :
    Calls Try.prog 23 #[.agg #[.string ha, .string na, .string ma, .int .u64 ta, .pointer (some ⟨ra, 0, none⟩)], .agg #[.string hb, .string nb, .string mb, .int .u64 tb, .pointer (some ⟨rb, 0, none⟩)]] w fun e w' =>
      e = .returned (.int .i64 (or3 (cmpInt sa sb) (Lib.compareBytes na.data.toList nb.data.toList) (cmpInt ta tb))) ∧ Below w.heap.size w w' := by
  obtain ⟨X, hX⟩ : ∃ X, X = cmpInt sa sb := ⟨_, rfl⟩
  obtain ⟨Y, hY⟩ : ∃ X, X = Lib.compareBytes na.data.toList nb.data.toList := ⟨_, rfl⟩
  obtain ⟨Z, hZ⟩ : ∃ X, X = cmpInt ta tb := ⟨_, rfl⟩
  have cX : ∀ w, Calls Try.prog 28 #[.int .i64 sa, .int .i64 sb] w fun e w' => e = .returned (.int .i64 X) ∧ w' = w := by rw [hX]; exact compare_any sa sb
  have cY : ∀ w, Calls Try.prog 29 #[.string na, .string nb] w fun e w' => e = .returned (.int .i64 Y) ∧ w' = w := by rw [hY]; exact strcmp_any na nb
  have cZ : ∀ w, Calls Try.prog 30 #[.int .u64 ta, .int .u64 tb] w fun e w' => e = .returned (.int .i64 Z) ∧ w' = w := by rw [hZ]; exact compareu_any ta tb
  rw [← hX, ← hY, ← hZ]
  clear hX hY hZ
  have hra := block_lt_of_cell h1
  have hrb := block_lt_of_cell h2
  go_enter Try.func23, Try.ntmps23
  go_wp2_with fail
  have bel : Below w.heap.size w ((w.alloc (.cells #[.string ha, .string na, .string ma, .int .u64 ta, .pointer (some ⟨ra, 0, none⟩)] 29)).alloc (.cells #[.string hb, .string nb, .string mb, .int .u64 tb, .pointer (some ⟨rb, 0, none⟩)] 29)) := ((Below.refl _ _).alloc (by simp) _).alloc (by simp) _
  have k0 : ((w.alloc (.cells #[.string ha, .string na, .string ma, .int .u64 ta, .pointer (some ⟨ra, 0, none⟩)] 29)).alloc (.cells #[.string hb, .string nb, .string mb, .int .u64 tb, .pointer (some ⟨rb, 0, none⟩)] 29)).heap.size = w.heap.size + 2 := by simp
  have hS0 : ∀ W : World, W = ((w.alloc (.cells #[.string ha, .string na, .string ma, .int .u64 ta, .pointer (some ⟨ra, 0, none⟩)] 29)).alloc (.cells #[.string hb, .string nb, .string mb, .int .u64 tb, .pointer (some ⟨rb, 0, none⟩)] 29)) →
      W.cell? ⟨w.heap.size, 1, none⟩ = some (.string na) ∧ W.cell? ⟨w.heap.size, 3, none⟩ = some (.int .u64 ta) ∧ W.cell? ⟨w.heap.size, 4, none⟩ = some (.pointer (some ⟨ra, 0, none⟩)) ∧
      W.cell? ⟨w.heap.size + 1, 1, none⟩ = some (.string nb) ∧ W.cell? ⟨w.heap.size + 1, 3, none⟩ = some (.int .u64 tb) ∧ W.cell? ⟨w.heap.size + 1, 4, none⟩ = some (.pointer (some ⟨rb, 0, none⟩)) ∧
      W.cell? ⟨ra, 0, none⟩ = some (.int .i64 sa) ∧ W.cell? ⟨rb, 0, none⟩ = some (.int .i64 sb) := by
    rintro W rfl
    refine ⟨by go_simp, by go_simp, by go_simp, by go_simp, by go_simp, by go_simp, ?_, ?_⟩
    · rw [bel.cell hra]; exact h1
    · rw [bel.cell hrb]; exact h2
  generalize hW : ((w.alloc _).alloc _) = W at bel k0
  have hSW := hS0 W hW.symm
  clear hS0 hW
  generalize hH : w.heap.size = H at *
  refine Last.wp_region_last 23 (fun W => W.cell? ⟨H, 1, none⟩ = some (.string na) ∧ W.cell? ⟨H, 3, none⟩ = some (.int .u64 ta) ∧ W.cell? ⟨H, 4, none⟩ = some (.pointer (some ⟨ra, 0, none⟩)) ∧
      W.cell? ⟨H + 1, 1, none⟩ = some (.string nb) ∧ W.cell? ⟨H + 1, 3, none⟩ = some (.int .u64 tb) ∧ W.cell? ⟨H + 1, 4, none⟩ = some (.pointer (some ⟨rb, 0, none⟩)) ∧
      W.cell? ⟨ra, 0, none⟩ = some (.int .i64 sa) ∧ W.cell? ⟨rb, 0, none⟩ = some (.int .i64 sb)) (by kernel_rfl) (by simpa using hSW) (fun hS => ?_)
  refine Last.wpL_take (v := ?_) 0 rfl (by kernel_rfl) (by kernel_rfl) (by kernel_rfl) (by kernel_rfl) (fun _ _ _ h => h) (Or.inl ⟨by rfl, fun w' hSw => ?_⟩) hS ?_
  rotate_left 1
  · obtain ⟨c1, c2, c3, c4, c5, c6, c7, c8⟩ := hSw; go_simp; try with_reducible rfl
  simp only [Act.put, List.getElem_toArray, List.getElem_cons_zero, List.getElem_cons_succ, List.setIfInBounds_toArray, List.set_cons_zero, List.set_cons_succ]
  refine Last.wpL_take (v := ?_) 1 rfl (by kernel_rfl) (by kernel_rfl) (by kernel_rfl) (by kernel_rfl) (fun _ _ _ h => h) (Or.inl ⟨by rfl, fun w' hSw => ?_⟩) hS ?_
  rotate_left 1
  · obtain ⟨c1, c2, c3, c4, c5, c6, c7, c8⟩ := hSw; go_simp; try with_reducible rfl
  simp only [Act.put, List.getElem_toArray, List.getElem_cons_zero, List.getElem_cons_succ, List.setIfInBounds_toArray, List.set_cons_zero, List.set_cons_succ]
  refine Last.wpL_take (v := ?_) 2 rfl (by kernel_rfl) (by kernel_rfl) (by kernel_rfl) (by kernel_rfl) (fun _ _ _ h => h) (Or.inl ⟨by rfl, fun w' hSw => ?_⟩) hS ?_
  rotate_left 1
  · obtain ⟨c1, c2, c3, c4, c5, c6, c7, c8⟩ := hSw; go_simp; try with_reducible rfl
  simp only [Act.put, List.getElem_toArray, List.getElem_cons_zero, List.getElem_cons_succ, List.setIfInBounds_toArray, List.set_cons_zero, List.set_cons_succ]
  refine Last.wpL_take (v := ?_) 3 rfl (by kernel_rfl) (by kernel_rfl) (by kernel_rfl) (by kernel_rfl) (fun _ _ _ h => h) (Or.inl ⟨by rfl, fun w' hSw => ?_⟩) hS ?_
  rotate_left 1
  · obtain ⟨c1, c2, c3, c4, c5, c6, c7, c8⟩ := hSw; go_simp; try with_reducible rfl
  simp only [Act.put, List.getElem_toArray, List.getElem_cons_zero, List.getElem_cons_succ, List.setIfInBounds_toArray, List.set_cons_zero, List.set_cons_succ]
  refine Last.wpL_take (v := ?_) 4 rfl (by kernel_rfl) (by kernel_rfl) (by kernel_rfl) (by kernel_rfl) (fun _ _ _ h => h) (Or.inl ⟨by rfl, fun w' hSw => ?_⟩) hS ?_
  rotate_left 1
  · obtain ⟨c1, c2, c3, c4, c5, c6, c7, c8⟩ := hSw; go_simp; try with_reducible rfl
  simp only [Act.put, List.getElem_toArray, List.getElem_cons_zero, List.getElem_cons_succ, List.setIfInBounds_toArray, List.set_cons_zero, List.set_cons_succ]
  refine Last.wpL_take (v := ?_) 5 rfl (by kernel_rfl) (by kernel_rfl) (by kernel_rfl) (by kernel_rfl) (fun _ _ _ h => h) (Or.inl ⟨by rfl, fun w' hSw => ?_⟩) hS ?_
  rotate_left 1
  · obtain ⟨c1, c2, c3, c4, c5, c6, c7, c8⟩ := hSw; go_simp; try with_reducible rfl
  simp only [Act.put, List.getElem_toArray, List.getElem_cons_zero, List.getElem_cons_succ, List.setIfInBounds_toArray, List.set_cons_zero, List.set_cons_succ]
  refine Last.wpL_take (v := ?_) 6 rfl (by kernel_rfl) (by kernel_rfl) (by kernel_rfl) (by kernel_rfl) (fun _ _ _ h => h) (Or.inl ⟨by rfl, fun w' hSw => ?_⟩) hS ?_
  rotate_left 1
  · obtain ⟨c1, c2, c3, c4, c5, c6, c7, c8⟩ := hSw; go_simp; try with_reducible rfl
  simp only [Act.put, List.getElem_toArray, List.getElem_cons_zero, List.getElem_cons_succ, List.setIfInBounds_toArray, List.set_cons_zero, List.set_cons_succ]
  refine Last.wpL_take (v := ?_) 7 rfl (by kernel_rfl) (by kernel_rfl) (by kernel_rfl) (by kernel_rfl) (fun _ _ _ h => h) (Or.inl ⟨by rfl, fun w' hSw => ?_⟩) hS ?_
  rotate_left 1
  · obtain ⟨c1, c2, c3, c4, c5, c6, c7, c8⟩ := hSw; go_simp; try with_reducible rfl
  simp only [Act.put, List.getElem_toArray, List.getElem_cons_zero, List.getElem_cons_succ, List.setIfInBounds_toArray, List.set_cons_zero, List.set_cons_succ]
  refine Last.wpL_take (v := ?_) 8 rfl (by kernel_rfl) (by kernel_rfl) (by kernel_rfl) (by kernel_rfl) (fun _ _ _ h => h) (Or.inl ⟨by rfl, fun w' hSw => ?_⟩) hS ?_
  rotate_left 1
  · obtain ⟨c1, c2, c3, c4, c5, c6, c7, c8⟩ := hSw; go_simp; try with_reducible rfl
  simp only [Act.put, List.getElem_toArray, List.getElem_cons_zero, List.getElem_cons_succ, List.setIfInBounds_toArray, List.set_cons_zero, List.set_cons_succ]
  refine Last.wpL_take (v := ?_) 9 rfl (by kernel_rfl) (by kernel_rfl) (by kernel_rfl) (by kernel_rfl) (fun _ _ _ h => h) (Or.inl ⟨by rfl, fun w' hSw => ?_⟩) hS ?_
  rotate_left 1
  · obtain ⟨c1, c2, c3, c4, c5, c6, c7, c8⟩ := hSw; go_simp; try with_reducible rfl
  simp only [Act.put, List.getElem_toArray, List.getElem_cons_zero, List.getElem_cons_succ, List.setIfInBounds_toArray, List.set_cons_zero, List.set_cons_succ]
  refine Last.wpL_take (v := ?_) 11 rfl (by kernel_rfl) (by kernel_rfl) (by kernel_rfl) (by kernel_rfl) (fun _ _ _ h => h) (Or.inl ⟨by rfl, fun w' hSw => ?_⟩) hS ?_
  rotate_left 1
  · obtain ⟨c1, c2, c3, c4, c5, c6, c7, c8⟩ := hSw; go_simp; try with_reducible rfl
  simp only [Act.put, List.getElem_toArray, List.getElem_cons_zero, List.getElem_cons_succ, List.setIfInBounds_toArray, List.set_cons_zero, List.set_cons_succ]
  refine Last.wpL_take (v := ?_) 12 rfl (by kernel_rfl) (by kernel_rfl) (by kernel_rfl) (by kernel_rfl) (fun _ _ _ h => h) (Or.inl ⟨by rfl, fun w' hSw => ?_⟩) hS ?_
  rotate_left 1
  · obtain ⟨c1, c2, c3, c4, c5, c6, c7, c8⟩ := hSw; go_simp; try with_reducible rfl
  simp only [Act.put, List.getElem_toArray, List.getElem_cons_zero, List.getElem_cons_succ, List.setIfInBounds_toArray, List.set_cons_zero, List.set_cons_succ]
  refine Last.wpL_take (v := ?_) 13 rfl (by kernel_rfl) (by kernel_rfl) (by kernel_rfl) (by kernel_rfl) (fun _ _ _ h => h) (Or.inl ⟨by rfl, fun w' hSw => ?_⟩) hS ?_
  rotate_left 1
  · obtain ⟨c1, c2, c3, c4, c5, c6, c7, c8⟩ := hSw; go_simp; try with_reducible rfl
  simp only [Act.put, List.getElem_toArray, List.getElem_cons_zero, List.getElem_cons_succ, List.setIfInBounds_toArray, List.set_cons_zero, List.set_cons_succ]
  refine Last.wpL_take (v := ?_) 14 rfl (by kernel_rfl) (by kernel_rfl) (by kernel_rfl) (by kernel_rfl) (fun _ _ _ h => h) (Or.inl ⟨by rfl, fun w' hSw => ?_⟩) hS ?_
  rotate_left 1
  · obtain ⟨c1, c2, c3, c4, c5, c6, c7, c8⟩ := hSw; go_simp; try with_reducible rfl
  simp only [Act.put, List.getElem_toArray, List.getElem_cons_zero, List.getElem_cons_succ, List.setIfInBounds_toArray, List.set_cons_zero, List.set_cons_succ]
  refine Last.wpL_take (v := ?_) 16 rfl (by kernel_rfl) (by kernel_rfl) (by kernel_rfl) (by kernel_rfl) (fun _ _ _ h => h) (Or.inl ⟨by rfl, fun w' hSw => ?_⟩) hS ?_
  rotate_left 1
  · obtain ⟨c1, c2, c3, c4, c5, c6, c7, c8⟩ := hSw; go_simp; try with_reducible rfl
  simp only [Act.put, List.getElem_toArray, List.getElem_cons_zero, List.getElem_cons_succ, List.setIfInBounds_toArray, List.set_cons_zero, List.set_cons_succ]
  refine Last.wpL_take (v := ?_) 17 rfl (by kernel_rfl) (by kernel_rfl) (by kernel_rfl) (by kernel_rfl) (fun _ _ _ h => h) (Or.inl ⟨by rfl, fun w' hSw => ?_⟩) hS ?_
  rotate_left 1
  · obtain ⟨c1, c2, c3, c4, c5, c6, c7, c8⟩ := hSw; go_simp; try with_reducible rfl
  simp only [Act.put, List.getElem_toArray, List.getElem_cons_zero, List.getElem_cons_succ, List.setIfInBounds_toArray, List.set_cons_zero, List.set_cons_succ]
  refine Last.wpL_take (v := ?_) 18 rfl (by kernel_rfl) (by kernel_rfl) (by kernel_rfl) (by kernel_rfl) (fun _ _ _ h => h) (Or.inl ⟨by rfl, fun w' hSw => ?_⟩) hS ?_
  rotate_left 1
  · obtain ⟨c1, c2, c3, c4, c5, c6, c7, c8⟩ := hSw; go_simp; try with_reducible rfl
  simp only [Act.put, List.getElem_toArray, List.getElem_cons_zero, List.getElem_cons_succ, List.setIfInBounds_toArray, List.set_cons_zero, List.set_cons_succ]
  refine Last.wpL_take (v := ?_) 19 rfl (by kernel_rfl) (by kernel_rfl) (by kernel_rfl) (by kernel_rfl) (fun _ _ _ h => h) (Or.inl ⟨by rfl, fun w' hSw => ?_⟩) hS ?_
  rotate_left 1
  · obtain ⟨c1, c2, c3, c4, c5, c6, c7, c8⟩ := hSw; go_simp; try with_reducible rfl
  simp only [Act.put, List.getElem_toArray, List.getElem_cons_zero, List.getElem_cons_succ, List.setIfInBounds_toArray, List.set_cons_zero, List.set_cons_succ]
  refine Last.wpL_one 10 rfl rfl (by kernel_rfl) (fun K hK => ?_)
  refine wp_call (f := 28) (args := #[.int .i64 sa, .int .i64 sb]) ?_ (cX _) (hK _ _ hS ?_)
  · go_simp
  simp only [Act.put, List.getElem_toArray, List.getElem_cons_zero, List.getElem_cons_succ, List.setIfInBounds_toArray, List.set_cons_zero, List.set_cons_succ]
  clear hK K
  refine Last.wpL_one 15 rfl rfl (by kernel_rfl) (fun K hK => ?_)
  refine wp_call (f := 29) (args := #[.string na, .string nb]) ?_ (cY _) (hK _ _ hS ?_)
  · go_simp
  simp only [Act.put, List.getElem_toArray, List.getElem_cons_zero, List.getElem_cons_succ, List.setIfInBounds_toArray, List.set_cons_zero, List.set_cons_succ]
  clear hK K
  refine Last.wpL_one 20 rfl rfl (by kernel_rfl) (fun K hK => ?_)
  refine wp_call (f := 30) (args := #[.int .u64 ta, .int .u64 tb]) ?_ (cZ _) (hK _ _ hS ?_)
  · go_simp
  simp only [Act.put, List.getElem_toArray, List.getElem_cons_zero, List.getElem_cons_succ, List.setIfInBounds_toArray, List.set_cons_zero, List.set_cons_succ]
  clear hK K
  have hWs : W.drew.heap.size = H + 2 := k0
  have hc : ∀ b o c, W.drew.cell? ⟨b, o, none⟩ = some c → (W.drew.alloc (.cells #[.int .i64 X, .int .i64 Y, .int .i64 Z] 3)).cell? ⟨b, o, none⟩ = some c := by
    intro b o c h
    rw [World.cell?_alloc_past _ _ _ (by simpa using block_lt_of_cell h)]
    exact h
  have e0 : (W.drew.alloc (.cells #[.int .i64 X, .int .i64 Y, .int .i64 Z] 3)).cell? ⟨H + 2, 0, none⟩ = some (.int .i64 X) := by rw [World.cell?_alloc_at _ _ _ _ hWs.symm]; rfl
  have e1 : (W.drew.alloc (.cells #[.int .i64 X, .int .i64 Y, .int .i64 Z] 3)).cell? ⟨H + 2, 1, none⟩ = some (.int .i64 Y) := by rw [World.cell?_alloc_at _ _ _ _ hWs.symm]; rfl
  have e2 : (W.drew.alloc (.cells #[.int .i64 X, .int .i64 Y, .int .i64 Z] 3)).cell? ⟨H + 2, 2, none⟩ = some (.int .i64 Z) := by rw [World.cell?_alloc_at _ _ _ _ hWs.symm]; rfl
  have bel2 : Below H w (W.drew.alloc (.cells #[.int .i64 X, .int .i64 Y, .int .i64 Z] 3)) := bel.drew.alloc (by rw [hWs]; omega) _
  have c27 := or_any X Y Z (H + 2) (W.drew.alloc (.cells #[.int .i64 X, .int .i64 Y, .int .i64 Z] 3)) e0 e1 e2
  obtain ⟨c1, c2, c3, c4, c5, c6, c7, c8⟩ := hS
  have hS2 := And.intro (hc _ _ _ c1) (And.intro (hc _ _ _ c2) (And.intro (hc _ _ _ c3) (And.intro (hc _ _ _ c4) (And.intro (hc _ _ _ c5) (And.intro (hc _ _ _ c6) (And.intro (hc _ _ _ c7) (hc _ _ _ c8)))))))
  clear c1 c2 c3 c4 c5 c6 c7 c8 e0 e1 e2 hc hSW
  refine Last.wpL_one 21 rfl rfl (by kernel_rfl) (fun K hK => ?_)
  refine wp_value (v := .slice (some ⟨H + 2, 0, none⟩) 3 3) (w' := W.drew.alloc (.cells #[.int .i64 X, .int .i64 Y, .int .i64 Z] 3)) ?_ (hK _ _ hS2 ?_)
  · go_simp
  simp only [Act.put, List.getElem_toArray, List.getElem_cons_zero, List.getElem_cons_succ, List.setIfInBounds_toArray, List.set_cons_zero, List.set_cons_succ]
  clear hK K
  refine Last.wpL_one 22 rfl rfl (by kernel_rfl) (fun K hK => ?_)
  refine wp_call (f := 27) (args := #[.slice (some ⟨H + 2, 0, none⟩) 3 3]) ?_ c27 (hK _ _ hS2 ?_)
  · go_simp
  simp only [Act.put, List.getElem_toArray, List.getElem_cons_zero, List.getElem_cons_succ, List.setIfInBounds_toArray, List.set_cons_zero, List.set_cons_succ]
  clear hK K
  refine Last.wpL_last rfl rfl (by kernel_rfl) (by kernel_rfl) (fun K hK => ?_)
  refine wp_value (v := .int .i64 (or3 X Y Z)) (w' := W.drew.alloc (.cells #[.int .i64 X, .int .i64 Y, .int .i64 Z] 3)) ?_ (hK _ _ ?_)
  · go_simp
  simp only [Act.put, List.getElem_toArray, List.getElem_cons_zero, List.getElem_cons_succ, List.setIfInBounds_toArray, List.set_cons_zero, List.set_cons_succ]
  clear hK K
  go_wp2
  go_ret
  exact ⟨rfl, by rw [hH]; exact bel2⟩

/-- What compareRanges answers. -/
def ranks (sa : Int) (na : ByteArray) (ta : Int) (sb : Int) (nb : ByteArray) (tb : Int) : Int := or3 (cmpInt sa sb) (Lib.compareBytes na.data.toList nb.data.toList) (cmpInt ta tb)

set_option maxRecDepth 100000 in
theorem zz_any (ha na ma : ByteArray) (ta : Int) (ra : Nat) (hb nb mb : ByteArray) (tb : Int) (rb : Nat) (sa sb : Int) (w : World)
    (h1 : w.cell? ⟨ra, 0, none⟩ = some (.int .i64 sa)) (h2 : w.cell? ⟨rb, 0, none⟩ = some (.int .i64 sb)) :
    Calls Try.prog 10 #[.agg #[.string ha, .string na, .string ma, .int .u64 ta, .pointer (some ⟨ra, 0, none⟩)], .agg #[.string hb, .string nb, .string mb, .int .u64 tb, .pointer (some ⟨rb, 0, none⟩)]] w fun e w' =>
      e = .returned (.int .i64 (ranks sa na ta sb nb tb)) ∧ Below w.heap.size w w' := by
  have hra := block_lt_of_cell h1
  have hrb := block_lt_of_cell h2
  have bel : Below w.heap.size w ((w.alloc (.cells #[.string ha, .string na, .string ma, .int .u64 ta, .pointer (some ⟨ra, 0, none⟩)] 29)).alloc (.cells #[.string hb, .string nb, .string mb, .int .u64 tb, .pointer (some ⟨rb, 0, none⟩)] 29)) := ((Below.refl _ _).alloc (by simp) _).alloc (by simp) _
  have c := cr_any ha na ma ta ra hb nb mb tb rb sa sb ((w.alloc (.cells #[.string ha, .string na, .string ma, .int .u64 ta, .pointer (some ⟨ra, 0, none⟩)] 29)).alloc (.cells #[.string hb, .string nb, .string mb, .int .u64 tb, .pointer (some ⟨rb, 0, none⟩)] 29)) (by rw [bel.cell hra]; exact h1) (by rw [bel.cell hrb]; exact h2)
  unfold ranks
  go_enter Try.func10, Try.ntmps10
  go_wp2_with (go_at_call 23; refine c.mono ?_; rintro e w' ⟨rfl, hb⟩)
  go_ret
  exact ⟨rfl, bel.trans (hb.mono (by simp; omega))⟩

end Go.Proofs.Qxb6614828a.Cmp
