/-
  ZZnewWaitLine: a waitLine made of five rows of numbers.
-/
import Derived.Test.Qxb6609061aPart
import Derived.Test.Qxb6609061aLast
import Derived.Deep.AppendLies
import Derived.ArgAppend
namespace Go.Proofs.Qxb6609061a.Line
open Go.RowKit

theorem info76x : (Try.prog.info? 76).map (fun i => (i.zero, i.size, i.bytes)) = some (some (.slice none 0 0), 1, 24) := by kernel_rfl
theorem info78x : (Try.prog.info? 78).map (fun i => (i.zero, i.size, i.bytes)) = some (some (.agg #[.int .i64 0, .int .i64 0, .int .i64 0, .int .i64 0, .int .i64 0]), 5, 40) := by kernel_rfl

theorem wp_value {P : Program} {o : Oper} {a : Act} {w w' : World} {K : Act → World → Prop} {Q : Exit → Act → World → Prop} {v : Value}
    (he : (execOp a.eval o).run P w = .ok (.value v) w') (hk : K (a.put o.dst v) w') : o.wp P a w K Q := by
  unfold Oper.wp
  rw [he]
  exact hk

theorem wp_skip {P : Program} {o : Oper} {a : Act} {w w' : World} {K : Act → World → Prop} {Q : Exit → Act → World → Prop}
    (he : (execOp a.eval o).run P w = .ok .skip w') (hk : K (a.put o.dst undef) w') : o.wp P a w K Q := by
  unfold Oper.wp
  rw [he]
  exact hk

theorem wp_append {P : Program} {o : Oper} {a : Act} {w w' : World} {K : Act → World → Prop} {Q : Exit → Act → World → Prop} (s x : Operand) (t : TypeId) {v u v' : Value}
    (ho : o.op = .call { callee := .builtin .append, args := #[s, x], argTypes := #[t, t] }) (hs : a.eval s = v) (hx : a.eval x = u) (hr : (Builtin.append_ #[t, t] o.type #[v, u]).run P w = .ok v' w') (h : K (a.put o.dst v') w') : o.wp P a w K Q := by
  unfold Oper.wp execOp
  simp only [ho, resolve, invoke, builtin, Sem.run_bind, Sem.run_pure, Result.andThen_ok, List.map_toArray, List.map_cons, List.map_nil, hs, hx, hr]
  exact h

set_option maxHeartbeats 1600000 in
set_option maxRecDepth 100000 in
set_option linter.unusedSimpArgs false in
theorem make_cells (n : Nat) (hn : n ≤ 65536) (T : Nat → Task) (b1 b2 b3 b4 b5 c1 c2 c3 c4 c5 : Nat) (la : Option Addr) (ll lc : Nat) (held waiting first : Int) (w : World)
    (I1 : ∀ j, j < n → w.cell? ⟨b1, j, none⟩ = some (.int .i64 (T j).id)) (I2 : ∀ j, j < n → w.cell? ⟨b2, j, none⟩ = some (.int .i64 (T j).submit)) (I3 : ∀ j, j < n → w.cell? ⟨b3, j, none⟩ = some (.int .i64 (T j).work)) (I4 : ∀ j, j < n → w.cell? ⟨b4, j, none⟩ = some (.int .i64 (T j).count)) (I5 : ∀ j, j < n → w.cell? ⟨b5, j, none⟩ = some (.int .i64 (T j).pushed)) :
    Calls Try.prog 9 #[.slice (some ⟨b1, 0, none⟩) n c1, .slice (some ⟨b2, 0, none⟩) n c2, .slice (some ⟨b3, 0, none⟩) n c3, .slice (some ⟨b4, 0, none⟩) n c4, .slice (some ⟨b5, 0, none⟩) n c5, .slice la ll lc, .int .i64 held, .int .i64 waiting, .int .i64 first] w fun e w' => e = .returned (.pointer (some ⟨w.heap.size, 0, none⟩)) ∧ Below w.heap.size w w' ∧ ∃ pa g cap pb, Line w' w.heap.size w'.heap.size w.heap.size pa g cap pb n T (.slice la ll lc) held waiting first := by
  obtain ⟨i76, hi76, hz76, hs76, hb76⟩ := info_parts info76x
  obtain ⟨i78, hi78, hz78, hs78, hb78⟩ := info_parts info78x
  go_enter Try.func9, Try.ntmps9
  go_wp2
  go_loopw [30] (fun iv wr => ∃ i : Nat, i ≤ n ∧ iv = .int .i64 i ∧ ∃ pa cap pb, Part w wr pa cap pb (pgs i) i T (.slice la ll lc) held waiting first) (fun iv _ => n - (intOf iv).toNat)
  case atStart => exact ⟨0, Nat.zero_le _, rfl, none, 0, fun _ => 0, Part.start w _ T _ held waiting first⟩
  case round =>
    obtain ⟨i, hi, rfl, pa, cap, pb, P0⟩ := hrel
    by_cases hlt : i < n
    · have ha := and1023 i (by omega)
      by_cases hr : (i : Int) % 1024 = 0
      · go_wp2_with fail
        have P1 := P0.drew
        generalize hW : wr.drew = W at P1
        obtain ⟨M, hM, hmk⟩ : ∃ M : Array Value, M.size = 5120 ∧ (Instr.makeSlice 76 (.int .i64 0) (.int .i64 1024)).run Try.prog W = .ok (.slice (some ⟨W.heap.size, 0, none⟩) 0 1024) (W.alloc (.cells M 78)) :=
          ⟨_, by simp [madeCells, hs78], run_make W 76 78 i78 _ Try.underlying76 hi78 hz78 .i64 .i64 0 1024 (by decide) (by decide) (by rw [hb78]; decide) (by decide)⟩
        generalize hq : w.heap.size = q at *
        refine Last.wp_region_last 12 (fun w' => w'.cell? ⟨q, 0, none⟩ = some (.slice pa (pgs i) cap)) (by kernel_rfl) (by rw [hW, ← hq]; exact P1.h0) (fun hS => ?_)
        rw [hW] at hS ⊢
        refine Last.wpL_take (v := ?_) 0 rfl (by kernel_rfl) (by kernel_rfl) (by kernel_rfl) (by kernel_rfl) (fun _ _ _ h => h) (Or.inl ⟨by rfl, fun w' hSw => ?_⟩) hS ?_
        rotate_left 1
        · obtain c1 := hSw; go_simp; try with_reducible rfl
        simp only [Act.put, List.getElem_toArray, List.getElem_cons_zero, List.getElem_cons_succ, List.setIfInBounds_toArray, List.set_cons_zero, List.set_cons_succ]
        refine Last.wpL_take (v := ?_) 1 rfl (by kernel_rfl) (by kernel_rfl) (by kernel_rfl) (by kernel_rfl) (fun _ _ _ h => h) (Or.inl ⟨by rfl, fun w' hSw => ?_⟩) hS ?_
        rotate_left 1
        · obtain c1 := hSw; go_simp; try with_reducible rfl
        simp only [Act.put, List.getElem_toArray, List.getElem_cons_zero, List.getElem_cons_succ, List.setIfInBounds_toArray, List.set_cons_zero, List.set_cons_succ]
        refine Last.wpL_take (v := ?_) 2 rfl (by kernel_rfl) (by kernel_rfl) (by kernel_rfl) (by kernel_rfl) (fun _ _ _ h => h) (Or.inl ⟨by rfl, fun w' hSw => ?_⟩) hS ?_
        rotate_left 1
        · obtain c1 := hSw; go_simp; try with_reducible rfl
        simp only [Act.put, List.getElem_toArray, List.getElem_cons_zero, List.getElem_cons_succ, List.setIfInBounds_toArray, List.set_cons_zero, List.set_cons_succ]
        refine Last.wpL_take (v := ?_) 3 rfl (by kernel_rfl) (by kernel_rfl) (by kernel_rfl) (by kernel_rfl) (fun _ _ _ h => h) (Or.inl ⟨by rfl, fun w' hSw => ?_⟩) hS ?_
        rotate_left 1
        · obtain c1 := hSw; go_simp; try with_reducible rfl
        simp only [Act.put, List.getElem_toArray, List.getElem_cons_zero, List.getElem_cons_succ, List.setIfInBounds_toArray, List.set_cons_zero, List.set_cons_succ]
        refine Last.wpL_take (v := ?_) 4 rfl (by kernel_rfl) (by kernel_rfl) (by kernel_rfl) (by kernel_rfl) (fun _ _ _ h => h) (Or.inl ⟨by rfl, fun w' hSw => ?_⟩) hS ?_
        rotate_left 1
        · obtain c1 := hSw; go_simp; try with_reducible rfl
        simp only [Act.put, List.getElem_toArray, List.getElem_cons_zero, List.getElem_cons_succ, List.setIfInBounds_toArray, List.set_cons_zero, List.set_cons_succ]
        refine Last.wpL_take (v := ?_) 5 rfl (by kernel_rfl) (by kernel_rfl) (by kernel_rfl) (by kernel_rfl) (fun _ _ _ h => h) (Or.inl ⟨by rfl, fun w' hSw => ?_⟩) hS ?_
        rotate_left 1
        · obtain c1 := hSw; go_simp; try with_reducible rfl
        simp only [Act.put, List.getElem_toArray, List.getElem_cons_zero, List.getElem_cons_succ, List.setIfInBounds_toArray, List.set_cons_zero, List.set_cons_succ]
        obtain ⟨w1, hw1⟩ : ∃ w1, w1 = W.alloc (.cells M 78) := ⟨_, rfl⟩
        rw [← hw1] at hmk
        have hS1 : w1.cell? ⟨q, 0, none⟩ = some (.slice pa (pgs i) cap) := by rw [hw1, World.cell?_alloc_past _ _ _ (block_lt_of_cell hS)]; exact hS
        have s1 : w1.heap.size = W.heap.size + 1 := by rw [hw1]; simp
        refine Last.wpL_one 6 rfl rfl (by kernel_rfl) (fun K hK => ?_)
        refine wp_value (v := .slice (some ⟨W.heap.size, 0, none⟩) 0 1024) (w' := w1) ?_ (hK _ _ hS1 ?_)
        · go_simp
        clear hK K
        simp only [Act.put, List.getElem_toArray, List.getElem_cons_zero, List.getElem_cons_succ, List.setIfInBounds_toArray, List.set_cons_zero, List.set_cons_succ]
        obtain ⟨w2, hw2⟩ : ∃ w2, w2 = w1.alloc (.cells #[.slice (some ⟨W.heap.size, 0, none⟩) 0 1024] 76) := ⟨_, rfl⟩
        have hS2 : w2.cell? ⟨q, 0, none⟩ = some (.slice pa (pgs i) cap) := by rw [hw2, World.cell?_alloc_past _ _ _ (block_lt_of_cell hS1)]; exact hS1
        have s2 : w2.heap.size = W.heap.size + 2 := by rw [hw2]; simp; omega
        have hbs : (Instr.buildSlice 71 1 #[(0, .slice (some ⟨W.heap.size, 0, none⟩) 0 1024)]).run Try.prog w1 = .ok (.slice (some ⟨W.heap.size + 1, 0, none⟩) 1 1) w2 := by
          rw [hw2]; go_simp
        refine Last.wpL_one 7 rfl rfl (by kernel_rfl) (fun K hK => ?_)
        refine wp_value (v := .slice (some ⟨W.heap.size + 1, 0, none⟩) 1 1) (w' := w2) ?_ (hK _ _ hS2 ?_)
        · go_simp
        clear hK K
        simp only [Act.put, List.getElem_toArray, List.getElem_cons_zero, List.getElem_cons_succ, List.setIfInBounds_toArray, List.set_cons_zero, List.set_cons_succ]
        have siz1 := P1.siz
        have hown2 : w2.ownsRow (w.heap.size + 1) 76 1 (.slice pa (pgs i) cap) (pgs i) ((List.range (pgs i)).map (pgv pb i)) := by rw [hw2, hw1]; exact (P1.own.alloc _).alloc _
        have hcell2 : w2.cell? ⟨W.heap.size + 1, 0, none⟩ = some (.slice (some ⟨W.heap.size, 0, none⟩) 0 1024) := by
          rw [hw2, World.cell?_alloc_at _ _ _ _ s1.symm]; rfl
        obtain ⟨g', cap', w3, happ, own3, gr3, hat3, hg3⟩ := run_append_lies (P := Try.prog) w2 71 71 (w.heap.size + 1) 76 i76 (.slice none 0 0) 1 24 Try.underlying71 hi76 hz76 hs76 hb76 rfl (by decide) (.slice pa (pgs i) cap) (pgs i) _ hown2 ⟨W.heap.size + 1, 0, none⟩ 1 1 [.slice (some ⟨W.heap.size, 0, none⟩) 0 1024] rfl
          (by intro j u hj; cases j with | zero => (simp at hj; subst hj; simpa [Addr.add] using hcell2) | succ j => simp at hj)
          (by intro u hu; simp at hu; subst hu; rfl) (by decide) (by unfold maxLen pgs; omega) (by unfold pgs; omega) (by omega) _ rfl
        have hqw : w.heap.size < w2.heap.size := by omega
        have hS3 : w3.cell? ⟨q, 0, none⟩ = some (.slice pa (pgs i) cap) := by
          refine gr3.cell hS2 ?_
          intro e
          have := (P1.ob e.symm).1
          simp at this
          omega
        have f3 : w3.frozen? ⟨q, 0, none⟩ = false := by
          have e3 : w3.heap[q]? = W.heap[q]? := by
            rw [gr3.block q (by omega) (fun e => by have := (P1.ob e.symm).1; omega), hw2, hw1, heap_alloc_old _ _ (by simp; omega), heap_alloc_old _ _ (by omega)]
          have := there_same e3 (by rw [← hq]; exact P1.qth)
          exact there_frozen this (Nat.zero_le _) (by decide)
        refine Last.wpL_one 8 rfl rfl (by kernel_rfl) (fun K hK => ?_)
        refine wp_append (.tmp 41) (.tmp 43) 71 rfl ?hs8 ?hx8 happ (hK _ _ hS3 ?_)
        (case hs8 => (simp [Act.eval]; done))
        (case hx8 => (simp [Act.eval]; done))
        clear hK K
        simp only [Act.put, List.getElem_toArray, List.getElem_cons_zero, List.getElem_cons_succ, List.setIfInBounds_toArray, List.set_cons_zero, List.set_cons_succ]
        refine Last.wpL_one 9 rfl rfl (by kernel_rfl) (fun K hK => ?_)
        refine wp_value (v := .pointer (some ⟨q, 0, none⟩)) (w' := w3) ?_ (hK _ _ hS3 ?_)
        · go_simp
        clear hK K
        simp only [Act.put, List.getElem_toArray, List.getElem_cons_zero, List.getElem_cons_succ, List.setIfInBounds_toArray, List.set_cons_zero, List.set_cons_succ]
        refine Last.wpL_one 10 rfl rfl (by kernel_rfl) (fun K hK => ?_)
        refine wp_value (v := .pointer (some ⟨q, 0, none⟩)) (w' := w3) ?_ (hK _ _ hS3 ?_)
        · go_simp
        clear hK K
        simp only [Act.put, List.getElem_toArray, List.getElem_cons_zero, List.getElem_cons_succ, List.setIfInBounds_toArray, List.set_cons_zero, List.set_cons_succ]
        refine Last.wpL_one 11 rfl rfl (by kernel_rfl) (fun K hK => ?_)
        refine wp_value (v := .pointer (some ⟨q, 0, none⟩)) (w' := w3) ?_ (hK _ _ hS3 ?_)
        · go_simp
        clear hK K
        simp only [Act.put, List.getElem_toArray, List.getElem_cons_zero, List.getElem_cons_succ, List.setIfInBounds_toArray, List.set_cons_zero, List.set_cons_succ]
        have P2 := P1.newPage (by unfold pgs; omega) hM (by rw [hw2, hw1]) own3 gr3 hat3 hg3
        refine Last.wpL_last rfl rfl (by kernel_rfl) (by kernel_rfl) (fun K hK => ?_)
        refine wp_skip (w' := w3.setCell ⟨q, 0, none⟩ (.slice (some ⟨g', 0, none⟩) (pgs i + 1) cap')) ?_ (hK _ _ ?_)
        · go_simp
        clear hK K
        simp only [Act.put, List.getElem_toArray, List.getElem_cons_zero, List.getElem_cons_succ, List.setIfInBounds_toArray, List.set_cons_zero, List.set_cons_succ]
        have P3 : Part w (w3.setCell ⟨q, 0, none⟩ (.slice (some ⟨g', 0, none⟩) (pgs i + 1) cap')) (some ⟨g', 0, none⟩) cap' (fun k => if k = pgs i then W.heap.size else pb k) (i / 1024 + 1) i T (.slice la ll lc) held waiting first := by
          rw [hq] at P2
          rwa [show pgs i + 1 = i / 1024 + 1 by unfold pgs; omega] at P2 ⊢
        have ecap : pgs i + 1 = i / 1024 + 1 := by unfold pgs; omega
        clear P2 P1 P0 hS hS1 hS2 hS3 own3 gr3 hat3 hg3 happ hown2 hcell2 hbs hmk f3
        generalize (fun k => if k = pgs i then W.heap.size else pb k) = pb0 at *
        generalize hW0 : w3.setCell ⟨q, 0, none⟩ (.slice (some ⟨g', 0, none⟩) (pgs i + 1) cap') = W0 at *
        clear hW0 hw1 hw2 s1 s2 siz1 hqw hM ecap
        generalize hcap0 : cap' = cap0 at *
        generalize hpa0 : (some (⟨g', 0, none⟩ : Addr)) = pa0 at P3
        clear hpa0
        obtain ⟨g, rfl, hgq, hgs, _⟩ := P3.shape (by omega)
        have hPp := P3.pbr (i / 1024) (by omega)
        have hpth := P3.pth (i / 1024) (by omega)
        have k0 := P3.h0
        have kg : W0.cell? ⟨g, i / 1024, none⟩ = some (.slice (some ⟨pb0 (i / 1024), 0, none⟩) (i % 1024) 1024) := by
          rw [P3.own.cellAt (i / 1024) (by omega)]
          simp [pgv]
          omega
        have kgf : W0.frozen? ⟨g, i / 1024, none⟩ = false := P3.own.frozenAt _
        have d1 := (P3.bel.cell (p := ⟨b1, i, none⟩) (block_lt_of_cell (I1 i hlt))).trans (I1 i hlt)
        have d2 := (P3.bel.cell (p := ⟨b2, i, none⟩) (block_lt_of_cell (I2 i hlt))).trans (I2 i hlt)
        have d3 := (P3.bel.cell (p := ⟨b3, i, none⟩) (block_lt_of_cell (I3 i hlt))).trans (I3 i hlt)
        have d4 := (P3.bel.cell (p := ⟨b4, i, none⟩) (block_lt_of_cell (I4 i hlt))).trans (I4 i hlt)
        have d5 := (P3.bel.cell (p := ⟨b5, i, none⟩) (block_lt_of_cell (I5 i hlt))).trans (I5 i hlt)
        have PT : ∀ {W1 W2 W3 : World}, Below W0.heap.size W0 W1 → W2 = W1.setCells (pb0 (i / 1024)) (i % 1024 * 5) (T i).cs → W3 = W2.setCell ⟨g, i / 1024, none⟩ (.slice (some ⟨pb0 (i / 1024), 0, none⟩) (i % 1024 + 1) 1024) → Part w W3 (some ⟨g, 0, none⟩) cap0 pb0 (pgs (i + 1)) (i + 1) T (.slice la ll lc) held waiting first := fun hb1 hb2 hb3 => by
          have := P3.newTask rfl hb1 hb2 hb3
          rwa [show i / 1024 + 1 = pgs (i + 1) by unfold pgs; omega] at this
        clear P3
        have hpr : i % 1024 < 1024 := by omega
        rw [hq] at k0 hgq
        have gpb : g ≠ pb0 (i / 1024) := fun e => hPp.2.2 (by rw [e])
        generalize hB : pb0 (i / 1024) = B at *
        generalize hp : i / 1024 = p at *
        generalize hrr : i % 1024 = r at *
        have Hp : Hid (i / 1024 = p) := hp
        have Hr : Hid (i % 1024 = r) := hrr
        clear hp hrr hB
        have hp64 : p ≤ 65536 := by have : i / 1024 = p := Hp; omega
        go_wp2_with fail
        have n1 := block_lt_of_cell (I1 i hlt)
        have n2 := block_lt_of_cell (I2 i hlt)
        have n3 := block_lt_of_cell (I3 i hlt)
        have n4 := block_lt_of_cell (I4 i hlt)
        have n5 := block_lt_of_cell (I5 i hlt)
        simp only at n1 n2 n3 n4 n5
        clear I1 I2 I3 I4 I5
        have hpp : (p : Int) < (p : Int) + 1 := by omega
        have hpi : (0 : Int) ≤ (p : Int) := by omega
        obtain ⟨t, ht⟩ : ∃ t, t = T i := ⟨_, rfl⟩
        rw [← ht] at d1 d2 d3 d4 d5 PT
        have bel0 : Below W0.heap.size W0 W0.drew := (Below.refl _ _).drew
        have hS0 : ∀ W, W = W0.drew → W.cell? ⟨q, 0, none⟩ = some (.slice (some ⟨g, 0, none⟩) (p + 1) cap0) ∧ W.cell? ⟨g, p, none⟩ = some (.slice (some ⟨B, 0, none⟩) r 1024) ∧ W.cell? ⟨b1, i, none⟩ = some (.int .i64 t.id) ∧ W.cell? ⟨b2, i, none⟩ = some (.int .i64 t.submit) ∧ W.cell? ⟨b3, i, none⟩ = some (.int .i64 t.work) ∧ W.cell? ⟨b4, i, none⟩ = some (.int .i64 t.count) ∧ W.cell? ⟨b5, i, none⟩ = some (.int .i64 t.pushed) := by rintro W rfl; exact ⟨k0, kg, d1, d2, d3, d4, d5⟩
        have hth0 : W0.drew.there B 0 5120 := hpth
        have kgf0 : W0.drew.frozen? ⟨g, p, none⟩ = false := kgf
        generalize hV : W0.drew = V at hS0 bel0 hth0 kgf0
        have hSV := hS0 V rfl
        clear hS0 k0 kg d1 d2 d3 d4 d5 kgf hpth
        refine Last.wp_region_last 38 (fun W => W.cell? ⟨q, 0, none⟩ = some (.slice (some ⟨g, 0, none⟩) (p + 1) cap0) ∧ W.cell? ⟨g, p, none⟩ = some (.slice (some ⟨B, 0, none⟩) r 1024) ∧ W.cell? ⟨b1, i, none⟩ = some (.int .i64 t.id) ∧ W.cell? ⟨b2, i, none⟩ = some (.int .i64 t.submit) ∧ W.cell? ⟨b3, i, none⟩ = some (.int .i64 t.work) ∧ W.cell? ⟨b4, i, none⟩ = some (.int .i64 t.count) ∧ W.cell? ⟨b5, i, none⟩ = some (.int .i64 t.pushed)) (by kernel_rfl) (by rw [hV]; exact hSV) (fun hS => ?_)
        rw [hV] at hS ⊢
        refine Last.wpL_take (v := ?_) 0 rfl (by kernel_rfl) (by kernel_rfl) (by kernel_rfl) (by kernel_rfl) (fun _ _ _ h => h) (Or.inl ⟨by rfl, fun w' hSw => ?_⟩) hS ?_
        rotate_left 1
        · obtain ⟨e1, e2, e3, e4, e5, e6, e7⟩ := hSw; go_simp; try with_reducible rfl
        simp only [Act.put, List.getElem_toArray, List.getElem_cons_zero, List.getElem_cons_succ, List.setIfInBounds_toArray, List.set_cons_zero, List.set_cons_succ]
        refine Last.wpL_take (v := ?_) 1 rfl (by kernel_rfl) (by kernel_rfl) (by kernel_rfl) (by kernel_rfl) (fun _ _ _ h => h) (Or.inl ⟨by rfl, fun w' hSw => ?_⟩) hS ?_
        rotate_left 1
        · obtain ⟨e1, e2, e3, e4, e5, e6, e7⟩ := hSw; go_simp; try with_reducible rfl
        simp only [Act.put, List.getElem_toArray, List.getElem_cons_zero, List.getElem_cons_succ, List.setIfInBounds_toArray, List.set_cons_zero, List.set_cons_succ]
        refine Last.wpL_take (v := ?_) 2 rfl (by kernel_rfl) (by kernel_rfl) (by kernel_rfl) (by kernel_rfl) (fun _ _ _ h => h) (Or.inl ⟨by rfl, fun w' hSw => ?_⟩) hS ?_
        rotate_left 1
        · obtain ⟨e1, e2, e3, e4, e5, e6, e7⟩ := hSw; go_simp; try with_reducible rfl
        simp only [Act.put, List.getElem_toArray, List.getElem_cons_zero, List.getElem_cons_succ, List.setIfInBounds_toArray, List.set_cons_zero, List.set_cons_succ]
        refine Last.wpL_take (v := ?_) 3 rfl (by kernel_rfl) (by kernel_rfl) (by kernel_rfl) (by kernel_rfl) (fun _ _ _ h => h) (Or.inl ⟨by rfl, fun w' hSw => ?_⟩) hS ?_
        rotate_left 1
        · obtain ⟨e1, e2, e3, e4, e5, e6, e7⟩ := hSw; go_simp; try with_reducible rfl
        simp only [Act.put, List.getElem_toArray, List.getElem_cons_zero, List.getElem_cons_succ, List.setIfInBounds_toArray, List.set_cons_zero, List.set_cons_succ]
        refine Last.wpL_take (v := ?_) 4 rfl (by kernel_rfl) (by kernel_rfl) (by kernel_rfl) (by kernel_rfl) (fun _ _ _ h => h) (Or.inl ⟨by rfl, fun w' hSw => ?_⟩) hS ?_
        rotate_left 1
        · obtain ⟨e1, e2, e3, e4, e5, e6, e7⟩ := hSw; go_simp; try with_reducible rfl
        simp only [Act.put, List.getElem_toArray, List.getElem_cons_zero, List.getElem_cons_succ, List.setIfInBounds_toArray, List.set_cons_zero, List.set_cons_succ]
        refine Last.wpL_take (v := ?_) 5 rfl (by kernel_rfl) (by kernel_rfl) (by kernel_rfl) (by kernel_rfl) (fun _ _ _ h => h) (Or.inl ⟨by rfl, fun w' hSw => ?_⟩) hS ?_
        rotate_left 1
        · obtain ⟨e1, e2, e3, e4, e5, e6, e7⟩ := hSw; go_simp; try with_reducible rfl
        simp only [Act.put, List.getElem_toArray, List.getElem_cons_zero, List.getElem_cons_succ, List.setIfInBounds_toArray, List.set_cons_zero, List.set_cons_succ]
        refine Last.wpL_take (v := ?_) 6 rfl (by kernel_rfl) (by kernel_rfl) (by kernel_rfl) (by kernel_rfl) (fun _ _ _ h => h) (Or.inl ⟨by rfl, fun w' hSw => ?_⟩) hS ?_
        rotate_left 1
        · obtain ⟨e1, e2, e3, e4, e5, e6, e7⟩ := hSw; go_simp; try with_reducible rfl
        simp only [Act.put, List.getElem_toArray, List.getElem_cons_zero, List.getElem_cons_succ, List.setIfInBounds_toArray, List.set_cons_zero, List.set_cons_succ]
        refine Last.wpL_take (v := ?_) 7 rfl (by kernel_rfl) (by kernel_rfl) (by kernel_rfl) (by kernel_rfl) (fun _ _ _ h => h) (Or.inl ⟨by rfl, fun w' hSw => ?_⟩) hS ?_
        rotate_left 1
        · obtain ⟨e1, e2, e3, e4, e5, e6, e7⟩ := hSw; go_simp; try with_reducible rfl
        simp only [Act.put, List.getElem_toArray, List.getElem_cons_zero, List.getElem_cons_succ, List.setIfInBounds_toArray, List.set_cons_zero, List.set_cons_succ]
        refine Last.wpL_take (v := ?_) 8 rfl (by kernel_rfl) (by kernel_rfl) (by kernel_rfl) (by kernel_rfl) (fun _ _ _ h => h) (Or.inl ⟨by rfl, fun w' hSw => ?_⟩) hS ?_
        rotate_left 1
        · obtain ⟨e1, e2, e3, e4, e5, e6, e7⟩ := hSw; go_simp; try with_reducible rfl
        simp only [Act.put, List.getElem_toArray, List.getElem_cons_zero, List.getElem_cons_succ, List.setIfInBounds_toArray, List.set_cons_zero, List.set_cons_succ]
        refine Last.wpL_take (v := ?_) 9 rfl (by kernel_rfl) (by kernel_rfl) (by kernel_rfl) (by kernel_rfl) (fun _ _ _ h => h) (Or.inl ⟨by rfl, fun w' hSw => ?_⟩) hS ?_
        rotate_left 1
        · obtain ⟨e1, e2, e3, e4, e5, e6, e7⟩ := hSw; go_simp; try with_reducible rfl
        simp only [Act.put, List.getElem_toArray, List.getElem_cons_zero, List.getElem_cons_succ, List.setIfInBounds_toArray, List.set_cons_zero, List.set_cons_succ]
        refine Last.wpL_take (v := ?_) 10 rfl (by kernel_rfl) (by kernel_rfl) (by kernel_rfl) (by kernel_rfl) (fun _ _ _ h => h) (Or.inl ⟨by rfl, fun w' hSw => ?_⟩) hS ?_
        rotate_left 1
        · obtain ⟨e1, e2, e3, e4, e5, e6, e7⟩ := hSw; go_simp; try with_reducible rfl
        simp only [Act.put, List.getElem_toArray, List.getElem_cons_zero, List.getElem_cons_succ, List.setIfInBounds_toArray, List.set_cons_zero, List.set_cons_succ]
        refine Last.wpL_take (v := ?_) 11 rfl (by kernel_rfl) (by kernel_rfl) (by kernel_rfl) (by kernel_rfl) (fun _ _ _ h => h) (Or.inl ⟨by rfl, fun w' hSw => ?_⟩) hS ?_
        rotate_left 1
        · obtain ⟨e1, e2, e3, e4, e5, e6, e7⟩ := hSw; go_simp; try with_reducible rfl
        simp only [Act.put, List.getElem_toArray, List.getElem_cons_zero, List.getElem_cons_succ, List.setIfInBounds_toArray, List.set_cons_zero, List.set_cons_succ]
        refine Last.wpL_take (v := ?_) 12 rfl (by kernel_rfl) (by kernel_rfl) (by kernel_rfl) (by kernel_rfl) (fun _ _ _ h => h) (Or.inl ⟨by rfl, fun w' hSw => ?_⟩) hS ?_
        rotate_left 1
        · obtain ⟨e1, e2, e3, e4, e5, e6, e7⟩ := hSw; go_simp; try with_reducible rfl
        simp only [Act.put, List.getElem_toArray, List.getElem_cons_zero, List.getElem_cons_succ, List.setIfInBounds_toArray, List.set_cons_zero, List.set_cons_succ]
        refine Last.wpL_take (v := ?_) 13 rfl (by kernel_rfl) (by kernel_rfl) (by kernel_rfl) (by kernel_rfl) (fun _ _ _ h => h) (Or.inl ⟨by rfl, fun w' hSw => ?_⟩) hS ?_
        rotate_left 1
        · obtain ⟨e1, e2, e3, e4, e5, e6, e7⟩ := hSw; go_simp; try with_reducible rfl
        simp only [Act.put, List.getElem_toArray, List.getElem_cons_zero, List.getElem_cons_succ, List.setIfInBounds_toArray, List.set_cons_zero, List.set_cons_succ]
        refine Last.wpL_take (v := ?_) 14 rfl (by kernel_rfl) (by kernel_rfl) (by kernel_rfl) (by kernel_rfl) (fun _ _ _ h => h) (Or.inl ⟨by rfl, fun w' hSw => ?_⟩) hS ?_
        rotate_left 1
        · obtain ⟨e1, e2, e3, e4, e5, e6, e7⟩ := hSw; go_simp; try with_reducible rfl
        simp only [Act.put, List.getElem_toArray, List.getElem_cons_zero, List.getElem_cons_succ, List.setIfInBounds_toArray, List.set_cons_zero, List.set_cons_succ]
        refine Last.wpL_take (v := ?_) 15 rfl (by kernel_rfl) (by kernel_rfl) (by kernel_rfl) (by kernel_rfl) (fun _ _ _ h => h) (Or.inl ⟨by rfl, fun w' hSw => ?_⟩) hS ?_
        rotate_left 1
        · obtain ⟨e1, e2, e3, e4, e5, e6, e7⟩ := hSw; go_simp; try with_reducible rfl
        simp only [Act.put, List.getElem_toArray, List.getElem_cons_zero, List.getElem_cons_succ, List.setIfInBounds_toArray, List.set_cons_zero, List.set_cons_succ]
        refine Last.wpL_take (v := ?_) 16 rfl (by kernel_rfl) (by kernel_rfl) (by kernel_rfl) (by kernel_rfl) (fun _ _ _ h => h) (Or.inl ⟨by rfl, fun w' hSw => ?_⟩) hS ?_
        rotate_left 1
        · obtain ⟨e1, e2, e3, e4, e5, e6, e7⟩ := hSw; go_simp; try with_reducible rfl
        simp only [Act.put, List.getElem_toArray, List.getElem_cons_zero, List.getElem_cons_succ, List.setIfInBounds_toArray, List.set_cons_zero, List.set_cons_succ]
        refine Last.wpL_take (v := ?_) 17 rfl (by kernel_rfl) (by kernel_rfl) (by kernel_rfl) (by kernel_rfl) (fun _ _ _ h => h) (Or.inl ⟨by rfl, fun w' hSw => ?_⟩) hS ?_
        rotate_left 1
        · obtain ⟨e1, e2, e3, e4, e5, e6, e7⟩ := hSw; go_simp; try with_reducible rfl
        simp only [Act.put, List.getElem_toArray, List.getElem_cons_zero, List.getElem_cons_succ, List.setIfInBounds_toArray, List.set_cons_zero, List.set_cons_succ]
        refine Last.wpL_take (v := ?_) 18 rfl (by kernel_rfl) (by kernel_rfl) (by kernel_rfl) (by kernel_rfl) (fun _ _ _ h => h) (Or.inl ⟨by rfl, fun w' hSw => ?_⟩) hS ?_
        rotate_left 1
        · obtain ⟨e1, e2, e3, e4, e5, e6, e7⟩ := hSw; go_simp; try with_reducible rfl
        simp only [Act.put, List.getElem_toArray, List.getElem_cons_zero, List.getElem_cons_succ, List.setIfInBounds_toArray, List.set_cons_zero, List.set_cons_succ]
        refine Last.wpL_take (v := ?_) 19 rfl (by kernel_rfl) (by kernel_rfl) (by kernel_rfl) (by kernel_rfl) (fun _ _ _ h => h) (Or.inl ⟨by rfl, fun w' hSw => ?_⟩) hS ?_
        rotate_left 1
        · obtain ⟨e1, e2, e3, e4, e5, e6, e7⟩ := hSw; go_simp; try with_reducible rfl
        simp only [Act.put, List.getElem_toArray, List.getElem_cons_zero, List.getElem_cons_succ, List.setIfInBounds_toArray, List.set_cons_zero, List.set_cons_succ]
        refine Last.wpL_take (v := ?_) 20 rfl (by kernel_rfl) (by kernel_rfl) (by kernel_rfl) (by kernel_rfl) (fun _ _ _ h => h) (Or.inl ⟨by rfl, fun w' hSw => ?_⟩) hS ?_
        rotate_left 1
        · obtain ⟨e1, e2, e3, e4, e5, e6, e7⟩ := hSw; go_simp; try with_reducible rfl
        simp only [Act.put, List.getElem_toArray, List.getElem_cons_zero, List.getElem_cons_succ, List.setIfInBounds_toArray, List.set_cons_zero, List.set_cons_succ]
        refine Last.wpL_take (v := ?_) 21 rfl (by kernel_rfl) (by kernel_rfl) (by kernel_rfl) (by kernel_rfl) (fun _ _ _ h => h) (Or.inl ⟨by rfl, fun w' hSw => ?_⟩) hS ?_
        rotate_left 1
        · obtain ⟨e1, e2, e3, e4, e5, e6, e7⟩ := hSw; go_simp; try with_reducible rfl
        simp only [Act.put, List.getElem_toArray, List.getElem_cons_zero, List.getElem_cons_succ, List.setIfInBounds_toArray, List.set_cons_zero, List.set_cons_succ]
        refine Last.wpL_take (v := ?_) 22 rfl (by kernel_rfl) (by kernel_rfl) (by kernel_rfl) (by kernel_rfl) (fun _ _ _ h => h) (Or.inl ⟨by rfl, fun w' hSw => ?_⟩) hS ?_
        rotate_left 1
        · obtain ⟨e1, e2, e3, e4, e5, e6, e7⟩ := hSw; go_simp; try with_reducible rfl
        simp only [Act.put, List.getElem_toArray, List.getElem_cons_zero, List.getElem_cons_succ, List.setIfInBounds_toArray, List.set_cons_zero, List.set_cons_succ]
        refine Last.wpL_take (v := ?_) 23 rfl (by kernel_rfl) (by kernel_rfl) (by kernel_rfl) (by kernel_rfl) (fun _ _ _ h => h) (Or.inl ⟨by rfl, fun w' hSw => ?_⟩) hS ?_
        rotate_left 1
        · obtain ⟨e1, e2, e3, e4, e5, e6, e7⟩ := hSw; go_simp; try with_reducible rfl
        simp only [Act.put, List.getElem_toArray, List.getElem_cons_zero, List.getElem_cons_succ, List.setIfInBounds_toArray, List.set_cons_zero, List.set_cons_succ]
        refine Last.wpL_take (v := ?_) 24 rfl (by kernel_rfl) (by kernel_rfl) (by kernel_rfl) (by kernel_rfl) (fun _ _ _ h => h) (Or.inl ⟨by rfl, fun w' hSw => ?_⟩) hS ?_
        rotate_left 1
        · obtain ⟨e1, e2, e3, e4, e5, e6, e7⟩ := hSw; go_simp; try with_reducible rfl
        simp only [Act.put, List.getElem_toArray, List.getElem_cons_zero, List.getElem_cons_succ, List.setIfInBounds_toArray, List.set_cons_zero, List.set_cons_succ]
        refine Last.wpL_take (v := ?_) 25 rfl (by kernel_rfl) (by kernel_rfl) (by kernel_rfl) (by kernel_rfl) (fun _ _ _ h => h) (Or.inl ⟨by rfl, fun w' hSw => ?_⟩) hS ?_
        rotate_left 1
        · obtain ⟨e1, e2, e3, e4, e5, e6, e7⟩ := hSw; go_simp; try with_reducible rfl
        simp only [Act.put, List.getElem_toArray, List.getElem_cons_zero, List.getElem_cons_succ, List.setIfInBounds_toArray, List.set_cons_zero, List.set_cons_succ]
        refine Last.wpL_take (v := ?_) 26 rfl (by kernel_rfl) (by kernel_rfl) (by kernel_rfl) (by kernel_rfl) (fun _ _ _ h => h) (Or.inl ⟨by rfl, fun w' hSw => ?_⟩) hS ?_
        rotate_left 1
        · obtain ⟨e1, e2, e3, e4, e5, e6, e7⟩ := hSw; go_simp; try with_reducible rfl
        simp only [Act.put, List.getElem_toArray, List.getElem_cons_zero, List.getElem_cons_succ, List.setIfInBounds_toArray, List.set_cons_zero, List.set_cons_succ]
        refine Last.wpL_take (v := ?_) 27 rfl (by kernel_rfl) (by kernel_rfl) (by kernel_rfl) (by kernel_rfl) (fun _ _ _ h => h) (Or.inl ⟨by rfl, fun w' hSw => ?_⟩) hS ?_
        rotate_left 1
        · obtain ⟨e1, e2, e3, e4, e5, e6, e7⟩ := hSw; go_simp; try with_reducible rfl
        simp only [Act.put, List.getElem_toArray, List.getElem_cons_zero, List.getElem_cons_succ, List.setIfInBounds_toArray, List.set_cons_zero, List.set_cons_succ]
        refine Last.wpL_take (v := ?_) 28 rfl (by kernel_rfl) (by kernel_rfl) (by kernel_rfl) (by kernel_rfl) (fun _ _ _ h => h) (Or.inl ⟨by rfl, fun w' hSw => ?_⟩) hS ?_
        rotate_left 1
        · obtain ⟨e1, e2, e3, e4, e5, e6, e7⟩ := hSw; go_simp; try with_reducible rfl
        simp only [Act.put, List.getElem_toArray, List.getElem_cons_zero, List.getElem_cons_succ, List.setIfInBounds_toArray, List.set_cons_zero, List.set_cons_succ]
        refine Last.wpL_take (v := ?_) 29 rfl (by kernel_rfl) (by kernel_rfl) (by kernel_rfl) (by kernel_rfl) (fun _ _ _ h => h) (Or.inl ⟨by rfl, fun w' hSw => ?_⟩) hS ?_
        rotate_left 1
        · obtain ⟨e1, e2, e3, e4, e5, e6, e7⟩ := hSw; go_simp; try with_reducible rfl
        simp only [Act.put, List.getElem_toArray, List.getElem_cons_zero, List.getElem_cons_succ, List.setIfInBounds_toArray, List.set_cons_zero, List.set_cons_succ]
        refine Last.wpL_take (v := ?_) 30 rfl (by kernel_rfl) (by kernel_rfl) (by kernel_rfl) (by kernel_rfl) (fun _ _ _ h => h) (Or.inl ⟨by rfl, fun w' hSw => ?_⟩) hS ?_
        rotate_left 1
        · obtain ⟨e1, e2, e3, e4, e5, e6, e7⟩ := hSw; go_simp; try with_reducible rfl
        simp only [Act.put, List.getElem_toArray, List.getElem_cons_zero, List.getElem_cons_succ, List.setIfInBounds_toArray, List.set_cons_zero, List.set_cons_succ]
        refine Last.wpL_take (v := ?_) 31 rfl (by kernel_rfl) (by kernel_rfl) (by kernel_rfl) (by kernel_rfl) (fun _ _ _ h => h) (Or.inl ⟨by rfl, fun w' hSw => ?_⟩) hS ?_
        rotate_left 1
        · obtain ⟨e1, e2, e3, e4, e5, e6, e7⟩ := hSw; go_simp; try with_reducible rfl
        simp only [Act.put, List.getElem_toArray, List.getElem_cons_zero, List.getElem_cons_succ, List.setIfInBounds_toArray, List.set_cons_zero, List.set_cons_succ]
        refine Last.wpL_take (v := ?_) 32 rfl (by kernel_rfl) (by kernel_rfl) (by kernel_rfl) (by kernel_rfl) (fun _ _ _ h => h) (Or.inl ⟨by rfl, fun w' hSw => ?_⟩) hS ?_
        rotate_left 1
        · obtain ⟨e1, e2, e3, e4, e5, e6, e7⟩ := hSw; go_simp; try with_reducible rfl
        simp only [Act.put, List.getElem_toArray, List.getElem_cons_zero, List.getElem_cons_succ, List.setIfInBounds_toArray, List.set_cons_zero, List.set_cons_succ]
        refine Last.wpL_take (v := ?_) 33 rfl (by kernel_rfl) (by kernel_rfl) (by kernel_rfl) (by kernel_rfl) (fun _ _ _ h => h) (Or.inl ⟨by rfl, fun w' hSw => ?_⟩) hS ?_
        rotate_left 1
        · obtain ⟨e1, e2, e3, e4, e5, e6, e7⟩ := hSw; go_simp; try with_reducible rfl
        simp only [Act.put, List.getElem_toArray, List.getElem_cons_zero, List.getElem_cons_succ, List.setIfInBounds_toArray, List.set_cons_zero, List.set_cons_succ]
        refine Last.wpL_take (v := ?_) 34 rfl (by kernel_rfl) (by kernel_rfl) (by kernel_rfl) (by kernel_rfl) (fun _ _ _ h => h) (Or.inl ⟨by rfl, fun w' hSw => ?_⟩) hS ?_
        rotate_left 1
        · obtain ⟨e1, e2, e3, e4, e5, e6, e7⟩ := hSw; go_simp; try with_reducible rfl
        simp only [Act.put, List.getElem_toArray, List.getElem_cons_zero, List.getElem_cons_succ, List.setIfInBounds_toArray, List.set_cons_zero, List.set_cons_succ]
        obtain ⟨V1, hV1⟩ : ∃ V1, V1 = V.alloc (.cells #[.int .i64 t.id, .int .i64 t.submit, .int .i64 t.work, .int .i64 t.count, .int .i64 t.pushed] 78) := ⟨_, rfl⟩
        have hbs : (Instr.buildSlice 76 1 #[(0, .agg #[.int .i64 t.id, .int .i64 t.submit, .int .i64 t.work, .int .i64 t.count, .int .i64 t.pushed])]).run Try.prog V = .ok (.slice (some ⟨V.heap.size, 0, none⟩) 1 1) V1 := by rw [hV1]; go_simp
        have hcV : ∀ b o c, V.cell? ⟨b, o, none⟩ = some c → V1.cell? ⟨b, o, none⟩ = some c := by
          intro b o c h
          rw [hV1, World.cell?_alloc_past _ _ _ (by simpa using block_lt_of_cell h)]
          exact h
        obtain ⟨e1, e2, e3, e4, e5, e6, e7⟩ := hS
        have hS1 := And.intro (hcV _ _ _ e1) (And.intro (hcV _ _ _ e2) (And.intro (hcV _ _ _ e3) (And.intro (hcV _ _ _ e4) (And.intro (hcV _ _ _ e5) (And.intro (hcV _ _ _ e6) (hcV _ _ _ e7))))))
        clear e1 e3 e4 e5 e6 e7 hSV hcV
        refine Last.wpL_one 35 rfl rfl (by kernel_rfl) (fun K hK => ?_)
        refine wp_value (v := .slice (some ⟨V.heap.size, 0, none⟩) 1 1) (w' := V1) ?_ (hK _ _ hS1 ?_)
        · go_simp
        clear hK K
        simp only [Act.put, List.getElem_toArray, List.getElem_cons_zero, List.getElem_cons_succ, List.setIfInBounds_toArray, List.set_cons_zero, List.set_cons_succ]
        have sV : W0.heap.size ≤ V.heap.size := bel0.size
        have o1 : ∀ k, k < V.heap.size → V1.heap[k]? = V.heap[k]? := fun k hk => by rw [hV1, heap_alloc_old _ _ hk]
        have cV1 : V1.heap[V.heap.size]? = some (.cells #[.int .i64 t.id, .int .i64 t.submit, .int .i64 t.work, .int .i64 t.count, .int .i64 t.pushed] 78) := by rw [hV1, heap_new]
        have thB : V1.there B 0 5120 := there_same (o1 B (by omega)) hth0
        have fg1 : V1.frozen? ⟨g, p, none⟩ = false := (World.frozen?_of_block (w := V) (a := ⟨g, p, none⟩) (o1 g (by omega))).trans kgf0
        have belV1 : Below W0.heap.size W0 V1 := by rw [hV1]; exact bel0.alloc sV _
        have happ : (Builtin.append_ #[76, 76] 76 #[.slice (some ⟨B, 0, none⟩) r 1024, .slice (some ⟨V.heap.size, 0, none⟩) 1 1]).run Try.prog V1 = .ok (.slice (some ⟨B, 0, none⟩) (r + 1) 1024) (V1.setCells B (r * 5) t.cs) := by
          have := run_append_room_cells (P := Try.prog) V1 76 76 78 i78 Try.underlying76 hi78 B 0 r 1024 ⟨V.heap.size, 0, none⟩ 1 1 t.cs (by rw [hs78]; rfl) ?_ ?_ (by omega) ?_ ?_
          · rw [hs78, Nat.zero_add] at this; exact this
          · intro j u hj
            have e : (⟨V.heap.size, 0, none⟩ : Addr).add j = ⟨V.heap.size, j, none⟩ := by
              simp only [Addr.add, Nat.zero_add]
              split
              · rename_i h; rw [h]
              · rfl
            rw [e, cell_of_row _ _ _ _ _ _ cV1]
            simpa [Task.cs] using hj
          · intro u hu
            simp only [Task.cs, List.mem_cons, List.not_mem_nil, or_false] at hu
            rcases hu with rfl | rfl | rfl | rfl | rfl <;> rfl
          · intro j hj
            rw [Task.len] at hj
            rw [hs78]
            have := (thB (r * 5 + j) (by omega)).1
            rwa [show 0 + (r * 5 + j) = 0 + r * 5 + j by omega] at this
          · intro j hj
            rw [Task.len] at hj
            rw [hs78]
            have := (thB (r * 5 + j) (by omega)).2
            rwa [show 0 + (r * 5 + j) = 0 + r * 5 + j by omega] at this
        obtain ⟨V2, hV2⟩ : ∃ V2, V2 = V1.setCells B (r * 5) t.cs := ⟨_, rfl⟩
        rw [← hV2] at happ
        obtain ⟨f1, f2, f3, f4, f5, f6, f7⟩ := hS1
        have hc2 : ∀ b o c, b ≠ B → V1.cell? ⟨b, o, none⟩ = some c → V2.cell? ⟨b, o, none⟩ = some c := fun b o c hb h => by rw [hV2]; exact csets h _ (.inl hb)
        have g2 := hc2 _ _ _ gpb f2
        have hS2 := And.intro (hc2 _ _ _ (by omega) f1) (And.intro g2 (And.intro (hc2 _ _ _ (by omega) f3) (And.intro (hc2 _ _ _ (by omega) f4) (And.intro (hc2 _ _ _ (by omega) f5) (And.intro (hc2 _ _ _ (by omega) f6) (hc2 _ _ _ (by omega) f7))))))
        have fg2 : V2.frozen? ⟨g, p, none⟩ = false := by rw [hV2, World.frozen?_setCells]; exact fg1
        have PT2 := PT (W1 := V1) (W2 := V2) belV1 hV2 rfl
        clear f1 f2 f3 f4 f5 f6 f7 hc2 hbs hV1 hV2 hth0 thB fg1 e2 cV1 o1 PT belV1 kgf0
        refine Last.wpL_one 36 rfl rfl (by kernel_rfl) (fun K hK => ?_)
        refine wp_append (.tmp 68) (.tmp 90) 76 rfl ?hs36 ?hx36 happ (hK _ _ hS2 ?_)
        (case hs36 => (simp [Act.eval]; done))
        (case hx36 => (simp [Act.eval]; done))
        clear hK K happ
        simp only [Act.put, List.getElem_toArray, List.getElem_cons_zero, List.getElem_cons_succ, List.setIfInBounds_toArray, List.set_cons_zero, List.set_cons_succ]
        refine Last.wpL_one 37 rfl rfl (by kernel_rfl) (fun K hK => ?_)
        refine wp_value (v := .pointer (some ⟨g, p, none⟩)) (w' := V2) ?_ (hK _ _ hS2 ?_)
        · go_simp
        clear hK K
        simp only [Act.put, List.getElem_toArray, List.getElem_cons_zero, List.getElem_cons_succ, List.setIfInBounds_toArray, List.set_cons_zero, List.set_cons_succ]
        refine Last.wpL_last rfl rfl (by kernel_rfl) (by kernel_rfl) (fun K hK => ?_)
        refine wp_skip (w' := V2.setCell ⟨g, p, none⟩ (.slice (some ⟨B, 0, none⟩) (r + 1) 1024)) ?_ (hK _ _ ?_)
        · go_simp
        clear hK K hS2 fg2 g2
        simp only [Act.put, List.getElem_toArray, List.getElem_cons_zero, List.getElem_cons_succ, List.setIfInBounds_toArray, List.set_cons_zero, List.set_cons_succ]
        generalize V2.setCell ⟨g, p, none⟩ (.slice (some ⟨B, 0, none⟩) (r + 1) 1024) = V3 at *
        subst hq
        go_wp2
        go_roundw
        case rel => exact ⟨i + 1, by omega, by go_num, _, _, _, PT2⟩
        case measure => simp [intOf]; omega
      · have hnr : ¬ (i : Int) % 1024 = 0 := hr
        generalize hq : w.heap.size = q at *
        have P3 : Part w wr pa cap pb (i / 1024 + 1) i T (.slice la ll lc) held waiting first := by
          rwa [show pgs i = i / 1024 + 1 by unfold pgs; omega] at P0
        clear P0
        generalize hpb0 : pb = pb0 at *
        generalize hcap0 : cap = cap0 at *
        generalize hW0 : wr = W0 at *
        clear hpb0
        obtain ⟨g, rfl, hgq, hgs, _⟩ := P3.shape (by omega)
        have hPp := P3.pbr (i / 1024) (by omega)
        have hpth := P3.pth (i / 1024) (by omega)
        have k0 := P3.h0
        have kg : W0.cell? ⟨g, i / 1024, none⟩ = some (.slice (some ⟨pb0 (i / 1024), 0, none⟩) (i % 1024) 1024) := by
          rw [P3.own.cellAt (i / 1024) (by omega)]
          simp [pgv]
          omega
        have kgf : W0.frozen? ⟨g, i / 1024, none⟩ = false := P3.own.frozenAt _
        have d1 := (P3.bel.cell (p := ⟨b1, i, none⟩) (block_lt_of_cell (I1 i hlt))).trans (I1 i hlt)
        have d2 := (P3.bel.cell (p := ⟨b2, i, none⟩) (block_lt_of_cell (I2 i hlt))).trans (I2 i hlt)
        have d3 := (P3.bel.cell (p := ⟨b3, i, none⟩) (block_lt_of_cell (I3 i hlt))).trans (I3 i hlt)
        have d4 := (P3.bel.cell (p := ⟨b4, i, none⟩) (block_lt_of_cell (I4 i hlt))).trans (I4 i hlt)
        have d5 := (P3.bel.cell (p := ⟨b5, i, none⟩) (block_lt_of_cell (I5 i hlt))).trans (I5 i hlt)
        have PT : ∀ {W1 W2 W3 : World}, Below W0.heap.size W0 W1 → W2 = W1.setCells (pb0 (i / 1024)) (i % 1024 * 5) (T i).cs → W3 = W2.setCell ⟨g, i / 1024, none⟩ (.slice (some ⟨pb0 (i / 1024), 0, none⟩) (i % 1024 + 1) 1024) → Part w W3 (some ⟨g, 0, none⟩) cap0 pb0 (pgs (i + 1)) (i + 1) T (.slice la ll lc) held waiting first := fun hb1 hb2 hb3 => by
          have := P3.newTask rfl hb1 hb2 hb3
          rwa [show i / 1024 + 1 = pgs (i + 1) by unfold pgs; omega] at this
        clear P3
        have hpr : i % 1024 < 1024 := by omega
        rw [hq] at k0 hgq
        have gpb : g ≠ pb0 (i / 1024) := fun e => hPp.2.2 (by rw [e])
        generalize hB : pb0 (i / 1024) = B at *
        generalize hp : i / 1024 = p at *
        generalize hrr : i % 1024 = r at *
        have Hp : Hid (i / 1024 = p) := hp
        have Hr : Hid (i % 1024 = r) := hrr
        clear hp hrr hB
        have hp64 : p ≤ 65536 := by have : i / 1024 = p := Hp; omega
        go_wp2_with fail
        have n1 := block_lt_of_cell (I1 i hlt)
        have n2 := block_lt_of_cell (I2 i hlt)
        have n3 := block_lt_of_cell (I3 i hlt)
        have n4 := block_lt_of_cell (I4 i hlt)
        have n5 := block_lt_of_cell (I5 i hlt)
        simp only at n1 n2 n3 n4 n5
        clear I1 I2 I3 I4 I5
        have hpp : (p : Int) < (p : Int) + 1 := by omega
        have hpi : (0 : Int) ≤ (p : Int) := by omega
        obtain ⟨t, ht⟩ : ∃ t, t = T i := ⟨_, rfl⟩
        rw [← ht] at d1 d2 d3 d4 d5 PT
        have bel0 : Below W0.heap.size W0 W0.drew := (Below.refl _ _).drew
        have hS0 : ∀ W, W = W0.drew → W.cell? ⟨q, 0, none⟩ = some (.slice (some ⟨g, 0, none⟩) (p + 1) cap0) ∧ W.cell? ⟨g, p, none⟩ = some (.slice (some ⟨B, 0, none⟩) r 1024) ∧ W.cell? ⟨b1, i, none⟩ = some (.int .i64 t.id) ∧ W.cell? ⟨b2, i, none⟩ = some (.int .i64 t.submit) ∧ W.cell? ⟨b3, i, none⟩ = some (.int .i64 t.work) ∧ W.cell? ⟨b4, i, none⟩ = some (.int .i64 t.count) ∧ W.cell? ⟨b5, i, none⟩ = some (.int .i64 t.pushed) := by rintro W rfl; exact ⟨k0, kg, d1, d2, d3, d4, d5⟩
        have hth0 : W0.drew.there B 0 5120 := hpth
        have kgf0 : W0.drew.frozen? ⟨g, p, none⟩ = false := kgf
        generalize hV : W0.drew = V at hS0 bel0 hth0 kgf0
        have hSV := hS0 V rfl
        clear hS0 k0 kg d1 d2 d3 d4 d5 kgf hpth
        refine Last.wp_region_last 38 (fun W => W.cell? ⟨q, 0, none⟩ = some (.slice (some ⟨g, 0, none⟩) (p + 1) cap0) ∧ W.cell? ⟨g, p, none⟩ = some (.slice (some ⟨B, 0, none⟩) r 1024) ∧ W.cell? ⟨b1, i, none⟩ = some (.int .i64 t.id) ∧ W.cell? ⟨b2, i, none⟩ = some (.int .i64 t.submit) ∧ W.cell? ⟨b3, i, none⟩ = some (.int .i64 t.work) ∧ W.cell? ⟨b4, i, none⟩ = some (.int .i64 t.count) ∧ W.cell? ⟨b5, i, none⟩ = some (.int .i64 t.pushed)) (by kernel_rfl) (by rw [hV]; exact hSV) (fun hS => ?_)
        rw [hV] at hS ⊢
        refine Last.wpL_take (v := ?_) 0 rfl (by kernel_rfl) (by kernel_rfl) (by kernel_rfl) (by kernel_rfl) (fun _ _ _ h => h) (Or.inl ⟨by rfl, fun w' hSw => ?_⟩) hS ?_
        rotate_left 1
        · obtain ⟨e1, e2, e3, e4, e5, e6, e7⟩ := hSw; go_simp; try with_reducible rfl
        simp only [Act.put, List.getElem_toArray, List.getElem_cons_zero, List.getElem_cons_succ, List.setIfInBounds_toArray, List.set_cons_zero, List.set_cons_succ]
        refine Last.wpL_take (v := ?_) 1 rfl (by kernel_rfl) (by kernel_rfl) (by kernel_rfl) (by kernel_rfl) (fun _ _ _ h => h) (Or.inl ⟨by rfl, fun w' hSw => ?_⟩) hS ?_
        rotate_left 1
        · obtain ⟨e1, e2, e3, e4, e5, e6, e7⟩ := hSw; go_simp; try with_reducible rfl
        simp only [Act.put, List.getElem_toArray, List.getElem_cons_zero, List.getElem_cons_succ, List.setIfInBounds_toArray, List.set_cons_zero, List.set_cons_succ]
        refine Last.wpL_take (v := ?_) 2 rfl (by kernel_rfl) (by kernel_rfl) (by kernel_rfl) (by kernel_rfl) (fun _ _ _ h => h) (Or.inl ⟨by rfl, fun w' hSw => ?_⟩) hS ?_
        rotate_left 1
        · obtain ⟨e1, e2, e3, e4, e5, e6, e7⟩ := hSw; go_simp; try with_reducible rfl
        simp only [Act.put, List.getElem_toArray, List.getElem_cons_zero, List.getElem_cons_succ, List.setIfInBounds_toArray, List.set_cons_zero, List.set_cons_succ]
        refine Last.wpL_take (v := ?_) 3 rfl (by kernel_rfl) (by kernel_rfl) (by kernel_rfl) (by kernel_rfl) (fun _ _ _ h => h) (Or.inl ⟨by rfl, fun w' hSw => ?_⟩) hS ?_
        rotate_left 1
        · obtain ⟨e1, e2, e3, e4, e5, e6, e7⟩ := hSw; go_simp; try with_reducible rfl
        simp only [Act.put, List.getElem_toArray, List.getElem_cons_zero, List.getElem_cons_succ, List.setIfInBounds_toArray, List.set_cons_zero, List.set_cons_succ]
        refine Last.wpL_take (v := ?_) 4 rfl (by kernel_rfl) (by kernel_rfl) (by kernel_rfl) (by kernel_rfl) (fun _ _ _ h => h) (Or.inl ⟨by rfl, fun w' hSw => ?_⟩) hS ?_
        rotate_left 1
        · obtain ⟨e1, e2, e3, e4, e5, e6, e7⟩ := hSw; go_simp; try with_reducible rfl
        simp only [Act.put, List.getElem_toArray, List.getElem_cons_zero, List.getElem_cons_succ, List.setIfInBounds_toArray, List.set_cons_zero, List.set_cons_succ]
        refine Last.wpL_take (v := ?_) 5 rfl (by kernel_rfl) (by kernel_rfl) (by kernel_rfl) (by kernel_rfl) (fun _ _ _ h => h) (Or.inl ⟨by rfl, fun w' hSw => ?_⟩) hS ?_
        rotate_left 1
        · obtain ⟨e1, e2, e3, e4, e5, e6, e7⟩ := hSw; go_simp; try with_reducible rfl
        simp only [Act.put, List.getElem_toArray, List.getElem_cons_zero, List.getElem_cons_succ, List.setIfInBounds_toArray, List.set_cons_zero, List.set_cons_succ]
        refine Last.wpL_take (v := ?_) 6 rfl (by kernel_rfl) (by kernel_rfl) (by kernel_rfl) (by kernel_rfl) (fun _ _ _ h => h) (Or.inl ⟨by rfl, fun w' hSw => ?_⟩) hS ?_
        rotate_left 1
        · obtain ⟨e1, e2, e3, e4, e5, e6, e7⟩ := hSw; go_simp; try with_reducible rfl
        simp only [Act.put, List.getElem_toArray, List.getElem_cons_zero, List.getElem_cons_succ, List.setIfInBounds_toArray, List.set_cons_zero, List.set_cons_succ]
        refine Last.wpL_take (v := ?_) 7 rfl (by kernel_rfl) (by kernel_rfl) (by kernel_rfl) (by kernel_rfl) (fun _ _ _ h => h) (Or.inl ⟨by rfl, fun w' hSw => ?_⟩) hS ?_
        rotate_left 1
        · obtain ⟨e1, e2, e3, e4, e5, e6, e7⟩ := hSw; go_simp; try with_reducible rfl
        simp only [Act.put, List.getElem_toArray, List.getElem_cons_zero, List.getElem_cons_succ, List.setIfInBounds_toArray, List.set_cons_zero, List.set_cons_succ]
        refine Last.wpL_take (v := ?_) 8 rfl (by kernel_rfl) (by kernel_rfl) (by kernel_rfl) (by kernel_rfl) (fun _ _ _ h => h) (Or.inl ⟨by rfl, fun w' hSw => ?_⟩) hS ?_
        rotate_left 1
        · obtain ⟨e1, e2, e3, e4, e5, e6, e7⟩ := hSw; go_simp; try with_reducible rfl
        simp only [Act.put, List.getElem_toArray, List.getElem_cons_zero, List.getElem_cons_succ, List.setIfInBounds_toArray, List.set_cons_zero, List.set_cons_succ]
        refine Last.wpL_take (v := ?_) 9 rfl (by kernel_rfl) (by kernel_rfl) (by kernel_rfl) (by kernel_rfl) (fun _ _ _ h => h) (Or.inl ⟨by rfl, fun w' hSw => ?_⟩) hS ?_
        rotate_left 1
        · obtain ⟨e1, e2, e3, e4, e5, e6, e7⟩ := hSw; go_simp; try with_reducible rfl
        simp only [Act.put, List.getElem_toArray, List.getElem_cons_zero, List.getElem_cons_succ, List.setIfInBounds_toArray, List.set_cons_zero, List.set_cons_succ]
        refine Last.wpL_take (v := ?_) 10 rfl (by kernel_rfl) (by kernel_rfl) (by kernel_rfl) (by kernel_rfl) (fun _ _ _ h => h) (Or.inl ⟨by rfl, fun w' hSw => ?_⟩) hS ?_
        rotate_left 1
        · obtain ⟨e1, e2, e3, e4, e5, e6, e7⟩ := hSw; go_simp; try with_reducible rfl
        simp only [Act.put, List.getElem_toArray, List.getElem_cons_zero, List.getElem_cons_succ, List.setIfInBounds_toArray, List.set_cons_zero, List.set_cons_succ]
        refine Last.wpL_take (v := ?_) 11 rfl (by kernel_rfl) (by kernel_rfl) (by kernel_rfl) (by kernel_rfl) (fun _ _ _ h => h) (Or.inl ⟨by rfl, fun w' hSw => ?_⟩) hS ?_
        rotate_left 1
        · obtain ⟨e1, e2, e3, e4, e5, e6, e7⟩ := hSw; go_simp; try with_reducible rfl
        simp only [Act.put, List.getElem_toArray, List.getElem_cons_zero, List.getElem_cons_succ, List.setIfInBounds_toArray, List.set_cons_zero, List.set_cons_succ]
        refine Last.wpL_take (v := ?_) 12 rfl (by kernel_rfl) (by kernel_rfl) (by kernel_rfl) (by kernel_rfl) (fun _ _ _ h => h) (Or.inl ⟨by rfl, fun w' hSw => ?_⟩) hS ?_
        rotate_left 1
        · obtain ⟨e1, e2, e3, e4, e5, e6, e7⟩ := hSw; go_simp; try with_reducible rfl
        simp only [Act.put, List.getElem_toArray, List.getElem_cons_zero, List.getElem_cons_succ, List.setIfInBounds_toArray, List.set_cons_zero, List.set_cons_succ]
        refine Last.wpL_take (v := ?_) 13 rfl (by kernel_rfl) (by kernel_rfl) (by kernel_rfl) (by kernel_rfl) (fun _ _ _ h => h) (Or.inl ⟨by rfl, fun w' hSw => ?_⟩) hS ?_
        rotate_left 1
        · obtain ⟨e1, e2, e3, e4, e5, e6, e7⟩ := hSw; go_simp; try with_reducible rfl
        simp only [Act.put, List.getElem_toArray, List.getElem_cons_zero, List.getElem_cons_succ, List.setIfInBounds_toArray, List.set_cons_zero, List.set_cons_succ]
        refine Last.wpL_take (v := ?_) 14 rfl (by kernel_rfl) (by kernel_rfl) (by kernel_rfl) (by kernel_rfl) (fun _ _ _ h => h) (Or.inl ⟨by rfl, fun w' hSw => ?_⟩) hS ?_
        rotate_left 1
        · obtain ⟨e1, e2, e3, e4, e5, e6, e7⟩ := hSw; go_simp; try with_reducible rfl
        simp only [Act.put, List.getElem_toArray, List.getElem_cons_zero, List.getElem_cons_succ, List.setIfInBounds_toArray, List.set_cons_zero, List.set_cons_succ]
        refine Last.wpL_take (v := ?_) 15 rfl (by kernel_rfl) (by kernel_rfl) (by kernel_rfl) (by kernel_rfl) (fun _ _ _ h => h) (Or.inl ⟨by rfl, fun w' hSw => ?_⟩) hS ?_
        rotate_left 1
        · obtain ⟨e1, e2, e3, e4, e5, e6, e7⟩ := hSw; go_simp; try with_reducible rfl
        simp only [Act.put, List.getElem_toArray, List.getElem_cons_zero, List.getElem_cons_succ, List.setIfInBounds_toArray, List.set_cons_zero, List.set_cons_succ]
        refine Last.wpL_take (v := ?_) 16 rfl (by kernel_rfl) (by kernel_rfl) (by kernel_rfl) (by kernel_rfl) (fun _ _ _ h => h) (Or.inl ⟨by rfl, fun w' hSw => ?_⟩) hS ?_
        rotate_left 1
        · obtain ⟨e1, e2, e3, e4, e5, e6, e7⟩ := hSw; go_simp; try with_reducible rfl
        simp only [Act.put, List.getElem_toArray, List.getElem_cons_zero, List.getElem_cons_succ, List.setIfInBounds_toArray, List.set_cons_zero, List.set_cons_succ]
        refine Last.wpL_take (v := ?_) 17 rfl (by kernel_rfl) (by kernel_rfl) (by kernel_rfl) (by kernel_rfl) (fun _ _ _ h => h) (Or.inl ⟨by rfl, fun w' hSw => ?_⟩) hS ?_
        rotate_left 1
        · obtain ⟨e1, e2, e3, e4, e5, e6, e7⟩ := hSw; go_simp; try with_reducible rfl
        simp only [Act.put, List.getElem_toArray, List.getElem_cons_zero, List.getElem_cons_succ, List.setIfInBounds_toArray, List.set_cons_zero, List.set_cons_succ]
        refine Last.wpL_take (v := ?_) 18 rfl (by kernel_rfl) (by kernel_rfl) (by kernel_rfl) (by kernel_rfl) (fun _ _ _ h => h) (Or.inl ⟨by rfl, fun w' hSw => ?_⟩) hS ?_
        rotate_left 1
        · obtain ⟨e1, e2, e3, e4, e5, e6, e7⟩ := hSw; go_simp; try with_reducible rfl
        simp only [Act.put, List.getElem_toArray, List.getElem_cons_zero, List.getElem_cons_succ, List.setIfInBounds_toArray, List.set_cons_zero, List.set_cons_succ]
        refine Last.wpL_take (v := ?_) 19 rfl (by kernel_rfl) (by kernel_rfl) (by kernel_rfl) (by kernel_rfl) (fun _ _ _ h => h) (Or.inl ⟨by rfl, fun w' hSw => ?_⟩) hS ?_
        rotate_left 1
        · obtain ⟨e1, e2, e3, e4, e5, e6, e7⟩ := hSw; go_simp; try with_reducible rfl
        simp only [Act.put, List.getElem_toArray, List.getElem_cons_zero, List.getElem_cons_succ, List.setIfInBounds_toArray, List.set_cons_zero, List.set_cons_succ]
        refine Last.wpL_take (v := ?_) 20 rfl (by kernel_rfl) (by kernel_rfl) (by kernel_rfl) (by kernel_rfl) (fun _ _ _ h => h) (Or.inl ⟨by rfl, fun w' hSw => ?_⟩) hS ?_
        rotate_left 1
        · obtain ⟨e1, e2, e3, e4, e5, e6, e7⟩ := hSw; go_simp; try with_reducible rfl
        simp only [Act.put, List.getElem_toArray, List.getElem_cons_zero, List.getElem_cons_succ, List.setIfInBounds_toArray, List.set_cons_zero, List.set_cons_succ]
        refine Last.wpL_take (v := ?_) 21 rfl (by kernel_rfl) (by kernel_rfl) (by kernel_rfl) (by kernel_rfl) (fun _ _ _ h => h) (Or.inl ⟨by rfl, fun w' hSw => ?_⟩) hS ?_
        rotate_left 1
        · obtain ⟨e1, e2, e3, e4, e5, e6, e7⟩ := hSw; go_simp; try with_reducible rfl
        simp only [Act.put, List.getElem_toArray, List.getElem_cons_zero, List.getElem_cons_succ, List.setIfInBounds_toArray, List.set_cons_zero, List.set_cons_succ]
        refine Last.wpL_take (v := ?_) 22 rfl (by kernel_rfl) (by kernel_rfl) (by kernel_rfl) (by kernel_rfl) (fun _ _ _ h => h) (Or.inl ⟨by rfl, fun w' hSw => ?_⟩) hS ?_
        rotate_left 1
        · obtain ⟨e1, e2, e3, e4, e5, e6, e7⟩ := hSw; go_simp; try with_reducible rfl
        simp only [Act.put, List.getElem_toArray, List.getElem_cons_zero, List.getElem_cons_succ, List.setIfInBounds_toArray, List.set_cons_zero, List.set_cons_succ]
        refine Last.wpL_take (v := ?_) 23 rfl (by kernel_rfl) (by kernel_rfl) (by kernel_rfl) (by kernel_rfl) (fun _ _ _ h => h) (Or.inl ⟨by rfl, fun w' hSw => ?_⟩) hS ?_
        rotate_left 1
        · obtain ⟨e1, e2, e3, e4, e5, e6, e7⟩ := hSw; go_simp; try with_reducible rfl
        simp only [Act.put, List.getElem_toArray, List.getElem_cons_zero, List.getElem_cons_succ, List.setIfInBounds_toArray, List.set_cons_zero, List.set_cons_succ]
        refine Last.wpL_take (v := ?_) 24 rfl (by kernel_rfl) (by kernel_rfl) (by kernel_rfl) (by kernel_rfl) (fun _ _ _ h => h) (Or.inl ⟨by rfl, fun w' hSw => ?_⟩) hS ?_
        rotate_left 1
        · obtain ⟨e1, e2, e3, e4, e5, e6, e7⟩ := hSw; go_simp; try with_reducible rfl
        simp only [Act.put, List.getElem_toArray, List.getElem_cons_zero, List.getElem_cons_succ, List.setIfInBounds_toArray, List.set_cons_zero, List.set_cons_succ]
        refine Last.wpL_take (v := ?_) 25 rfl (by kernel_rfl) (by kernel_rfl) (by kernel_rfl) (by kernel_rfl) (fun _ _ _ h => h) (Or.inl ⟨by rfl, fun w' hSw => ?_⟩) hS ?_
        rotate_left 1
        · obtain ⟨e1, e2, e3, e4, e5, e6, e7⟩ := hSw; go_simp; try with_reducible rfl
        simp only [Act.put, List.getElem_toArray, List.getElem_cons_zero, List.getElem_cons_succ, List.setIfInBounds_toArray, List.set_cons_zero, List.set_cons_succ]
        refine Last.wpL_take (v := ?_) 26 rfl (by kernel_rfl) (by kernel_rfl) (by kernel_rfl) (by kernel_rfl) (fun _ _ _ h => h) (Or.inl ⟨by rfl, fun w' hSw => ?_⟩) hS ?_
        rotate_left 1
        · obtain ⟨e1, e2, e3, e4, e5, e6, e7⟩ := hSw; go_simp; try with_reducible rfl
        simp only [Act.put, List.getElem_toArray, List.getElem_cons_zero, List.getElem_cons_succ, List.setIfInBounds_toArray, List.set_cons_zero, List.set_cons_succ]
        refine Last.wpL_take (v := ?_) 27 rfl (by kernel_rfl) (by kernel_rfl) (by kernel_rfl) (by kernel_rfl) (fun _ _ _ h => h) (Or.inl ⟨by rfl, fun w' hSw => ?_⟩) hS ?_
        rotate_left 1
        · obtain ⟨e1, e2, e3, e4, e5, e6, e7⟩ := hSw; go_simp; try with_reducible rfl
        simp only [Act.put, List.getElem_toArray, List.getElem_cons_zero, List.getElem_cons_succ, List.setIfInBounds_toArray, List.set_cons_zero, List.set_cons_succ]
        refine Last.wpL_take (v := ?_) 28 rfl (by kernel_rfl) (by kernel_rfl) (by kernel_rfl) (by kernel_rfl) (fun _ _ _ h => h) (Or.inl ⟨by rfl, fun w' hSw => ?_⟩) hS ?_
        rotate_left 1
        · obtain ⟨e1, e2, e3, e4, e5, e6, e7⟩ := hSw; go_simp; try with_reducible rfl
        simp only [Act.put, List.getElem_toArray, List.getElem_cons_zero, List.getElem_cons_succ, List.setIfInBounds_toArray, List.set_cons_zero, List.set_cons_succ]
        refine Last.wpL_take (v := ?_) 29 rfl (by kernel_rfl) (by kernel_rfl) (by kernel_rfl) (by kernel_rfl) (fun _ _ _ h => h) (Or.inl ⟨by rfl, fun w' hSw => ?_⟩) hS ?_
        rotate_left 1
        · obtain ⟨e1, e2, e3, e4, e5, e6, e7⟩ := hSw; go_simp; try with_reducible rfl
        simp only [Act.put, List.getElem_toArray, List.getElem_cons_zero, List.getElem_cons_succ, List.setIfInBounds_toArray, List.set_cons_zero, List.set_cons_succ]
        refine Last.wpL_take (v := ?_) 30 rfl (by kernel_rfl) (by kernel_rfl) (by kernel_rfl) (by kernel_rfl) (fun _ _ _ h => h) (Or.inl ⟨by rfl, fun w' hSw => ?_⟩) hS ?_
        rotate_left 1
        · obtain ⟨e1, e2, e3, e4, e5, e6, e7⟩ := hSw; go_simp; try with_reducible rfl
        simp only [Act.put, List.getElem_toArray, List.getElem_cons_zero, List.getElem_cons_succ, List.setIfInBounds_toArray, List.set_cons_zero, List.set_cons_succ]
        refine Last.wpL_take (v := ?_) 31 rfl (by kernel_rfl) (by kernel_rfl) (by kernel_rfl) (by kernel_rfl) (fun _ _ _ h => h) (Or.inl ⟨by rfl, fun w' hSw => ?_⟩) hS ?_
        rotate_left 1
        · obtain ⟨e1, e2, e3, e4, e5, e6, e7⟩ := hSw; go_simp; try with_reducible rfl
        simp only [Act.put, List.getElem_toArray, List.getElem_cons_zero, List.getElem_cons_succ, List.setIfInBounds_toArray, List.set_cons_zero, List.set_cons_succ]
        refine Last.wpL_take (v := ?_) 32 rfl (by kernel_rfl) (by kernel_rfl) (by kernel_rfl) (by kernel_rfl) (fun _ _ _ h => h) (Or.inl ⟨by rfl, fun w' hSw => ?_⟩) hS ?_
        rotate_left 1
        · obtain ⟨e1, e2, e3, e4, e5, e6, e7⟩ := hSw; go_simp; try with_reducible rfl
        simp only [Act.put, List.getElem_toArray, List.getElem_cons_zero, List.getElem_cons_succ, List.setIfInBounds_toArray, List.set_cons_zero, List.set_cons_succ]
        refine Last.wpL_take (v := ?_) 33 rfl (by kernel_rfl) (by kernel_rfl) (by kernel_rfl) (by kernel_rfl) (fun _ _ _ h => h) (Or.inl ⟨by rfl, fun w' hSw => ?_⟩) hS ?_
        rotate_left 1
        · obtain ⟨e1, e2, e3, e4, e5, e6, e7⟩ := hSw; go_simp; try with_reducible rfl
        simp only [Act.put, List.getElem_toArray, List.getElem_cons_zero, List.getElem_cons_succ, List.setIfInBounds_toArray, List.set_cons_zero, List.set_cons_succ]
        refine Last.wpL_take (v := ?_) 34 rfl (by kernel_rfl) (by kernel_rfl) (by kernel_rfl) (by kernel_rfl) (fun _ _ _ h => h) (Or.inl ⟨by rfl, fun w' hSw => ?_⟩) hS ?_
        rotate_left 1
        · obtain ⟨e1, e2, e3, e4, e5, e6, e7⟩ := hSw; go_simp; try with_reducible rfl
        simp only [Act.put, List.getElem_toArray, List.getElem_cons_zero, List.getElem_cons_succ, List.setIfInBounds_toArray, List.set_cons_zero, List.set_cons_succ]
        obtain ⟨V1, hV1⟩ : ∃ V1, V1 = V.alloc (.cells #[.int .i64 t.id, .int .i64 t.submit, .int .i64 t.work, .int .i64 t.count, .int .i64 t.pushed] 78) := ⟨_, rfl⟩
        have hbs : (Instr.buildSlice 76 1 #[(0, .agg #[.int .i64 t.id, .int .i64 t.submit, .int .i64 t.work, .int .i64 t.count, .int .i64 t.pushed])]).run Try.prog V = .ok (.slice (some ⟨V.heap.size, 0, none⟩) 1 1) V1 := by rw [hV1]; go_simp
        have hcV : ∀ b o c, V.cell? ⟨b, o, none⟩ = some c → V1.cell? ⟨b, o, none⟩ = some c := by
          intro b o c h
          rw [hV1, World.cell?_alloc_past _ _ _ (by simpa using block_lt_of_cell h)]
          exact h
        obtain ⟨e1, e2, e3, e4, e5, e6, e7⟩ := hS
        have hS1 := And.intro (hcV _ _ _ e1) (And.intro (hcV _ _ _ e2) (And.intro (hcV _ _ _ e3) (And.intro (hcV _ _ _ e4) (And.intro (hcV _ _ _ e5) (And.intro (hcV _ _ _ e6) (hcV _ _ _ e7))))))
        clear e1 e3 e4 e5 e6 e7 hSV hcV
        refine Last.wpL_one 35 rfl rfl (by kernel_rfl) (fun K hK => ?_)
        refine wp_value (v := .slice (some ⟨V.heap.size, 0, none⟩) 1 1) (w' := V1) ?_ (hK _ _ hS1 ?_)
        · go_simp
        clear hK K
        simp only [Act.put, List.getElem_toArray, List.getElem_cons_zero, List.getElem_cons_succ, List.setIfInBounds_toArray, List.set_cons_zero, List.set_cons_succ]
        have sV : W0.heap.size ≤ V.heap.size := bel0.size
        have o1 : ∀ k, k < V.heap.size → V1.heap[k]? = V.heap[k]? := fun k hk => by rw [hV1, heap_alloc_old _ _ hk]
        have cV1 : V1.heap[V.heap.size]? = some (.cells #[.int .i64 t.id, .int .i64 t.submit, .int .i64 t.work, .int .i64 t.count, .int .i64 t.pushed] 78) := by rw [hV1, heap_new]
        have thB : V1.there B 0 5120 := there_same (o1 B (by omega)) hth0
        have fg1 : V1.frozen? ⟨g, p, none⟩ = false := (World.frozen?_of_block (w := V) (a := ⟨g, p, none⟩) (o1 g (by omega))).trans kgf0
        have belV1 : Below W0.heap.size W0 V1 := by rw [hV1]; exact bel0.alloc sV _
        have happ : (Builtin.append_ #[76, 76] 76 #[.slice (some ⟨B, 0, none⟩) r 1024, .slice (some ⟨V.heap.size, 0, none⟩) 1 1]).run Try.prog V1 = .ok (.slice (some ⟨B, 0, none⟩) (r + 1) 1024) (V1.setCells B (r * 5) t.cs) := by
          have := run_append_room_cells (P := Try.prog) V1 76 76 78 i78 Try.underlying76 hi78 B 0 r 1024 ⟨V.heap.size, 0, none⟩ 1 1 t.cs (by rw [hs78]; rfl) ?_ ?_ (by omega) ?_ ?_
          · rw [hs78, Nat.zero_add] at this; exact this
          · intro j u hj
            have e : (⟨V.heap.size, 0, none⟩ : Addr).add j = ⟨V.heap.size, j, none⟩ := by
              simp only [Addr.add, Nat.zero_add]
              split
              · rename_i h; rw [h]
              · rfl
            rw [e, cell_of_row _ _ _ _ _ _ cV1]
            simpa [Task.cs] using hj
          · intro u hu
            simp only [Task.cs, List.mem_cons, List.not_mem_nil, or_false] at hu
            rcases hu with rfl | rfl | rfl | rfl | rfl <;> rfl
          · intro j hj
            rw [Task.len] at hj
            rw [hs78]
            have := (thB (r * 5 + j) (by omega)).1
            rwa [show 0 + (r * 5 + j) = 0 + r * 5 + j by omega] at this
          · intro j hj
            rw [Task.len] at hj
            rw [hs78]
            have := (thB (r * 5 + j) (by omega)).2
            rwa [show 0 + (r * 5 + j) = 0 + r * 5 + j by omega] at this
        obtain ⟨V2, hV2⟩ : ∃ V2, V2 = V1.setCells B (r * 5) t.cs := ⟨_, rfl⟩
        rw [← hV2] at happ
        obtain ⟨f1, f2, f3, f4, f5, f6, f7⟩ := hS1
        have hc2 : ∀ b o c, b ≠ B → V1.cell? ⟨b, o, none⟩ = some c → V2.cell? ⟨b, o, none⟩ = some c := fun b o c hb h => by rw [hV2]; exact csets h _ (.inl hb)
        have g2 := hc2 _ _ _ gpb f2
        have hS2 := And.intro (hc2 _ _ _ (by omega) f1) (And.intro g2 (And.intro (hc2 _ _ _ (by omega) f3) (And.intro (hc2 _ _ _ (by omega) f4) (And.intro (hc2 _ _ _ (by omega) f5) (And.intro (hc2 _ _ _ (by omega) f6) (hc2 _ _ _ (by omega) f7))))))
        have fg2 : V2.frozen? ⟨g, p, none⟩ = false := by rw [hV2, World.frozen?_setCells]; exact fg1
        have PT2 := PT (W1 := V1) (W2 := V2) belV1 hV2 rfl
        clear f1 f2 f3 f4 f5 f6 f7 hc2 hbs hV1 hV2 hth0 thB fg1 e2 cV1 o1 PT belV1 kgf0
        refine Last.wpL_one 36 rfl rfl (by kernel_rfl) (fun K hK => ?_)
        refine wp_append (.tmp 68) (.tmp 90) 76 rfl ?hs36 ?hx36 happ (hK _ _ hS2 ?_)
        (case hs36 => (simp [Act.eval]; done))
        (case hx36 => (simp [Act.eval]; done))
        clear hK K happ
        simp only [Act.put, List.getElem_toArray, List.getElem_cons_zero, List.getElem_cons_succ, List.setIfInBounds_toArray, List.set_cons_zero, List.set_cons_succ]
        refine Last.wpL_one 37 rfl rfl (by kernel_rfl) (fun K hK => ?_)
        refine wp_value (v := .pointer (some ⟨g, p, none⟩)) (w' := V2) ?_ (hK _ _ hS2 ?_)
        · go_simp
        clear hK K
        simp only [Act.put, List.getElem_toArray, List.getElem_cons_zero, List.getElem_cons_succ, List.setIfInBounds_toArray, List.set_cons_zero, List.set_cons_succ]
        refine Last.wpL_last rfl rfl (by kernel_rfl) (by kernel_rfl) (fun K hK => ?_)
        refine wp_skip (w' := V2.setCell ⟨g, p, none⟩ (.slice (some ⟨B, 0, none⟩) (r + 1) 1024)) ?_ (hK _ _ ?_)
        · go_simp
        clear hK K hS2 fg2 g2
        simp only [Act.put, List.getElem_toArray, List.getElem_cons_zero, List.getElem_cons_succ, List.setIfInBounds_toArray, List.set_cons_zero, List.set_cons_succ]
        generalize V2.setCell ⟨g, p, none⟩ (.slice (some ⟨B, 0, none⟩) (r + 1) 1024) = V3 at *
        subst hq
        go_wp2
        go_roundw
        case rel => exact ⟨i + 1, by omega, by go_num, _, _, _, PT2⟩
        case measure => simp [intOf]; omega
    · have hin : i = n := by omega
      subst hin
      obtain ⟨g, hL⟩ := P0.line
      have bel := P0.bel
      have siz := P0.siz
      have e1 := P0.h1
      have f1 : wr.frozen? ⟨w.heap.size, 1, none⟩ = false := there_frozen P0.qth (Nat.zero_le _) (by decide)
      have hs : (wr.setCell ⟨w.heap.size, 1, none⟩ (.int .i64 i)).heap.size = wr.heap.size := size_setCell _ _ _
      have bel2 : Below w.heap.size w (wr.setCell ⟨w.heap.size, 1, none⟩ (.int .i64 i)) := bel.setCell (Nat.le_refl _) _
      clear P0
      go_wp2
      go_ret
      exact ⟨rfl, bel2, pa, g, cap, pb, by rw [hs]; exact hL⟩
end Go.Proofs.Qxb6609061a.Line
