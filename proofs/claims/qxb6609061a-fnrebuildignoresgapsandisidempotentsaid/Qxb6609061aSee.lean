/-
  ZZwaitLineView: what the view shows of a waitLine.
-/
import Derived.Test.Qxb6609061aView
namespace Go.Proofs.Qxb6609061a.Line
open Go.RowKit

def fldT (T : Nat → Task) (n : Nat) (F : Nat → Int) (f j : Nat) : Value :=
  match f with
  | 0 => .int .i64 (T j).id
  | 1 => .int .i64 (T j).submit
  | 2 => .int .i64 (T j).work
  | 3 => .int .i64 (T j).count
  | 4 => .int .i64 (T j).pushed
  | 5 => .int .u64 (F j)
  | _ => .int .i64 ((min 1024 (n - 1024 * j) : Nat) : Int)

def lvl (i k : Nat) (f : Nat) : Nat := if f < k then i + 1 else if f < 5 then i else 0

theorem upd_lvl (i k : Nat) (hk : k < 5) : upd (lvl i k) k (lvl i k k + 1) = lvl i (k + 1) := by
  funext f
  simp only [upd, lvl]
  split
  · subst f; simp
  · by_cases h : f < k
    · simp [h, show f < k + 1 by omega]
    · simp [h, show ¬ f < k + 1 by omega]

theorem lvl_zero : lvl 0 0 = fun _ => 0 := by
  funext f
  simp [lvl]

theorem lvl_next (i : Nat) : lvl i 5 = lvl (i + 1) 0 := by
  funext f
  simp only [lvl]
  by_cases h : f < 5 <;> simp [h]

section
variable {w : World} {lo hi q : Nat} {pa : Option Addr} {g cap : Nat} {pb : Nat → Nat} {n : Nat} {T : Nat → Task} {least : Value} {held waiting first : Int}

theorem wpList_append {P : Program} {ops : Array Oper} {rest : List Oper} {o : Oper} {a : Act} {w w' : World} {Q : Exit → Act → World → Prop} (hgd : o.guard = none) (s x : Operand) (t : TypeId) {v u v' : Value}
    (ho : o.op = .call { callee := .builtin .append, args := #[s, x], argTypes := #[t, t] }) (hs : a.eval s = v) (hx : a.eval x = u) (hr : (Builtin.append_ #[t, t] o.type #[v, u]).run P w = .ok v' w') (h : wpList P ops Q rest (a.put o.dst v') w') : wpList P ops Q (o :: rest) a w :=
  wpList_plain hgd fun _ hK => wp_append s x t ho hs hx hr (hK _ _ h)

/-- How many of each field, when k pages are told. -/
def lvB (n M k f : Nat) : Nat := if f < 5 then n else if f = 5 then M else if f = 6 then k else 0

theorem lvB_first (n M : Nat) : upd (lvl n 0) 5 (lvl n 0 5 + M) = lvB n M 0 := by
  funext f
  simp only [upd, lvl, lvB]
  by_cases h : f = 5
  · subst h; simp
  · by_cases h2 : f < 5
    · simp [h2, h]
    · simp [h2, h]

theorem lvB_next (n M k : Nat) : upd (lvB n M k) 6 (lvB n M k 6 + 1) = lvB n M (k + 1) := by
  funext f
  simp only [upd, lvB]
  by_cases h : f = 6
  · subst h; simp
  · simp [h]

/-- The oldest's own append: 'append([]uint64(nil), q.least...)'. -/
theorem Vw.fresh5 {wr : World} {vs : Nat → Value} {fld : Nat → Nat → Value} {lv : Nat → Nat} (h : Vw w wr fld vs lv) (h5 : lv 5 = 0) (m c b : Nat) (hm : 0 < m) (hl : m ≤ 1000000)
    (hc : ∀ j, j < m → wr.cell? ⟨b, j, none⟩ = some (fld 5 j)) (h1 : ∀ j, (fld 5 j).oneCell' = true) :
    ∃ (g' c' : Nat) (V2 : World), (Builtin.append_ #[24, 24] 24 #[.slice none 0 0, .slice (some ⟨b, 0, none⟩) m c]).run Try.prog wr = .ok (.slice (some ⟨g', 0, none⟩) m c') V2 ∧ (∃ u, V2.cell? ⟨w.heap.size + 1, 5, none⟩ = some u) ∧ V2.frozen? ⟨w.heap.size + 1, 5, none⟩ = false ∧
      Vw w (V2.setCell ⟨w.heap.size + 1, 5, none⟩ (.slice (some ⟨g', 0, none⟩) m c')) fld (upd vs 5 (.slice (some ⟨g', 0, none⟩) m c')) (upd lv 5 (lv 5 + m)) := by
  have hf : grows 5 := by unfold grows; decide
  obtain ⟨i0, z, hi, hz, hs, hb, hzs⟩ := info_et 5
  have hsz := h.siz
  obtain ⟨g, cap, V2, hr, own2, gr, hat, hg⟩ := run_append_lies (P := Try.prog) wr 24 24 (w.heap.size + 2) (et 5) i0 z 1 8 Try.underlying24 hi hz hs hb hzs (by decide) (.slice none 0 0) 0 [] (World.ownsRow_nil _ _ _ _) ⟨b, 0, none⟩ m c ((List.range m).map (fld 5)) (by simp)
    (by
      intro j u hj
      have hj2 : j < m := by
        have := (List.getElem?_eq_some_iff.1 hj).1
        simpa using this
      have e : (⟨b, 0, none⟩ : Addr).add j = ⟨b, j, none⟩ := by
        simp only [Addr.add, Nat.zero_add]
        split
        · rename_i h; rw [h]
        · rfl
      rw [e, hc j hj2]
      simpa [hj2] using hj)
    (by
      intro u hu
      obtain ⟨j, _, rfl⟩ := List.mem_map.1 hu
      exact h1 _) hm (by unfold maxLen; omega) (by omega) (by omega) _ rfl
  have hat' : g = wr.heap.size := by
    rcases hat with e | e
    · cases e
    · exact e
  have q2 : V2.heap[w.heap.size + 1]? = wr.heap[w.heap.size + 1]? := gr.block _ (by omega) (by intro e; cases e)
  rw [Nat.zero_add] at hr own2
  rw [List.nil_append] at own2
  have own3 : V2.ownsRow (w.heap.size + 2) (et 5) 1 (.slice (some ⟨g, 0, none⟩) (lv 5 + m) cap) (lv 5 + m) ((List.range (lv 5 + m)).map (fld 5)) := by rw [h5, Nat.zero_add]; exact own2
  have S := h.step 5 hf m (Below.refl _ _) own3 ⟨gr.os, gr.tape, gr.output, gr.size, fun k hk _ => gr.block k hk (by intro e; cases e)⟩ (.inr hat')
  rw [show (Value.slice (some ⟨g, 0, none⟩) (lv 5 + m) cap) = .slice (some ⟨g, 0, none⟩) m cap by rw [h5, Nat.zero_add]] at S
  exact ⟨g, cap, V2, hr, ⟨_, (World.cell?_of_block (w := wr) (a := ⟨w.heap.size + 1, 5, none⟩) q2).trans (h.cell 5 hf)⟩, there_frozen (there_same q2 h.th) (Nat.zero_le _) (by decide), S⟩

theorem info33 : (Try.prog.info? 33).map (·.size) = some 11 := by kernel_rfl

theorem wpList_load33 {ops : Array Oper} {rest : List Oper} {op : Oper} {a : Act} {w : World} {Q : Exit → Act → World → Prop} (hgd : op.guard = none) (x : Operand) (ho : op.op = .load 33 x)
    (b : Nat) (hx : a.eval x = .pointer (some ⟨b, 0, none⟩)) (cs : List Value) (hl : cs.length = 11) (hc : w.rangeAt b 0 cs) (h : wpList Try.prog ops Q rest (a.put op.dst (.agg cs.toArray)) w) : wpList Try.prog ops Q (op :: rest) a w :=
  wpList_load_mid hgd 33 x ho b 0 hx cs _ hc Try.underlying33 rfl (by rw [hl]; exact info33) h

theorem wpList_store33 {ops : Array Oper} {rest : List Oper} {op : Oper} {a : Act} {w : World} {Q : Exit → Act → World → Prop} (hgd : op.guard = none) (x y : Operand) (ho : op.op = .store 33 x y)
    (b : Nat) (cs : List Value) (hx : a.eval x = .pointer (some ⟨b, 0, none⟩)) (hy : a.eval y = .agg cs.toArray) (hl : cs.length = 11) (ht : w.there b 0 11) (h1 : cs.toArray.all (·.oneCell') = true)
    (h : wpList Try.prog ops Q rest (a.put op.dst undef) (w.setCells b 0 cs)) : wpList Try.prog ops Q (op :: rest) a w :=
  wpList_store_mid hgd 33 x y ho b 0 cs.toArray hx hy (by simpa [hl] using ht) (by simpa [hl] using info33) h1 (by simpa using h)

/-- What the view shows of one field: m numbers x, in memory of the call's own. -/
def Seen (w : World) (lo : Nat) (p : Option Addr) (m : Nat) (x : Nat → Value) : Prop :=
  m = 0 ∨ ∃ g, p = some ⟨g, 0, none⟩ ∧ lo ≤ g ∧ g < w.heap.size ∧ ∀ j, j < m → w.cell? ⟨g, j, none⟩ = some (x j)

theorem Seen.below {w w' : World} {lo : Nat} {p : Option Addr} {m : Nat} {x : Nat → Value} (h : Seen w lo p m x) (hb : Below w.heap.size w w') : Seen w' lo p m x := by
  rcases h with h | ⟨g, e, h1, h2, h3⟩
  · exact .inl h
  · exact .inr ⟨g, e, h1, Nat.lt_of_lt_of_le h2 hb.size, fun j hj => (hb.cell (p := ⟨g, j, none⟩) h2).trans (h3 j hj)⟩

theorem seen_keep {w w' : World} {B : Nat} {p : Option Addr} {m : Nat} {x : Nat → Value} (h : m = 0 ∨ ∃ g, p = some ⟨g, 0, none⟩ ∧ B + 2 ≤ g ∧ g < w.heap.size ∧ ∀ j, j < m → w.cell? ⟨g, j, none⟩ = some (x j)) (hs : w'.heap.size = w.heap.size) (hb : ∀ k, B + 2 ≤ k → w'.heap[k]? = w.heap[k]?) : Seen w' (B + 2) p m x := by
  rcases h with h | ⟨g, e, h1, h2, h3⟩
  · exact .inl h
  · exact .inr ⟨g, e, h1, by omega, fun j hj => (World.cell?_of_block (w := w) (a := ⟨g, j, none⟩) (hb g h1)).trans (h3 j hj)⟩

theorem res11 (tmps : Array Value) (w : World) (b : Nat) (cs : List Value) (hl : cs.length = 11) (hp : tmps.getD 2 undef = .pointer (some ⟨b, 0, none⟩)) (hc : w.rangeAt b 0 cs) : (results Try.f11 tmps).run Try.prog w = .ok (.agg cs.toArray) w := by
  have hp' : tmps[2]?.getD undef = .pointer (some ⟨b, 0, none⟩) := by simpa using hp
  simp [results, hp', asAddr, run_loadVar_mid w b 0 33 cs _ hc Try.underlying33 rfl (by rw [hl]; exact info33)]

theorem Vw.shape {wr : World} {vs : Nat → Value} {fld : Nat → Nat → Value} {lv : Nat → Nat} (h : Vw w wr fld vs lv) (f : Nat) (hf : f < 7) (m : Nat) (hm : lv f = m) :
    ∃ p c, wr.cell? ⟨w.heap.size + 1, f, none⟩ = some (.slice p m c) ∧ (m = 0 ∨ ∃ g, p = some ⟨g, 0, none⟩ ∧ w.heap.size + 2 ≤ g ∧ g < wr.heap.size ∧ ∀ j, j < m → wr.cell? ⟨g, j, none⟩ = some (fld f j)) := by
  have own := h.own f hf
  have hc := h.cell f hf
  subst hm
  rcases own.2 with ⟨he, h0⟩ | ⟨g, c, cur, he, hb, hg, _⟩
  · exact ⟨none, 0, by rw [hc, he, h0], .inl h0⟩
  · rw [he] at own
    exact ⟨some ⟨g, 0, none⟩, c, by rw [hc, he], .inr ⟨g, rfl, hb, (Array.getElem?_eq_some_iff.1 hg).1, fun j hj => by rw [own.cellAt j (by omega)]; simp [hj]⟩⟩

set_option maxHeartbeats 1600000 in
set_option maxRecDepth 100000 in
set_option linter.unusedSimpArgs false in
theorem view_any (F : Nat → Int) (lb M lc : Nat) (h : Line w lo hi q pa g cap pb n T (.slice (some ⟨lb, 0, none⟩) M lc) held waiting first) (hn : n ≤ 65536) (hM : 0 < M) (hM2 : M ≤ 1000000) (hF : ∀ j, j < M → w.cell? ⟨lb, j, none⟩ = some (.int .u64 (F j))) :
    Calls Try.prog 11 #[.pointer (some ⟨q, 0, none⟩)] w fun e w' => ∃ p k : Nat → _, e = .returned (.agg #[.slice (p 0) n (k 0), .slice (p 1) n (k 1), .slice (p 2) n (k 2), .slice (p 3) n (k 3), .slice (p 4) n (k 4), .slice (p 5) M (k 5), .slice (p 6) (pgs n) (k 6), .int .i64 held, .int .i64 waiting, .int .i64 first, .int .i64 n]) ∧ Below w.heap.size w w' ∧
      ∀ f, f < 7 → Seen w' (w.heap.size + 2) (p f) (lvB n M (pgs n) f) (fldT T n F f) := by
  have hh0 := h.head0
  have hh1 := h.head1
  have hh2 := h.head2
  have hh3 := h.head3
  have hh4 := h.head4
  have hh5 := h.head5
  have hqb : q < w.heap.size := Nat.lt_of_lt_of_le h.hq.2 h.top
  go_enter Try.func11, Try.ntmps11
  go_wp2
  go_loopw [13] (fun iv wr => ∃ i : Nat, i ≤ n ∧ iv = .int .i64 i ∧ ∃ vs, Vw w wr (fldT T n F) vs (lvl i 0)) (fun iv _ => n - (intOf iv).toNat)
  case atStart => exact ⟨0, Nat.zero_le _, rfl, _, by rw [lvl_zero]; exact Vw.start w _⟩
  case round =>
    obtain ⟨i, hi', rfl, vs0, X0⟩ := hrel
    by_cases hlt : i < n
    · have cat := at_any (h.keep X0.bel.size (fun k _ hk => X0.bel.block k (Nat.lt_of_lt_of_le hk h.top))) hn i hlt
      have hB := h.pbr _ (pgs_lt hlt)
      have hBt := h.top
      have ht := h.task i hlt
      generalize hBB : pb (i / 1024) = B at *
      generalize hoo : i % 1024 * 5 = o at *
      have TCr : ∀ W : World, (∀ k, k < w.heap.size → W.heap[k]? = w.heap[k]?) → ∀ j v, (T i).cs[j]? = some v → W.cell? ⟨B, o + j, none⟩ = some v := fun W hW j v hv =>
        (World.cell?_of_block (w := w) (a := ⟨B, o + j, none⟩) (hW B (by omega))).trans (ht j v hv)
      have TC : ∀ W : World, Below w.heap.size w W → ∀ j v, (T i).cs[j]? = some v → W.drew.cell? ⟨B, o + j, none⟩ = some v := fun W hW j v hv => TCr W hW.block j v hv
      clear hBB hoo ht
      generalize hW : wr = W0 at *
      clear hW
      have cat' := cat
      clear cat
      go_wp2_with (go_at_call 29; refine cat'.mono ?_; rintro e w' ⟨rfl, hw⟩; obtain rfl := hw.symm)
      have Y0 := X0.drew
      have tc0 : W0.drew.cell? ⟨B, o, none⟩ = some (.int .i64 (T i).id) := TC W0 X0.bel 0 _ rfl
      generalize hW0 : W0.drew = U0 at Y0 tc0
      obtain ⟨V0, hV0⟩ : ∃ V, V = U0.alloc (.cells #[.int .i64 (T i).id] 3) := ⟨_, rfl⟩
      obtain ⟨g0, c0, R0, happ0, _, hcf0, hff0, hold0, Z0⟩ := Y0.append 0 (by unfold grows; decide) 22 Try.underlying22 1 1 U0.heap.size (by decide) (by simp [lvl]; omega) (V1 := V0) (by rw [hV0]; exact (Below.refl _ _).alloc (Nat.le_refl _) _) (fun j hj => by obtain rfl : j = 0 := (by omega); rw [hV0, World.cell?_alloc_at _ _ _ _ rfl]; simp [lvl, fldT]) (fun j => rfl)
      have hbs0 : (Instr.buildSlice 22 1 #[(0, .int .i64 (T i).id)]).run Try.prog U0 = .ok (.slice (some ⟨U0.heap.size, 0, none⟩) 1 1) V0 := by rw [hV0]; go_simp
      have hc0 := Y0.cell 0 (by unfold grows; decide)
      have hq0 : V0.cell? ⟨w.heap.size + 1, 0, none⟩ = some (vs0 0) := by rw [hV0, World.cell?_alloc_past _ _ _ (block_lt_of_cell hc0)]; exact hc0
      have ht0 : V0.cell? ⟨B, o, none⟩ = some (.int .i64 (T i).id) := by rw [hV0, World.cell?_alloc_past _ _ _ (block_lt_of_cell tc0)]; exact tc0
      have hr0 : R0.cell? ⟨B, o, none⟩ = some (.int .i64 (T i).id) := TCr R0 hold0 0 _ rfl
      rw [upd_lvl i 0 (by decide)] at Z0
      generalize lvl i 0 0 + 1 = m0 at happ0 Z0
      clear X0 Y0 hold0
      generalize vs0 0 = a0 at *
      generalize hH : w.heap.size + 1 = H at *
      refine Last.wp_region_last 9 (fun W => W.cell? ⟨H, 0, none⟩ = some a0 ∧ W.cell? ⟨B, o, none⟩ = some (.int .i64 (T i).id)) (by kernel_rfl) (by rw [hW0]; exact ⟨hc0, tc0⟩) (fun hS => ?_)
      rw [hW0] at hS ⊢
      refine Last.wpL_take (v := ?_) 0 rfl (by kernel_rfl) (by kernel_rfl) (by kernel_rfl) (by kernel_rfl) (fun _ _ _ h => h) (Or.inl ⟨by rfl, fun w' hSw => ?_⟩) hS ?_
      rotate_left 1
      · obtain ⟨y1, y2⟩ := hSw; go_simp; try with_reducible rfl
      simp only [Act.put, List.getElem_toArray, List.getElem_cons_zero, List.getElem_cons_succ, List.setIfInBounds_toArray, List.set_cons_zero, List.set_cons_succ]
      refine Last.wpL_take (v := ?_) 1 rfl (by kernel_rfl) (by kernel_rfl) (by kernel_rfl) (by kernel_rfl) (fun _ _ _ h => h) (Or.inl ⟨by rfl, fun w' hSw => ?_⟩) hS ?_
      rotate_left 1
      · obtain ⟨y1, y2⟩ := hSw; go_simp; try with_reducible rfl
      simp only [Act.put, List.getElem_toArray, List.getElem_cons_zero, List.getElem_cons_succ, List.setIfInBounds_toArray, List.set_cons_zero, List.set_cons_succ]
      refine Last.wpL_take (v := ?_) 2 rfl (by kernel_rfl) (by kernel_rfl) (by kernel_rfl) (by kernel_rfl) (fun _ _ _ h => h) (Or.inl ⟨by rfl, fun w' hSw => ?_⟩) hS ?_
      rotate_left 1
      · obtain ⟨y1, y2⟩ := hSw; go_simp; try with_reducible rfl
      simp only [Act.put, List.getElem_toArray, List.getElem_cons_zero, List.getElem_cons_succ, List.setIfInBounds_toArray, List.set_cons_zero, List.set_cons_succ]
      refine Last.wpL_take (v := ?_) 3 rfl (by kernel_rfl) (by kernel_rfl) (by kernel_rfl) (by kernel_rfl) (fun _ _ _ h => h) (Or.inl ⟨by rfl, fun w' hSw => ?_⟩) hS ?_
      rotate_left 1
      · obtain ⟨y1, y2⟩ := hSw; go_simp; try with_reducible rfl
      simp only [Act.put, List.getElem_toArray, List.getElem_cons_zero, List.getElem_cons_succ, List.setIfInBounds_toArray, List.set_cons_zero, List.set_cons_succ]
      refine Last.wpL_take (v := ?_) 4 rfl (by kernel_rfl) (by kernel_rfl) (by kernel_rfl) (by kernel_rfl) (fun _ _ _ h => h) (Or.inl ⟨by rfl, fun w' hSw => ?_⟩) hS ?_
      rotate_left 1
      · obtain ⟨y1, y2⟩ := hSw; go_simp; try with_reducible rfl
      simp only [Act.put, List.getElem_toArray, List.getElem_cons_zero, List.getElem_cons_succ, List.setIfInBounds_toArray, List.set_cons_zero, List.set_cons_succ]
      refine Last.wpL_take (v := ?_) 5 rfl (by kernel_rfl) (by kernel_rfl) (by kernel_rfl) (by kernel_rfl) (fun _ _ _ h => h) (Or.inl ⟨by rfl, fun w' hSw => ?_⟩) hS ?_
      rotate_left 1
      · obtain ⟨y1, y2⟩ := hSw; go_simp; try with_reducible rfl
      simp only [Act.put, List.getElem_toArray, List.getElem_cons_zero, List.getElem_cons_succ, List.setIfInBounds_toArray, List.set_cons_zero, List.set_cons_succ]
      refine Last.wpL_one 6 rfl rfl (by kernel_rfl) (fun K hK => ?_)
      refine wp_value (v := .slice (some ⟨U0.heap.size, 0, none⟩) 1 1) (w' := V0) ?_ (hK _ _ ⟨hq0, ht0⟩ ?_)
      · go_simp
      clear hK K
      simp only [Act.put, List.getElem_toArray, List.getElem_cons_zero, List.getElem_cons_succ, List.setIfInBounds_toArray, List.set_cons_zero, List.set_cons_succ]
      refine Last.wpL_one 7 rfl rfl (by kernel_rfl) (fun K hK => ?_)
      refine wp_append (.tmp 22) (.tmp 27) 22 rfl ?hs0 ?hx0 happ0 (hK _ _ ⟨hcf0, hr0⟩ ?_)
      (case hs0 => (simp [Act.eval]; done))
      (case hx0 => (simp [Act.eval]; done))
      clear hK K
      simp only [Act.put, List.getElem_toArray, List.getElem_cons_zero, List.getElem_cons_succ, List.setIfInBounds_toArray, List.set_cons_zero, List.set_cons_succ]
      refine Last.wpL_one 8 rfl rfl (by kernel_rfl) (fun K hK => ?_)
      refine wp_value (v := .pointer (some ⟨H, 0, none⟩)) (w' := R0) ?_ (hK _ _ ⟨hcf0, hr0⟩ ?_)
      · go_simp
      clear hK K
      simp only [Act.put, List.getElem_toArray, List.getElem_cons_zero, List.getElem_cons_succ, List.setIfInBounds_toArray, List.set_cons_zero, List.set_cons_succ]
      refine Last.wpL_last rfl rfl (by kernel_rfl) (by kernel_rfl) (fun K hK => ?_)
      refine wp_skip (w' := R0.setCell ⟨H, 0, none⟩ (.slice (some ⟨g0, 0, none⟩) m0 c0)) ?_ (hK _ _ ?_)
      · go_simp
      clear hK K
      simp only [Act.put, List.getElem_toArray, List.getElem_cons_zero, List.getElem_cons_succ, List.setIfInBounds_toArray, List.set_cons_zero, List.set_cons_succ]
      generalize hWn : R0.setCell ⟨H, 0, none⟩ (.slice (some ⟨g0, 0, none⟩) m0 c0) = W1 at *
      generalize upd _ _ _ = vs1 at Z0
      have X1 := Z0
      clear hWn Z0 hV0 hS hq0 ht0 hr0 hcf0 hff0 happ0 hbs0 hc0 tc0 hW0
      subst hH
      go_wp2_with fail
      have Y1 := X1.drew
      have tc1 : W1.drew.cell? ⟨B, o + 1, none⟩ = some (.int .i64 (T i).submit) := TC W1 X1.bel 1 _ rfl
      generalize hW1 : W1.drew = U1 at Y1 tc1
      obtain ⟨V1, hV1⟩ : ∃ V, V = U1.alloc (.cells #[.int .i64 (T i).submit] 2) := ⟨_, rfl⟩
      obtain ⟨g1, c1, R1, happ1, _, hcf1, hff1, hold1, Z1⟩ := Y1.append 1 (by unfold grows; decide) 23 Try.underlying23 1 1 U1.heap.size (by decide) (by simp [lvl]; omega) (V1 := V1) (by rw [hV1]; exact (Below.refl _ _).alloc (Nat.le_refl _) _) (fun j hj => by obtain rfl : j = 0 := (by omega); rw [hV1, World.cell?_alloc_at _ _ _ _ rfl]; simp [lvl, fldT]) (fun j => rfl)
      have hbs1 : (Instr.buildSlice 23 1 #[(0, .int .i64 (T i).submit)]).run Try.prog U1 = .ok (.slice (some ⟨U1.heap.size, 0, none⟩) 1 1) V1 := by rw [hV1]; go_simp
      have hc1 := Y1.cell 1 (by unfold grows; decide)
      have hq1 : V1.cell? ⟨w.heap.size + 1, 1, none⟩ = some (vs1 1) := by rw [hV1, World.cell?_alloc_past _ _ _ (block_lt_of_cell hc1)]; exact hc1
      have ht1 : V1.cell? ⟨B, o + 1, none⟩ = some (.int .i64 (T i).submit) := by rw [hV1, World.cell?_alloc_past _ _ _ (block_lt_of_cell tc1)]; exact tc1
      have hr1 : R1.cell? ⟨B, o + 1, none⟩ = some (.int .i64 (T i).submit) := TCr R1 hold1 1 _ rfl
      rw [upd_lvl i 1 (by decide)] at Z1
      generalize lvl i 1 1 + 1 = m1 at happ1 Z1
      clear X1 Y1 hold1
      generalize vs1 1 = a1 at *
      generalize hH : w.heap.size + 1 = H at *
      refine Last.wp_region_last 9 (fun W => W.cell? ⟨H, 1, none⟩ = some a1 ∧ W.cell? ⟨B, o + 1, none⟩ = some (.int .i64 (T i).submit)) (by kernel_rfl) (by rw [hW1]; exact ⟨hc1, tc1⟩) (fun hS => ?_)
      rw [hW1] at hS ⊢
      refine Last.wpL_take (v := ?_) 0 rfl (by kernel_rfl) (by kernel_rfl) (by kernel_rfl) (by kernel_rfl) (fun _ _ _ h => h) (Or.inl ⟨by rfl, fun w' hSw => ?_⟩) hS ?_
      rotate_left 1
      · obtain ⟨y1, y2⟩ := hSw; go_simp; try with_reducible rfl
      simp only [Act.put, List.getElem_toArray, List.getElem_cons_zero, List.getElem_cons_succ, List.setIfInBounds_toArray, List.set_cons_zero, List.set_cons_succ]
      refine Last.wpL_take (v := ?_) 1 rfl (by kernel_rfl) (by kernel_rfl) (by kernel_rfl) (by kernel_rfl) (fun _ _ _ h => h) (Or.inl ⟨by rfl, fun w' hSw => ?_⟩) hS ?_
      rotate_left 1
      · obtain ⟨y1, y2⟩ := hSw; go_simp; try with_reducible rfl
      simp only [Act.put, List.getElem_toArray, List.getElem_cons_zero, List.getElem_cons_succ, List.setIfInBounds_toArray, List.set_cons_zero, List.set_cons_succ]
      refine Last.wpL_take (v := ?_) 2 rfl (by kernel_rfl) (by kernel_rfl) (by kernel_rfl) (by kernel_rfl) (fun _ _ _ h => h) (Or.inl ⟨by rfl, fun w' hSw => ?_⟩) hS ?_
      rotate_left 1
      · obtain ⟨y1, y2⟩ := hSw; go_simp; try with_reducible rfl
      simp only [Act.put, List.getElem_toArray, List.getElem_cons_zero, List.getElem_cons_succ, List.setIfInBounds_toArray, List.set_cons_zero, List.set_cons_succ]
      refine Last.wpL_take (v := ?_) 3 rfl (by kernel_rfl) (by kernel_rfl) (by kernel_rfl) (by kernel_rfl) (fun _ _ _ h => h) (Or.inl ⟨by rfl, fun w' hSw => ?_⟩) hS ?_
      rotate_left 1
      · obtain ⟨y1, y2⟩ := hSw; go_simp; try with_reducible rfl
      simp only [Act.put, List.getElem_toArray, List.getElem_cons_zero, List.getElem_cons_succ, List.setIfInBounds_toArray, List.set_cons_zero, List.set_cons_succ]
      refine Last.wpL_take (v := ?_) 4 rfl (by kernel_rfl) (by kernel_rfl) (by kernel_rfl) (by kernel_rfl) (fun _ _ _ h => h) (Or.inl ⟨by rfl, fun w' hSw => ?_⟩) hS ?_
      rotate_left 1
      · obtain ⟨y1, y2⟩ := hSw; go_simp; try with_reducible rfl
      simp only [Act.put, List.getElem_toArray, List.getElem_cons_zero, List.getElem_cons_succ, List.setIfInBounds_toArray, List.set_cons_zero, List.set_cons_succ]
      refine Last.wpL_take (v := ?_) 5 rfl (by kernel_rfl) (by kernel_rfl) (by kernel_rfl) (by kernel_rfl) (fun _ _ _ h => h) (Or.inl ⟨by rfl, fun w' hSw => ?_⟩) hS ?_
      rotate_left 1
      · obtain ⟨y1, y2⟩ := hSw; go_simp; try with_reducible rfl
      simp only [Act.put, List.getElem_toArray, List.getElem_cons_zero, List.getElem_cons_succ, List.setIfInBounds_toArray, List.set_cons_zero, List.set_cons_succ]
      refine Last.wpL_one 6 rfl rfl (by kernel_rfl) (fun K hK => ?_)
      refine wp_value (v := .slice (some ⟨U1.heap.size, 0, none⟩) 1 1) (w' := V1) ?_ (hK _ _ ⟨hq1, ht1⟩ ?_)
      · go_simp
      clear hK K
      simp only [Act.put, List.getElem_toArray, List.getElem_cons_zero, List.getElem_cons_succ, List.setIfInBounds_toArray, List.set_cons_zero, List.set_cons_succ]
      refine Last.wpL_one 7 rfl rfl (by kernel_rfl) (fun K hK => ?_)
      refine wp_append (.tmp 31) (.tmp 36) 23 rfl ?hs1 ?hx1 happ1 (hK _ _ ⟨hcf1, hr1⟩ ?_)
      (case hs1 => (simp [Act.eval]; done))
      (case hx1 => (simp [Act.eval]; done))
      clear hK K
      simp only [Act.put, List.getElem_toArray, List.getElem_cons_zero, List.getElem_cons_succ, List.setIfInBounds_toArray, List.set_cons_zero, List.set_cons_succ]
      refine Last.wpL_one 8 rfl rfl (by kernel_rfl) (fun K hK => ?_)
      refine wp_value (v := .pointer (some ⟨H, 1, none⟩)) (w' := R1) ?_ (hK _ _ ⟨hcf1, hr1⟩ ?_)
      · go_simp
      clear hK K
      simp only [Act.put, List.getElem_toArray, List.getElem_cons_zero, List.getElem_cons_succ, List.setIfInBounds_toArray, List.set_cons_zero, List.set_cons_succ]
      refine Last.wpL_last rfl rfl (by kernel_rfl) (by kernel_rfl) (fun K hK => ?_)
      refine wp_skip (w' := R1.setCell ⟨H, 1, none⟩ (.slice (some ⟨g1, 0, none⟩) m1 c1)) ?_ (hK _ _ ?_)
      · go_simp
      clear hK K
      simp only [Act.put, List.getElem_toArray, List.getElem_cons_zero, List.getElem_cons_succ, List.setIfInBounds_toArray, List.set_cons_zero, List.set_cons_succ]
      generalize hWn : R1.setCell ⟨H, 1, none⟩ (.slice (some ⟨g1, 0, none⟩) m1 c1) = W2 at *
      generalize upd _ _ _ = vs2 at Z1
      have X2 := Z1
      clear hWn Z1 hV1 hS hq1 ht1 hr1 hcf1 hff1 happ1 hbs1 hc1 tc1 hW1
      subst hH
      go_wp2_with fail
      have Y2 := X2.drew
      have tc2 : W2.drew.cell? ⟨B, o + 2, none⟩ = some (.int .i64 (T i).work) := TC W2 X2.bel 2 _ rfl
      generalize hW2 : W2.drew = U2 at Y2 tc2
      obtain ⟨V2, hV2⟩ : ∃ V, V = U2.alloc (.cells #[.int .i64 (T i).work] 2) := ⟨_, rfl⟩
      obtain ⟨g2, c2, R2, happ2, _, hcf2, hff2, hold2, Z2⟩ := Y2.append 2 (by unfold grows; decide) 23 Try.underlying23 1 1 U2.heap.size (by decide) (by simp [lvl]; omega) (V1 := V2) (by rw [hV2]; exact (Below.refl _ _).alloc (Nat.le_refl _) _) (fun j hj => by obtain rfl : j = 0 := (by omega); rw [hV2, World.cell?_alloc_at _ _ _ _ rfl]; simp [lvl, fldT]) (fun j => rfl)
      have hbs2 : (Instr.buildSlice 23 1 #[(0, .int .i64 (T i).work)]).run Try.prog U2 = .ok (.slice (some ⟨U2.heap.size, 0, none⟩) 1 1) V2 := by rw [hV2]; go_simp
      have hc2 := Y2.cell 2 (by unfold grows; decide)
      have hq2 : V2.cell? ⟨w.heap.size + 1, 2, none⟩ = some (vs2 2) := by rw [hV2, World.cell?_alloc_past _ _ _ (block_lt_of_cell hc2)]; exact hc2
      have ht2 : V2.cell? ⟨B, o + 2, none⟩ = some (.int .i64 (T i).work) := by rw [hV2, World.cell?_alloc_past _ _ _ (block_lt_of_cell tc2)]; exact tc2
      have hr2 : R2.cell? ⟨B, o + 2, none⟩ = some (.int .i64 (T i).work) := TCr R2 hold2 2 _ rfl
      rw [upd_lvl i 2 (by decide)] at Z2
      generalize lvl i 2 2 + 1 = m2 at happ2 Z2
      clear X2 Y2 hold2
      generalize vs2 2 = a2 at *
      generalize hH : w.heap.size + 1 = H at *
      refine Last.wp_region_last 9 (fun W => W.cell? ⟨H, 2, none⟩ = some a2 ∧ W.cell? ⟨B, o + 2, none⟩ = some (.int .i64 (T i).work)) (by kernel_rfl) (by rw [hW2]; exact ⟨hc2, tc2⟩) (fun hS => ?_)
      rw [hW2] at hS ⊢
      refine Last.wpL_take (v := ?_) 0 rfl (by kernel_rfl) (by kernel_rfl) (by kernel_rfl) (by kernel_rfl) (fun _ _ _ h => h) (Or.inl ⟨by rfl, fun w' hSw => ?_⟩) hS ?_
      rotate_left 1
      · obtain ⟨y1, y2⟩ := hSw; go_simp; try with_reducible rfl
      simp only [Act.put, List.getElem_toArray, List.getElem_cons_zero, List.getElem_cons_succ, List.setIfInBounds_toArray, List.set_cons_zero, List.set_cons_succ]
      refine Last.wpL_take (v := ?_) 1 rfl (by kernel_rfl) (by kernel_rfl) (by kernel_rfl) (by kernel_rfl) (fun _ _ _ h => h) (Or.inl ⟨by rfl, fun w' hSw => ?_⟩) hS ?_
      rotate_left 1
      · obtain ⟨y1, y2⟩ := hSw; go_simp; try with_reducible rfl
      simp only [Act.put, List.getElem_toArray, List.getElem_cons_zero, List.getElem_cons_succ, List.setIfInBounds_toArray, List.set_cons_zero, List.set_cons_succ]
      refine Last.wpL_take (v := ?_) 2 rfl (by kernel_rfl) (by kernel_rfl) (by kernel_rfl) (by kernel_rfl) (fun _ _ _ h => h) (Or.inl ⟨by rfl, fun w' hSw => ?_⟩) hS ?_
      rotate_left 1
      · obtain ⟨y1, y2⟩ := hSw; go_simp; try with_reducible rfl
      simp only [Act.put, List.getElem_toArray, List.getElem_cons_zero, List.getElem_cons_succ, List.setIfInBounds_toArray, List.set_cons_zero, List.set_cons_succ]
      refine Last.wpL_take (v := ?_) 3 rfl (by kernel_rfl) (by kernel_rfl) (by kernel_rfl) (by kernel_rfl) (fun _ _ _ h => h) (Or.inl ⟨by rfl, fun w' hSw => ?_⟩) hS ?_
      rotate_left 1
      · obtain ⟨y1, y2⟩ := hSw; go_simp; try with_reducible rfl
      simp only [Act.put, List.getElem_toArray, List.getElem_cons_zero, List.getElem_cons_succ, List.setIfInBounds_toArray, List.set_cons_zero, List.set_cons_succ]
      refine Last.wpL_take (v := ?_) 4 rfl (by kernel_rfl) (by kernel_rfl) (by kernel_rfl) (by kernel_rfl) (fun _ _ _ h => h) (Or.inl ⟨by rfl, fun w' hSw => ?_⟩) hS ?_
      rotate_left 1
      · obtain ⟨y1, y2⟩ := hSw; go_simp; try with_reducible rfl
      simp only [Act.put, List.getElem_toArray, List.getElem_cons_zero, List.getElem_cons_succ, List.setIfInBounds_toArray, List.set_cons_zero, List.set_cons_succ]
      refine Last.wpL_take (v := ?_) 5 rfl (by kernel_rfl) (by kernel_rfl) (by kernel_rfl) (by kernel_rfl) (fun _ _ _ h => h) (Or.inl ⟨by rfl, fun w' hSw => ?_⟩) hS ?_
      rotate_left 1
      · obtain ⟨y1, y2⟩ := hSw; go_simp; try with_reducible rfl
      simp only [Act.put, List.getElem_toArray, List.getElem_cons_zero, List.getElem_cons_succ, List.setIfInBounds_toArray, List.set_cons_zero, List.set_cons_succ]
      refine Last.wpL_one 6 rfl rfl (by kernel_rfl) (fun K hK => ?_)
      refine wp_value (v := .slice (some ⟨U2.heap.size, 0, none⟩) 1 1) (w' := V2) ?_ (hK _ _ ⟨hq2, ht2⟩ ?_)
      · go_simp
      clear hK K
      simp only [Act.put, List.getElem_toArray, List.getElem_cons_zero, List.getElem_cons_succ, List.setIfInBounds_toArray, List.set_cons_zero, List.set_cons_succ]
      refine Last.wpL_one 7 rfl rfl (by kernel_rfl) (fun K hK => ?_)
      refine wp_append (.tmp 40) (.tmp 45) 23 rfl ?hs2 ?hx2 happ2 (hK _ _ ⟨hcf2, hr2⟩ ?_)
      (case hs2 => (simp [Act.eval]; done))
      (case hx2 => (simp [Act.eval]; done))
      clear hK K
      simp only [Act.put, List.getElem_toArray, List.getElem_cons_zero, List.getElem_cons_succ, List.setIfInBounds_toArray, List.set_cons_zero, List.set_cons_succ]
      refine Last.wpL_one 8 rfl rfl (by kernel_rfl) (fun K hK => ?_)
      refine wp_value (v := .pointer (some ⟨H, 2, none⟩)) (w' := R2) ?_ (hK _ _ ⟨hcf2, hr2⟩ ?_)
      · go_simp
      clear hK K
      simp only [Act.put, List.getElem_toArray, List.getElem_cons_zero, List.getElem_cons_succ, List.setIfInBounds_toArray, List.set_cons_zero, List.set_cons_succ]
      refine Last.wpL_last rfl rfl (by kernel_rfl) (by kernel_rfl) (fun K hK => ?_)
      refine wp_skip (w' := R2.setCell ⟨H, 2, none⟩ (.slice (some ⟨g2, 0, none⟩) m2 c2)) ?_ (hK _ _ ?_)
      · go_simp
      clear hK K
      simp only [Act.put, List.getElem_toArray, List.getElem_cons_zero, List.getElem_cons_succ, List.setIfInBounds_toArray, List.set_cons_zero, List.set_cons_succ]
      generalize hWn : R2.setCell ⟨H, 2, none⟩ (.slice (some ⟨g2, 0, none⟩) m2 c2) = W3 at *
      generalize upd _ _ _ = vs3 at Z2
      have X3 := Z2
      clear hWn Z2 hV2 hS hq2 ht2 hr2 hcf2 hff2 happ2 hbs2 hc2 tc2 hW2
      subst hH
      go_wp2_with fail
      have Y3 := X3.drew
      have tc3 : W3.drew.cell? ⟨B, o + 3, none⟩ = some (.int .i64 (T i).count) := TC W3 X3.bel 3 _ rfl
      generalize hW3 : W3.drew = U3 at Y3 tc3
      obtain ⟨V3, hV3⟩ : ∃ V, V = U3.alloc (.cells #[.int .i64 (T i).count] 2) := ⟨_, rfl⟩
      obtain ⟨g3, c3, R3, happ3, _, hcf3, hff3, hold3, Z3⟩ := Y3.append 3 (by unfold grows; decide) 23 Try.underlying23 1 1 U3.heap.size (by decide) (by simp [lvl]; omega) (V1 := V3) (by rw [hV3]; exact (Below.refl _ _).alloc (Nat.le_refl _) _) (fun j hj => by obtain rfl : j = 0 := (by omega); rw [hV3, World.cell?_alloc_at _ _ _ _ rfl]; simp [lvl, fldT]) (fun j => rfl)
      have hbs3 : (Instr.buildSlice 23 1 #[(0, .int .i64 (T i).count)]).run Try.prog U3 = .ok (.slice (some ⟨U3.heap.size, 0, none⟩) 1 1) V3 := by rw [hV3]; go_simp
      have hc3 := Y3.cell 3 (by unfold grows; decide)
      have hq3 : V3.cell? ⟨w.heap.size + 1, 3, none⟩ = some (vs3 3) := by rw [hV3, World.cell?_alloc_past _ _ _ (block_lt_of_cell hc3)]; exact hc3
      have ht3 : V3.cell? ⟨B, o + 3, none⟩ = some (.int .i64 (T i).count) := by rw [hV3, World.cell?_alloc_past _ _ _ (block_lt_of_cell tc3)]; exact tc3
      have hr3 : R3.cell? ⟨B, o + 3, none⟩ = some (.int .i64 (T i).count) := TCr R3 hold3 3 _ rfl
      rw [upd_lvl i 3 (by decide)] at Z3
      generalize lvl i 3 3 + 1 = m3 at happ3 Z3
      clear X3 Y3 hold3
      generalize vs3 3 = a3 at *
      generalize hH : w.heap.size + 1 = H at *
      refine Last.wp_region_last 9 (fun W => W.cell? ⟨H, 3, none⟩ = some a3 ∧ W.cell? ⟨B, o + 3, none⟩ = some (.int .i64 (T i).count)) (by kernel_rfl) (by rw [hW3]; exact ⟨hc3, tc3⟩) (fun hS => ?_)
      rw [hW3] at hS ⊢
      refine Last.wpL_take (v := ?_) 0 rfl (by kernel_rfl) (by kernel_rfl) (by kernel_rfl) (by kernel_rfl) (fun _ _ _ h => h) (Or.inl ⟨by rfl, fun w' hSw => ?_⟩) hS ?_
      rotate_left 1
      · obtain ⟨y1, y2⟩ := hSw; go_simp; try with_reducible rfl
      simp only [Act.put, List.getElem_toArray, List.getElem_cons_zero, List.getElem_cons_succ, List.setIfInBounds_toArray, List.set_cons_zero, List.set_cons_succ]
      refine Last.wpL_take (v := ?_) 1 rfl (by kernel_rfl) (by kernel_rfl) (by kernel_rfl) (by kernel_rfl) (fun _ _ _ h => h) (Or.inl ⟨by rfl, fun w' hSw => ?_⟩) hS ?_
      rotate_left 1
      · obtain ⟨y1, y2⟩ := hSw; go_simp; try with_reducible rfl
      simp only [Act.put, List.getElem_toArray, List.getElem_cons_zero, List.getElem_cons_succ, List.setIfInBounds_toArray, List.set_cons_zero, List.set_cons_succ]
      refine Last.wpL_take (v := ?_) 2 rfl (by kernel_rfl) (by kernel_rfl) (by kernel_rfl) (by kernel_rfl) (fun _ _ _ h => h) (Or.inl ⟨by rfl, fun w' hSw => ?_⟩) hS ?_
      rotate_left 1
      · obtain ⟨y1, y2⟩ := hSw; go_simp; try with_reducible rfl
      simp only [Act.put, List.getElem_toArray, List.getElem_cons_zero, List.getElem_cons_succ, List.setIfInBounds_toArray, List.set_cons_zero, List.set_cons_succ]
      refine Last.wpL_take (v := ?_) 3 rfl (by kernel_rfl) (by kernel_rfl) (by kernel_rfl) (by kernel_rfl) (fun _ _ _ h => h) (Or.inl ⟨by rfl, fun w' hSw => ?_⟩) hS ?_
      rotate_left 1
      · obtain ⟨y1, y2⟩ := hSw; go_simp; try with_reducible rfl
      simp only [Act.put, List.getElem_toArray, List.getElem_cons_zero, List.getElem_cons_succ, List.setIfInBounds_toArray, List.set_cons_zero, List.set_cons_succ]
      refine Last.wpL_take (v := ?_) 4 rfl (by kernel_rfl) (by kernel_rfl) (by kernel_rfl) (by kernel_rfl) (fun _ _ _ h => h) (Or.inl ⟨by rfl, fun w' hSw => ?_⟩) hS ?_
      rotate_left 1
      · obtain ⟨y1, y2⟩ := hSw; go_simp; try with_reducible rfl
      simp only [Act.put, List.getElem_toArray, List.getElem_cons_zero, List.getElem_cons_succ, List.setIfInBounds_toArray, List.set_cons_zero, List.set_cons_succ]
      refine Last.wpL_take (v := ?_) 5 rfl (by kernel_rfl) (by kernel_rfl) (by kernel_rfl) (by kernel_rfl) (fun _ _ _ h => h) (Or.inl ⟨by rfl, fun w' hSw => ?_⟩) hS ?_
      rotate_left 1
      · obtain ⟨y1, y2⟩ := hSw; go_simp; try with_reducible rfl
      simp only [Act.put, List.getElem_toArray, List.getElem_cons_zero, List.getElem_cons_succ, List.setIfInBounds_toArray, List.set_cons_zero, List.set_cons_succ]
      refine Last.wpL_one 6 rfl rfl (by kernel_rfl) (fun K hK => ?_)
      refine wp_value (v := .slice (some ⟨U3.heap.size, 0, none⟩) 1 1) (w' := V3) ?_ (hK _ _ ⟨hq3, ht3⟩ ?_)
      · go_simp
      clear hK K
      simp only [Act.put, List.getElem_toArray, List.getElem_cons_zero, List.getElem_cons_succ, List.setIfInBounds_toArray, List.set_cons_zero, List.set_cons_succ]
      refine Last.wpL_one 7 rfl rfl (by kernel_rfl) (fun K hK => ?_)
      refine wp_append (.tmp 49) (.tmp 54) 23 rfl ?hs3 ?hx3 happ3 (hK _ _ ⟨hcf3, hr3⟩ ?_)
      (case hs3 => (simp [Act.eval]; done))
      (case hx3 => (simp [Act.eval]; done))
      clear hK K
      simp only [Act.put, List.getElem_toArray, List.getElem_cons_zero, List.getElem_cons_succ, List.setIfInBounds_toArray, List.set_cons_zero, List.set_cons_succ]
      refine Last.wpL_one 8 rfl rfl (by kernel_rfl) (fun K hK => ?_)
      refine wp_value (v := .pointer (some ⟨H, 3, none⟩)) (w' := R3) ?_ (hK _ _ ⟨hcf3, hr3⟩ ?_)
      · go_simp
      clear hK K
      simp only [Act.put, List.getElem_toArray, List.getElem_cons_zero, List.getElem_cons_succ, List.setIfInBounds_toArray, List.set_cons_zero, List.set_cons_succ]
      refine Last.wpL_last rfl rfl (by kernel_rfl) (by kernel_rfl) (fun K hK => ?_)
      refine wp_skip (w' := R3.setCell ⟨H, 3, none⟩ (.slice (some ⟨g3, 0, none⟩) m3 c3)) ?_ (hK _ _ ?_)
      · go_simp
      clear hK K
      simp only [Act.put, List.getElem_toArray, List.getElem_cons_zero, List.getElem_cons_succ, List.setIfInBounds_toArray, List.set_cons_zero, List.set_cons_succ]
      generalize hWn : R3.setCell ⟨H, 3, none⟩ (.slice (some ⟨g3, 0, none⟩) m3 c3) = W4 at *
      generalize upd _ _ _ = vs4 at Z3
      have X4 := Z3
      clear hWn Z3 hV3 hS hq3 ht3 hr3 hcf3 hff3 happ3 hbs3 hc3 tc3 hW3
      subst hH
      go_wp2_with fail
      have Y4 := X4.drew
      have tc4 : W4.drew.cell? ⟨B, o + 4, none⟩ = some (.int .i64 (T i).pushed) := TC W4 X4.bel 4 _ rfl
      generalize hW4 : W4.drew = U4 at Y4 tc4
      obtain ⟨V4, hV4⟩ : ∃ V, V = U4.alloc (.cells #[.int .i64 (T i).pushed] 2) := ⟨_, rfl⟩
      obtain ⟨g4, c4, R4, happ4, _, hcf4, hff4, hold4, Z4⟩ := Y4.append 4 (by unfold grows; decide) 23 Try.underlying23 1 1 U4.heap.size (by decide) (by simp [lvl]; omega) (V1 := V4) (by rw [hV4]; exact (Below.refl _ _).alloc (Nat.le_refl _) _) (fun j hj => by obtain rfl : j = 0 := (by omega); rw [hV4, World.cell?_alloc_at _ _ _ _ rfl]; simp [lvl, fldT]) (fun j => rfl)
      have hbs4 : (Instr.buildSlice 23 1 #[(0, .int .i64 (T i).pushed)]).run Try.prog U4 = .ok (.slice (some ⟨U4.heap.size, 0, none⟩) 1 1) V4 := by rw [hV4]; go_simp
      have hc4 := Y4.cell 4 (by unfold grows; decide)
      have hq4 : V4.cell? ⟨w.heap.size + 1, 4, none⟩ = some (vs4 4) := by rw [hV4, World.cell?_alloc_past _ _ _ (block_lt_of_cell hc4)]; exact hc4
      have ht4 : V4.cell? ⟨B, o + 4, none⟩ = some (.int .i64 (T i).pushed) := by rw [hV4, World.cell?_alloc_past _ _ _ (block_lt_of_cell tc4)]; exact tc4
      have hr4 : R4.cell? ⟨B, o + 4, none⟩ = some (.int .i64 (T i).pushed) := TCr R4 hold4 4 _ rfl
      rw [upd_lvl i 4 (by decide)] at Z4
      generalize lvl i 4 4 + 1 = m4 at happ4 Z4
      clear X4 Y4 hold4
      generalize vs4 4 = a4 at *
      generalize hH : w.heap.size + 1 = H at *
      refine Last.wp_region_last 9 (fun W => W.cell? ⟨H, 4, none⟩ = some a4 ∧ W.cell? ⟨B, o + 4, none⟩ = some (.int .i64 (T i).pushed)) (by kernel_rfl) (by rw [hW4]; exact ⟨hc4, tc4⟩) (fun hS => ?_)
      rw [hW4] at hS ⊢
      refine Last.wpL_take (v := ?_) 0 rfl (by kernel_rfl) (by kernel_rfl) (by kernel_rfl) (by kernel_rfl) (fun _ _ _ h => h) (Or.inl ⟨by rfl, fun w' hSw => ?_⟩) hS ?_
      rotate_left 1
      · obtain ⟨y1, y2⟩ := hSw; go_simp; try with_reducible rfl
      simp only [Act.put, List.getElem_toArray, List.getElem_cons_zero, List.getElem_cons_succ, List.setIfInBounds_toArray, List.set_cons_zero, List.set_cons_succ]
      refine Last.wpL_take (v := ?_) 1 rfl (by kernel_rfl) (by kernel_rfl) (by kernel_rfl) (by kernel_rfl) (fun _ _ _ h => h) (Or.inl ⟨by rfl, fun w' hSw => ?_⟩) hS ?_
      rotate_left 1
      · obtain ⟨y1, y2⟩ := hSw; go_simp; try with_reducible rfl
      simp only [Act.put, List.getElem_toArray, List.getElem_cons_zero, List.getElem_cons_succ, List.setIfInBounds_toArray, List.set_cons_zero, List.set_cons_succ]
      refine Last.wpL_take (v := ?_) 2 rfl (by kernel_rfl) (by kernel_rfl) (by kernel_rfl) (by kernel_rfl) (fun _ _ _ h => h) (Or.inl ⟨by rfl, fun w' hSw => ?_⟩) hS ?_
      rotate_left 1
      · obtain ⟨y1, y2⟩ := hSw; go_simp; try with_reducible rfl
      simp only [Act.put, List.getElem_toArray, List.getElem_cons_zero, List.getElem_cons_succ, List.setIfInBounds_toArray, List.set_cons_zero, List.set_cons_succ]
      refine Last.wpL_take (v := ?_) 3 rfl (by kernel_rfl) (by kernel_rfl) (by kernel_rfl) (by kernel_rfl) (fun _ _ _ h => h) (Or.inl ⟨by rfl, fun w' hSw => ?_⟩) hS ?_
      rotate_left 1
      · obtain ⟨y1, y2⟩ := hSw; go_simp; try with_reducible rfl
      simp only [Act.put, List.getElem_toArray, List.getElem_cons_zero, List.getElem_cons_succ, List.setIfInBounds_toArray, List.set_cons_zero, List.set_cons_succ]
      refine Last.wpL_take (v := ?_) 4 rfl (by kernel_rfl) (by kernel_rfl) (by kernel_rfl) (by kernel_rfl) (fun _ _ _ h => h) (Or.inl ⟨by rfl, fun w' hSw => ?_⟩) hS ?_
      rotate_left 1
      · obtain ⟨y1, y2⟩ := hSw; go_simp; try with_reducible rfl
      simp only [Act.put, List.getElem_toArray, List.getElem_cons_zero, List.getElem_cons_succ, List.setIfInBounds_toArray, List.set_cons_zero, List.set_cons_succ]
      refine Last.wpL_take (v := ?_) 5 rfl (by kernel_rfl) (by kernel_rfl) (by kernel_rfl) (by kernel_rfl) (fun _ _ _ h => h) (Or.inl ⟨by rfl, fun w' hSw => ?_⟩) hS ?_
      rotate_left 1
      · obtain ⟨y1, y2⟩ := hSw; go_simp; try with_reducible rfl
      simp only [Act.put, List.getElem_toArray, List.getElem_cons_zero, List.getElem_cons_succ, List.setIfInBounds_toArray, List.set_cons_zero, List.set_cons_succ]
      refine Last.wpL_one 6 rfl rfl (by kernel_rfl) (fun K hK => ?_)
      refine wp_value (v := .slice (some ⟨U4.heap.size, 0, none⟩) 1 1) (w' := V4) ?_ (hK _ _ ⟨hq4, ht4⟩ ?_)
      · go_simp
      clear hK K
      simp only [Act.put, List.getElem_toArray, List.getElem_cons_zero, List.getElem_cons_succ, List.setIfInBounds_toArray, List.set_cons_zero, List.set_cons_succ]
      refine Last.wpL_one 7 rfl rfl (by kernel_rfl) (fun K hK => ?_)
      refine wp_append (.tmp 58) (.tmp 63) 23 rfl ?hs4 ?hx4 happ4 (hK _ _ ⟨hcf4, hr4⟩ ?_)
      (case hs4 => (simp [Act.eval]; done))
      (case hx4 => (simp [Act.eval]; done))
      clear hK K
      simp only [Act.put, List.getElem_toArray, List.getElem_cons_zero, List.getElem_cons_succ, List.setIfInBounds_toArray, List.set_cons_zero, List.set_cons_succ]
      refine Last.wpL_one 8 rfl rfl (by kernel_rfl) (fun K hK => ?_)
      refine wp_value (v := .pointer (some ⟨H, 4, none⟩)) (w' := R4) ?_ (hK _ _ ⟨hcf4, hr4⟩ ?_)
      · go_simp
      clear hK K
      simp only [Act.put, List.getElem_toArray, List.getElem_cons_zero, List.getElem_cons_succ, List.setIfInBounds_toArray, List.set_cons_zero, List.set_cons_succ]
      refine Last.wpL_last rfl rfl (by kernel_rfl) (by kernel_rfl) (fun K hK => ?_)
      refine wp_skip (w' := R4.setCell ⟨H, 4, none⟩ (.slice (some ⟨g4, 0, none⟩) m4 c4)) ?_ (hK _ _ ?_)
      · go_simp
      clear hK K
      simp only [Act.put, List.getElem_toArray, List.getElem_cons_zero, List.getElem_cons_succ, List.setIfInBounds_toArray, List.set_cons_zero, List.set_cons_succ]
      generalize hWn : R4.setCell ⟨H, 4, none⟩ (.slice (some ⟨g4, 0, none⟩) m4 c4) = W5 at *
      generalize upd _ _ _ = vs5 at Z4
      have X5 := Z4
      clear hWn Z4 hV4 hS hq4 ht4 hr4 hcf4 hff4 happ4 hbs4 hc4 tc4 hW4
      subst hH
      rw [lvl_next] at X5
      go_wp2
      go_roundw
      case rel => exact ⟨i + 1, by omega, by go_num, vs5, X5⟩
      case measure => simp [intOf]; omega
    · obtain rfl : n = i := by omega
      have CQ : ∀ W : World, Below w.heap.size w W → ∀ j v, w.cell? ⟨q, j, none⟩ = some v → W.cell? ⟨q, j, none⟩ = some v := fun W hW j v hv => (hW.cell (p := ⟨q, j, none⟩) hqb).trans hv
      have k2 := CQ wr X0.bel 2 _ hh2
      obtain ⟨g5, c5, V5, happ, ⟨u5, hu5⟩, hf5, X1⟩ := X0.fresh5 rfl M lc lb hM hM2 (fun j hj => (X0.bel.cell (p := ⟨lb, j, none⟩) (block_lt_of_cell (hF j hj))).trans (hF j hj)) (fun j => rfl)
      rw [lvB_first] at X1
      generalize upd vs0 5 _ = vs1 at X1
      have k0 := CQ _ X1.bel 0 _ hh0
      have k1 := CQ _ X1.bel 1 _ hh1
      generalize hW1 : V5.setCell ⟨w.heap.size + 1, 5, none⟩ (.slice (some ⟨g5, 0, none⟩) M c5) = W1 at X1 k0 k1
      go_wp2_with (at_builtin; refine wpList_append rfl (.const (.slice none 0 0)) (.tmp 70) 24 rfl rfl rfl happ ?_)
      clear X0 happ hu5 hf5 k2 k0 k1 hW1
      go_loopw [79] (fun kv w2 => ∃ k : Nat, k ≤ pgs n ∧ kv = .int .i64 k ∧ ∃ vs, Vw w w2 (fldT T n F) vs (lvB n M k)) (fun kv _ => pgs n - (intOf kv).toNat)
      case atStart => exact ⟨0, Nat.zero_le _, rfl, vs1, X1⟩
      case round =>
        clear X1
        obtain ⟨k, hk, rfl, vs2, X⟩ := hrel
        have hpn : pgs n ≤ 100 := by unfold pgs; omega
        by_cases hlk : k < pgs n
        · obtain ⟨rfl, hg1, hg2, hg3⟩ := h.ga (pgs_pos.1 (by omega))
          have hpg := h.page k hlk
          have htop := h.top
          obtain ⟨pl, hpl⟩ : ∃ pl, pl = min 1024 (n - 1024 * k) := ⟨_, rfl⟩
          rw [← hpl] at hpg
          have kp := (X.bel.cell (p := ⟨g, k, none⟩) (by show g < _; omega)).trans hpg
          have hfl : fldT T n F 6 k = .int .i64 pl := by rw [hpl]; rfl
          have hlv : lvB n M k 6 = k := rfl
          obtain ⟨V1, hV1⟩ : ∃ V, V = wr.alloc (.cells #[.int .i64 pl] 3) := ⟨_, rfl⟩
          obtain ⟨g6, c6, R6, happ, _, hcf, hff, _, Z⟩ := X.append 6 (by unfold grows; decide) 22 Try.underlying22 1 1 wr.heap.size (by decide) (by rw [hlv]; omega) (V1 := V1) (by rw [hV1]; exact (Below.refl _ _).alloc (Nat.le_refl _) _) (fun j hj => by obtain rfl : j = 0 := (by omega); rw [hV1, World.cell?_alloc_at _ _ _ _ rfl, hlv, Nat.add_zero, hfl]; rfl) (fun j => rfl)
          rw [lvB_next] at Z
          rw [hlv] at happ Z
          have hc6 := X.cell 6 (by unfold grows; decide)
          clear hlv hfl hpl X
          generalize vs2 6 = a6 at *
          generalize upd vs2 6 _ = vs3 at Z
          generalize pgs n = N at *
          rw [hV1] at happ
          go_wp2_with (at_builtin; refine wpList_append rfl (.tmp 84) (.tmp 87) 22 rfl rfl rfl happ ?_)
          go_roundw
          case rel => exact ⟨k + 1, by omega, by go_num, vs3, Z⟩
          case measure => simp [intOf]; omega
        · obtain rfl : k = pgs n := by omega
          obtain ⟨p0, k0, c0, S0⟩ := X.shape 0 (by decide) n rfl
          obtain ⟨p1, k1, c1, S1⟩ := X.shape 1 (by decide) n rfl
          obtain ⟨p2, k2, c2, S2⟩ := X.shape 2 (by decide) n rfl
          obtain ⟨p3, k3, c3, S3⟩ := X.shape 3 (by decide) n rfl
          obtain ⟨p4, k4, c4, S4⟩ := X.shape 4 (by decide) n rfl
          obtain ⟨p5, k5, c5, S5⟩ := X.shape 5 (by decide) M rfl
          obtain ⟨p6, k6, c6, S6⟩ := X.shape 6 (by decide) (pgs n) rfl
          have hbel := X.bel
          have hsiz := X.siz
          have hq3 := CQ wr X.bel 3 _ hh3
          have hq4 := CQ wr X.bel 4 _ hh4
          have hq5 := CQ wr X.bel 5 _ hh5
          have hq1 := CQ wr X.bel 1 _ hh1
          have hth := X.th
          have hres := X.res
          clear X CQ h hh0 hh1 hh2 hh3 hh4 hh5
          obtain ⟨u7, e7⟩ := Option.isSome_iff_exists.1 (hth 7 (by decide)).1
          obtain ⟨u8, e8⟩ := Option.isSome_iff_exists.1 (hth 8 (by decide)).1
          obtain ⟨u9, e9⟩ := Option.isSome_iff_exists.1 (hth 9 (by decide)).1
          obtain ⟨u10, e10⟩ := Option.isSome_iff_exists.1 (hth 10 (by decide)).1
          have f7 := (hth 7 (by decide)).2
          have f8 := (hth 8 (by decide)).2
          have f9 := (hth 9 (by decide)).2
          have f10 := (hth 10 (by decide)).2
          simp only [Nat.zero_add] at e7 e8 e9 e10 f7 f8 f9 f10
          have hqn : q ≠ w.heap.size + 1 := by omega
          have hqn' : w.heap.size + 1 ≠ q := by omega
          obtain ⟨Wa, hWa⟩ : ∃ Wa, Wa = (((wr.setCell ⟨w.heap.size + 1, 7, none⟩ (.int .i64 held)).setCell ⟨w.heap.size + 1, 8, none⟩ (.int .i64 waiting)).setCell ⟨w.heap.size + 1, 9, none⟩ (.int .i64 first)).setCell ⟨w.heap.size + 1, 10, none⟩ (.int .i64 n) := ⟨_, rfl⟩
          have hra : Wa.rangeAt (w.heap.size + 1) 0 [.slice p0 n k0, .slice p1 n k1, .slice p2 n k2, .slice p3 n k3, .slice p4 n k4, .slice p5 M k5, .slice p6 (pgs n) k6, .int .i64 held, .int .i64 waiting, .int .i64 first, .int .i64 n] := by
            rw [hWa]
            intro j v hv
            match j, hv with
            | 0, hv => simp at hv; subst hv; go_simp
            | 1, hv => simp at hv; subst hv; go_simp
            | 2, hv => simp at hv; subst hv; go_simp
            | 3, hv => simp at hv; subst hv; go_simp
            | 4, hv => simp at hv; subst hv; go_simp
            | 5, hv => simp at hv; subst hv; go_simp
            | 6, hv => simp at hv; subst hv; go_simp
            | 7, hv => simp at hv; subst hv; go_simp
            | 8, hv => simp at hv; subst hv; go_simp
            | 9, hv => simp at hv; subst hv; go_simp
            | 10, hv => simp at hv; subst hv; go_simp
            | j + 11, hv => simp at hv
          have hta : Wa.there w.heap.size 0 11 := by
            rw [hWa]
            exact there_setCell (there_setCell (there_setCell (there_setCell hres _ _) _ _) _ _) _ _
          clear c0 c1 c2 c3 c4 c5 c6 hth hres
          rw [hWa] at hra hta
          obtain ⟨cs, hcs⟩ : ∃ cs : List Value, cs = [.slice p0 n k0, .slice p1 n k1, .slice p2 n k2, .slice p3 n k3, .slice p4 n k4, .slice p5 M k5, .slice p6 (pgs n) k6, .int .i64 held, .int .i64 waiting, .int .i64 first, .int .i64 n] := ⟨_, rfl⟩
          have hcl : cs.length = 11 := by rw [hcs]; rfl
          have hca : cs.toArray.all (·.oneCell') = true := by rw [hcs]; simp [Value.oneCell']
          rw [← hcs] at hra
          have HC : Hid (cs = [.slice p0 n k0, .slice p1 n k1, .slice p2 n k2, .slice p3 n k3, .slice p4 n k4, .slice p5 M k5, .slice p6 (pgs n) k6, .int .i64 held, .int .i64 waiting, .int .i64 first, .int .i64 n]) := hcs
          clear hcs hWa
          go_wp2_with (refine wpList_load33 rfl (.tmp 3) rfl (w.heap.size + 1) ?hx1 cs hcl ?hc1 ?_; (case hx1 => (simp [Act.eval]; done)); (case hc1 => exact hra); go_must (refine wpList_store33 rfl (.tmp 2) (.tmp 112) rfl w.heap.size cs ?hx2 ?hy2 hcl ?ht2 hca ?_; (case ht2 => exact hta); (case hx2 => (simp [Act.eval, Act.put]; done)); (case hy2 => (simp [Act.eval, Act.put]; done))))
          generalize hWb : ((((wr.setCell ⟨w.heap.size + 1, 7, none⟩ (.int .i64 held)).setCell ⟨w.heap.size + 1, 8, none⟩ (.int .i64 waiting)).setCell ⟨w.heap.size + 1, 9, none⟩ (.int .i64 first)).setCell ⟨w.heap.size + 1, 10, none⟩ (.int .i64 n)) = Wb at *
          have sb : Wb.heap.size = wr.heap.size := by rw [← hWb]; simp only [size_setCell]
          have bb : ∀ k, k ≠ w.heap.size + 1 → Wb.heap[k]? = wr.heap[k]? := fun k hk => by
            rw [← hWb, Below.heap_setCell _ _ _ _ hk, Below.heap_setCell _ _ _ _ hk, Below.heap_setCell _ _ _ _ hk, Below.heap_setCell _ _ _ _ hk]
          have bbel : Below w.heap.size w Wb := by
            rw [← hWb]
            exact (((hbel.setCell (Nat.le_succ _) _).setCell (Nat.le_succ _) _).setCell (Nat.le_succ _) _).setCell (Nat.le_succ _) _
          have hrf : (Wb.setCells w.heap.size 0 cs).rangeAt w.heap.size 0 cs := World.rangeAt_setCells_same _ _ _ _ (by rw [hcl]; exact hta)
          have V : Within w.heap.size (w.heap.size + 1) Wb (Wb.setCells w.heap.size 0 cs) := Within.setCells (.inr ⟨Nat.le_refl _, Nat.lt_succ_self _⟩) _ _ _ (Within.refl _ _ _)
          have sf : (Wb.setCells w.heap.size 0 cs).heap.size = wr.heap.size := by rw [size_setCells, sb]
          have bf : ∀ k, w.heap.size + 2 ≤ k → (Wb.setCells w.heap.size 0 cs).heap[k]? = wr.heap[k]? := fun k hk => by
            by_cases hk2 : k < Wb.heap.size
            · rw [V.block k hk2 (by omega), bb k (by omega)]
            · rw [Array.getElem?_eq_none (by omega), Array.getElem?_eq_none (by omega)]
          have belf : Below w.heap.size w (Wb.setCells w.heap.size 0 cs) := bbel.trans (V.below (Nat.le_refl _) (by have := bbel.size; omega))
          refine bodyPost_ret (v := .agg cs.toArray) (res11 _ _ w.heap.size cs hcl ?_ hrf) rfl ?_
          · simp [Act.put]
          refine ⟨fun f => match f with | 0 => p0 | 1 => p1 | 2 => p2 | 3 => p3 | 4 => p4 | 5 => p5 | _ => p6, fun f => match f with | 0 => k0 | 1 => k1 | 2 => k2 | 3 => k3 | 4 => k4 | 5 => k5 | _ => k6, ?_, belf, ?_⟩
          · rw [show cs = [.slice p0 n k0, .slice p1 n k1, .slice p2 n k2, .slice p3 n k3, .slice p4 n k4, .slice p5 M k5, .slice p6 (pgs n) k6, .int .i64 held, .int .i64 waiting, .int .i64 first, .int .i64 n] from HC]
            rfl
          · intro f hf
            match f, hf with
            | 0, _ => exact seen_keep S0 sf bf
            | 1, _ => exact seen_keep S1 sf bf
            | 2, _ => exact seen_keep S2 sf bf
            | 3, _ => exact seen_keep S3 sf bf
            | 4, _ => exact seen_keep S4 sf bf
            | 5, _ => exact seen_keep S5 sf bf
            | 6, _ => exact seen_keep S6 sf bf
end
end Go.Proofs.Qxb6609061a.Line
