import Derived.Test.Qxb6609061aCompact
import Derived.Deep.OwnRows
namespace Go.Proofs.Qxb6609061a.Line
open Go.RowKit

/-- The number of leaves: the least power of two that leaves room for twice n tasks. -/
def lvGo (n : Nat) : Nat → Nat → Nat
  | 0, L => L
  | f + 1, L => if L * 8 < 2 * n then lvGo n f (2 * L) else L
def lvs (n : Nat) : Nat := lvGo n 17 1

theorem lvGo_pow (n : Nat) : ∀ f L, (∃ e, L = 2 ^ e) → ∃ e, lvGo n f L = 2 ^ e
  | 0, _, h => h
  | f + 1, L, ⟨e, he⟩ => by
    unfold lvGo
    split
    · exact lvGo_pow n f (2 * L) ⟨e + 1, by rw [he, Nat.pow_succ]; omega⟩
    · exact ⟨e, he⟩

theorem lvs_pow (n : Nat) : ∃ e, lvs n = 2 ^ e := lvGo_pow n 17 1 ⟨0, rfl⟩

theorem lvGo_done {n f L : Nat} (h : ¬ L * 8 < 2 * n) : lvGo n f L = L := by
  cases f with
  | zero => rfl
  | succ f => unfold lvGo; rw [if_neg h]

theorem lvGo_step {n f L : Nat} (h : L * 8 < 2 * n) : lvGo n (f + 1) L = lvGo n f (2 * L) := by
  rw [lvGo, if_pos h]

/-- What the loop has reached: L is a power of two, and going on from it comes to the answer. -/
def LvAt (n L : Nat) : Prop := 1 ≤ L ∧ L ≤ 16384 ∧ (L = 1 ∨ (L / 2) * 8 < 2 * n) ∧ (∃ e, L = 2 ^ e) ∧ ∃ f, lvGo n f L = lvs n ∧ 131072 ≤ L * 2 ^ f

theorem LvAt.start (n : Nat) : LvAt n 1 := ⟨by omega, by omega, .inl rfl, ⟨0, rfl⟩, 17, rfl, by decide⟩

theorem LvAt.step {n L : Nat} (h : LvAt n L) (hn : n ≤ 65536) (hl : L * 8 < 2 * n) : LvAt n (2 * L) := by
  obtain ⟨h1, h2, h3, ⟨e, he⟩, f, h4, h5⟩ := h
  have hf : 0 < f := by
    rcases Nat.eq_zero_or_pos f with h0 | h0
    · subst h0; simp at h5; omega
    · exact h0
  obtain ⟨f', rfl⟩ : ∃ f', f = f' + 1 := ⟨f - 1, by omega⟩
  have hle : 2 * L ≤ 16384 := by
    have he14 : e ≤ 13 := by
      rcases Nat.lt_or_ge 13 e with h | h
      · have := Nat.pow_le_pow_right (show 0 < 2 by decide) h
        rw [← he] at this
        have h16 : (2 : Nat) ^ (13 + 1) = 16384 := by decide
        have : 16384 ≤ L := by rw [← h16]; exact this
        omega
      · exact h
    have := Nat.pow_le_pow_right (show 0 < 2 by decide) he14
    rw [← he] at this
    have h16 : (2 : Nat) ^ 13 = 8192 := by decide
    omega
  refine ⟨by omega, hle, .inr (by rw [Nat.mul_div_cancel_left L (by decide : 0 < 2)]; exact hl), ⟨e + 1, by rw [he, Nat.pow_succ]; omega⟩, f', ?_, ?_⟩
  · rw [← lvGo_step hl]; exact h4
  · rw [Nat.pow_succ] at h5
    rw [Nat.mul_comm 2 L, Nat.mul_assoc, Nat.mul_comm 2 (2 ^ f')]; exact h5

theorem LvAt.done {n L : Nat} (h : LvAt n L) (hl : ¬ L * 8 < 2 * n) : L = lvs n := by
  obtain ⟨_, _, _, _, f, h4, _⟩ := h
  rw [lvGo_done hl] at h4; exact h4

/-- The tree over the blocks' least works. -/
structure IsTree (leaf : Nat → Int) (L : Nat) (F : Nat → Int) : Prop where
  zero : F 0 = 0
  leaves : ∀ b, b < L → F (L + b) = leaf b
  inner : ∀ k, 0 < k → k < L → F k = min (F (2 * k)) (F (2 * k + 1))

theorem IsTree.unique {leaf : Nat → Int} {L : Nat} {F F' : Nat → Int} (h : IsTree leaf L F) (h' : IsTree leaf L F') : ∀ k, k < 2 * L → F k = F' k := by
  have key : ∀ d k, 2 * L - k ≤ d → k < 2 * L → F k = F' k := by
    intro d
    induction d with
    | zero => intro k h1 h2; omega
    | succ d ih =>
      intro k h1 h2
      by_cases h0 : k = 0
      · subst h0; rw [h.zero, h'.zero]
      · by_cases hk : k < L
        · rw [h.inner k (by omega) hk, h'.inner k (by omega) hk, ih (2 * k) (by omega) (by omega), ih (2 * k + 1) (by omega) (by omega)]
        · have := h.leaves (k - L) (by omega)
          have h2' := h'.leaves (k - L) (by omega)
          rw [show L + (k - L) = k by omega] at this h2'
          rw [this, h2']
  exact fun k hk => key (2 * L - k) k (Nat.le_refl _) hk

/-- The least work of block b. -/
def leafOf (T : Nat → Task) (n b : Nat) : Int := minTo T (b * 8) (min 8 (n - b * 8))

section
variable {w : World} {lo hi q : Nat} {pa : Option Addr} {g cap : Nat} {pb : Nat → Nat} {n : Nat} {T : Nat → Task} {least : Value} {held waiting first : Int}

/-- A head's cell written: the two that build writes. -/
theorem Line.setq (h : Line w lo hi q pa g cap pb n T least held waiting first) (j : Nat) (hj : j = 2 ∨ j = 5) (v : Value) (first' : Int) (least' : Value) (h2 : least' = if j = 2 then v else least) (h5 : Value.int .i64 first' = if j = 5 then v else .int .i64 first) :
    Line (w.setCell ⟨q, j, none⟩ v) lo hi q pa g cap pb n T least' held waiting first' := by
  have hs : ∀ b, b ≠ q → (w.setCell ⟨q, j, none⟩ v).heap[b]? = w.heap[b]? := fun b hb => Below.heap_setCell _ _ _ _ hb
  have hc : ∀ i, i ≠ j → ∀ u, w.cell? ⟨q, i, none⟩ = some u → (w.setCell ⟨q, j, none⟩ v).cell? ⟨q, i, none⟩ = some u := fun i hi' u hu => cset hu _ (by intro e; simp only [Addr.mk.injEq] at e; omega)
  refine ⟨h.hq, by rw [size_setCell]; exact h.top, hc 0 (by omega) _ h.head0, hc 1 (by omega) _ h.head1, ?_, hc 3 (by omega) _ h.head3, hc 4 (by omega) _ h.head4, ?_, there_setCell h.qth _ _, h.hpa, h.hcap, there_setCell h.gth _ _, fun k hk => ?_, h.pbr, h.inj, fun k hk => there_setCell (h.pth k hk) _ _, fun i hi' => ?_⟩
  · rcases hj with rfl | rfl
    · rw [h2, if_pos rfl]; exact World.cell?_setCell_same _ _ _ h.head2
    · rw [h2, if_neg (by decide)]; exact hc 2 (by decide) _ h.head2
  · rcases hj with rfl | rfl
    · rw [h5, if_neg (by decide)]; exact hc 5 (by decide) _ h.head5
    · rw [h5, if_pos rfl]; exact World.cell?_setCell_same _ _ _ h.head5
  · have h0 : 0 < n := pgs_pos.1 (by omega)
    exact cset (h.page k hk) _ (fun e => (h.ga h0).2.2.2 (congrArg Addr.block e).symm)
  · exact range_setCell (h.task i hi') (Ne.symm (h.pbr _ (pgs_lt hi')).2.2.1) _

theorem Line.alloc (h : Line w lo hi q pa g cap pb n T least held waiting first) (o : Obj) : Line (w.alloc o) lo hi q pa g cap pb n T least held waiting first :=
  h.keep (by simp) (fun k _ hk => Below.heap_alloc _ _ _ (Nat.lt_of_lt_of_le hk h.top))

theorem info37x : (Try.prog.info? 37).map (fun i => (i.zero, i.size, i.bytes)) = some (some (.int .u64 0), 1, 8) := by kernel_rfl

/-- The tree's cells at block lb. -/
def Cells64 (w : World) (lb m : Nat) (F : Nat → Int) : Prop := w.there lb 0 m ∧ ∀ k, k < m → w.cell? ⟨lb, k, none⟩ = some (.int .u64 (F k))

theorem Cells64.set {lb m : Nat} {F : Nat → Int} (h : Cells64 w lb m F) (k : Nat) (hk : k < m) (x : Int) : Cells64 (w.setCell ⟨lb, k, none⟩ (.int .u64 x)) lb m (fun j => if j = k then x else F j) := by
  refine ⟨there_setCell h.1 _ _, fun j hj => ?_⟩
  by_cases e : j = k
  · subst e
    simp only [if_pos]
    exact World.cell?_setCell_same _ _ _ (h.2 j hj)
  · simp only [if_neg e]
    exact cset (h.2 j hj) _ (by intro h; simp only [Addr.mk.injEq] at h; omega)

theorem Cells64.same {w' : World} {lb m : Nat} {F : Nat → Int} (h : Cells64 w lb m F) (hb : w'.heap[lb]? = w.heap[lb]?) : Cells64 w' lb m F :=
  ⟨there_same hb h.1, fun k hk => by rw [World.cell?_of_block (w := w) (a := ⟨lb, k, none⟩) hb]; exact h.2 k hk⟩

theorem Cells64.drew {lb m : Nat} {F : Nat → Int} (h : Cells64 w lb m F) : Cells64 w.drew lb m F := h.same rfl

theorem Line.setOther (h : Line w lo hi q pa g cap pb n T least held waiting first) {a : Addr} (ha : hi ≤ a.block) (v : Value) : Line (w.setCell a v) lo hi q pa g cap pb n T least held waiting first :=
  h.keep (by rw [size_setCell]; exact Nat.le_refl _) (fun k _ hk => Below.heap_setCell _ _ _ _ (by omega))

set_option maxHeartbeats 1600000 in
set_option maxRecDepth 100000 in
theorem build_any (h : Line w lo hi q pa g cap pb n T least held waiting first) (hn : n ≤ 65536) (hw : ∀ i, i < n → 0 ≤ (T i).work ∧ (T i).work ≤ 9223372036854775807) :
    Calls Try.prog 36 #[.pointer (some ⟨q, 0, none⟩)] w fun e w' => e = .returned (.tuple #[]) ∧ ∃ (lb : Nat) (F : Nat → Int), Line w' lo hi q pa g cap pb n T (.slice (some ⟨lb, 0, none⟩) (2 * lvs n) (2 * lvs n)) held waiting 0 ∧ Within lo hi w w' ∧ Cells64 w' lb (2 * lvs n) F ∧ IsTree (leafOf T n) (lvs n) F ∧ w.heap.size ≤ lb := by
  have h5 := h.head5
  have f5 : w.frozen? ⟨q, 5, none⟩ = false := there_frozen h.qth (Nat.zero_le _) (by omega)
  go_enter Try.func36, Try.ntmps36
  go_wp2
  generalize hW1 : w.setCell _ _ = W1
  have hL1 : Line W1 lo hi q pa g cap pb n T least held waiting 0 := by rw [← hW1]; exact h.setq 5 (.inr rfl) _ 0 least (by simp) (by simp)
  have hw1 : Within lo hi w W1 := by rw [← hW1]; exact (Within.refl _ _ _).setCell (p := ⟨q, 5, none⟩) (.inr h.hq) _
  have hsz1 : W1.heap.size = w.heap.size := by rw [← hW1]; exact size_setCell _ _ _
  have HSZ : Hid (W1.heap.size = w.heap.size) := hsz1
  clear hW1 hsz1 h5 f5
  have c1 := hL1.head1
  go_loop [2] (fun lv => ∃ L : Nat, lv = .int .i64 L ∧ LvAt n L) (fun lv => 16385 - (intOf lv).toNat)
  case atStart => exact ⟨1, rfl, LvAt.start n⟩
  case round =>
    obtain ⟨L, rfl, hLv⟩ := hrel
    have hLb1 := hLv.1
    have hLb2 := hLv.2.1
    have HLV : Hid (LvAt n L) := hLv
    clear hLv
    by_cases hlt : L * 8 < 2 * n
    · have hst := LvAt.step HLV.out hn hlt
      have hst2 := hst.2.1
      have HST : Hid (LvAt n (2 * L)) := hst
      clear hst
      go_wp2
      go_round
      case rel => exact ⟨2 * L, by go_num, HST.out⟩
      case measure => simp [intOf]; omega
    · have hdone := LvAt.done HLV.out hlt
      have HDN : Hid (L = lvs n) := hdone
      clear hdone
      have hmk := run_make_row' (P := Try.prog) 24 37 (.int .u64 0) 8 Try.underlying24 info37x rfl .i64 .i64 (2 * L) (by omega) (by omega)
      have e2 : ((2 * L : Nat) : Int) = 2 * (L : Int) := by omega
      rw [e2] at hmk
      clear e2
      have a2 := (hL1.alloc (.cells (madeCells #[.int .u64 0] (2 * L)) 37)).head2
      have f2 : (W1.alloc (.cells (madeCells #[.int .u64 0] (2 * L)) 37)).frozen? ⟨q, 2, none⟩ = false := there_frozen (hL1.alloc _).qth (Nat.zero_le _) (by omega)
      have hltB : decide ((L : Int) * 8 < 2 * (n : Int)) = false := decide_eq_false (by omega)
      go_wp2
      generalize hlb : W1.heap.size = lb
      have hC0 : Cells64 (W1.alloc (.cells (madeCells #[.int .u64 0] (2 * L)) 37)) lb (2 * L) (fun _ => 0) := by
        rw [← hlb]
        refine ⟨there_block (heap_new _ _) 0 (2 * L) (by rw [size_madeCells]; omega), fun k hk => ?_⟩
        rw [cell_of_row _ _ k _ 37 (0, 0) (heap_new _ _)]
        simp [madeCells, hk, Nat.mod_one]
      generalize hW2 : World.setCell _ _ _ = W2
      have hlbhi : hi ≤ lb := by rw [← hlb]; exact hL1.top
      have hL2 : Line W2 lo hi q pa g cap pb n T (.slice (some ⟨lb, 0, none⟩) (2 * L) (2 * L)) held waiting 0 := by
        rw [← hW2]; exact (hL1.alloc _).setq 2 (.inl rfl) _ 0 _ (by simp) (by simp)
      have hw2 : Within lo hi w W2 := by rw [← hW2]; exact (hw1.alloc _).setCell (p := ⟨q, 2, none⟩) (.inr h.hq) _
      have hC2 : Cells64 W2 lb (2 * L) (fun _ => 0) := by
        rw [← hW2]; exact hC0.same (Below.heap_setCell _ _ _ _ (by have := h.hq; show lb ≠ q; omega))
      have HLB : Hid (w.heap.size ≤ lb) := by rw [← hlb, HSZ.out]; exact Nat.le_refl _
      have hwlb : w.heap.size ≤ lb := HLB
      clear hW2 hlb hC0 a2 f2 hmk hL1 hw1 HSZ c1
      go_loopw [26] (fun bv wr => ∃ (b : Nat) (F : Nat → Int), b ≤ L ∧ bv = .int .i64 b ∧ Line wr lo hi q pa g cap pb n T (.slice (some ⟨lb, 0, none⟩) (2 * L) (2 * L)) held waiting 0 ∧ Within lo hi w wr ∧ Cells64 wr lb (2 * L) F ∧ F 0 = 0 ∧ ∀ j, j < b → F (L + j) = leafOf T n j) (fun bv _ => L - (intOf bv).toNat)
      case atStart => exact ⟨0, fun _ => 0, Nat.zero_le _, rfl, hL2, hw2, hC2, rfl, fun j hj => absurd hj (Nat.not_lt_zero _)⟩
      case round =>
        obtain ⟨b, F, hb, rfl, hLr, hwr, hCr, hF0, hFl⟩ := hrel
        by_cases hbl : b < L
        · have hblk := block_any hLr.drew hn hw b (by omega)
          have hq2 := hLr.head2
          have hold := hCr.2 (L + b) (by omega)
          have hfz : wr.frozen? ⟨lb, L + b, none⟩ = false := there_frozen hCr.1 (Nat.zero_le _) (by omega)
          have hset := hCr.set (L + b) (by omega) (leafOf T n b)
          have hLset := hLr.setOther (a := ⟨lb, L + b, none⟩) hlbhi (.int .u64 (leafOf T n b))
          have hwset := hwr.setCell (p := ⟨lb, L + b, none⟩) (.inl hwlb) (.int .u64 (leafOf T n b))
          have HS : Hid (Cells64 (wr.setCell ⟨lb, L + b, none⟩ (.int .u64 (leafOf T n b))) lb (2 * L) (fun j => if j = L + b then leafOf T n b else F j) ∧ Line (wr.setCell ⟨lb, L + b, none⟩ (.int .u64 (leafOf T n b))) lo hi q pa g cap pb n T (.slice (some ⟨lb, 0, none⟩) (2 * L) (2 * L)) held waiting 0 ∧ Within lo hi w (wr.setCell ⟨lb, L + b, none⟩ (.int .u64 (leafOf T n b)))) := ⟨hset, hLset, hwset⟩
          have HF : Hid ((if 0 = L + b then leafOf T n b else F 0) = 0 ∧ ∀ j, j < b + 1 → (if L + j = L + b then leafOf T n b else F (L + j)) = leafOf T n j) := by
            refine ⟨by rw [if_neg (by omega)]; exact hF0, fun j hj => ?_⟩
            by_cases e : j = b
            · subst e; simp
            · rw [if_neg (by omega)]; exact hFl j (by omega)
          have hblk' : Calls Try.prog 38 #[.pointer (some ⟨q, 0, none⟩), .int .i64 b] wr.drew fun e w' => e = .returned (.int .u64 (leafOf T n b)) ∧ w' = wr.drew := hblk
          clear hset hLset hwset hLr hwr hCr hF0 hFl hL2 hw2 hC2 hblk
          generalize leafOf T n b = x at *
          have t1 : IntKind.i64.wrap ((L : Int) + (b : Int)) = (L : Int) + (b : Int) := by rw [IntKind.wrap_i64]; omega
          go_wp2_with fail
          go_region_with (go_at_call 38; refine hblk'.mono ?_; rintro e w1 ⟨rfl, hw1⟩; rw [hw1]; clear hw1)
          all_goals
            go_wp2
            go_roundw
            case rel => exact ⟨b + 1, _, by omega, by go_num, HS.out.2.1.drew, HS.out.2.2.drew, HS.out.1.drew, HF.out⟩
            case measure => simp [intOf]; omega
        · obtain rfl : L = b := by omega
          clear hL2 hw2 hC2
          go_wp2
          go_loopw [4] (fun kv wr => ∃ (k : Nat) (F : Nat → Int), k < L ∧ kv = .int .i64 k ∧ Line wr lo hi q pa g cap pb n T (.slice (some ⟨lb, 0, none⟩) (2 * L) (2 * L)) held waiting 0 ∧ Within lo hi w wr ∧ Cells64 wr lb (2 * L) F ∧ F 0 = 0 ∧ (∀ j, j < L → F (L + j) = leafOf T n j) ∧ ∀ j, k < j → j < L → F j = min (F (2 * j)) (F (2 * j + 1))) (fun kv _ => (intOf kv).toNat)
          case atStart => exact ⟨L - 1, F, by omega, by go_num, hLr, hwr, hCr, hF0, hFl, fun j h1 h2 => absurd h1 (by omega)⟩
          case round =>
            clear hLr hwr hCr hF0 hFl F
            obtain ⟨k, F, hk, rfl, hLr, hwr, hCr, hF0, hFl, hFi⟩ := hrel
            by_cases hk0 : 0 < k
            · have hq2 := hLr.head2
              have hold := hCr.2 k (by omega)
              have ha := hCr.2 (2 * k) (by omega)
              have hb' := hCr.2 (2 * k + 1) (by omega)
              have hfz : wr.frozen? ⟨lb, k, none⟩ = false := there_frozen hCr.1 (Nat.zero_le _) (by omega)
              have HS : Hid (∀ x, Cells64 (wr.setCell ⟨lb, k, none⟩ (.int .u64 x)) lb (2 * L) (fun j => if j = k then x else F j) ∧ Line (wr.setCell ⟨lb, k, none⟩ (.int .u64 x)) lo hi q pa g cap pb n T (.slice (some ⟨lb, 0, none⟩) (2 * L) (2 * L)) held waiting 0 ∧ Within lo hi w (wr.setCell ⟨lb, k, none⟩ (.int .u64 x))) :=
                fun x => ⟨hCr.set k (by omega) x, hLr.setOther (a := ⟨lb, k, none⟩) hlbhi _, hwr.setCell (p := ⟨lb, k, none⟩) (.inl hwlb) _⟩
              have HF : Hid (∀ x, x = min (F (2 * k)) (F (2 * k + 1)) → (if 0 = k then x else F 0) = 0 ∧ (∀ j, j < L → (if L + j = k then x else F (L + j)) = leafOf T n j) ∧ ∀ j, k - 1 < j → j < L → (if j = k then x else F j) = min (if 2 * j = k then x else F (2 * j)) (if 2 * j + 1 = k then x else F (2 * j + 1))) := by
                intro x hx
                refine ⟨by rw [if_neg (by omega)]; exact hF0, fun j hj => by rw [if_neg (by omega)]; exact hFl j hj, fun j h1 h2 => ?_⟩
                by_cases e : j = k
                · subst e
                  rw [if_pos rfl, if_neg (by omega), if_neg (by omega)]; exact hx
                · rw [if_neg e, if_neg (by omega), if_neg (by omega)]; exact hFi j (by omega) h2
              clear hLr hwr hCr hF0 hFl hFi
              generalize F (2 * k) = x1 at *
              generalize F (2 * k + 1) = x2 at *
              have t1 : IntKind.i64.wrap (2 * (k : Int)) = 2 * (k : Int) := by rw [IntKind.wrap_i64]; omega
              have t2 : IntKind.i64.wrap (2 * (k : Int) + 1) = 2 * (k : Int) + 1 := by rw [IntKind.wrap_i64]; omega
              have p1 : (k : Int) < 2 * (L : Int) := by omega
              have p2 : 2 * (k : Int) < 2 * (L : Int) := by omega
              have p3 : 2 * (k : Int) + 1 < 2 * (L : Int) := by omega
              by_cases hle : x1 ≤ x2
              · go_wp2_with fail
                go_big_region
                go_wp2
                go_roundw
                case rel => exact ⟨k - 1, _, by omega, by go_num, (HS.out _).2.1.drew, (HS.out _).2.2.drew, (HS.out _).1.drew, HF.out _ (by rw [Int.min_eq_left hle])⟩
                case measure => simp [intOf]; omega
              · go_wp2_with fail
                go_big_region
                go_wp2
                go_roundw
                case rel => exact ⟨k - 1, _, by omega, by go_num, (HS.out _).2.1.drew, (HS.out _).2.2.drew, (HS.out _).1.drew, HF.out _ (by rw [Int.min_eq_right (by omega)])⟩
                case measure => simp [intOf]; omega
            · obtain rfl : k = 0 := by omega
              have htree : IsTree (leafOf T n) L F := ⟨hF0, hFl, fun j h1 h2 => hFi j h1 h2⟩
              rw [HDN.out] at hLr hCr htree
              go_wp2
              go_end0
              exact ⟨rfl, lb, F, hLr, hwr, hCr, htree, HLB.out⟩
end
end Go.Proofs.Qxb6609061a.Line
