import Derived.Test.Qxb6608960aClone
namespace Go.Proofs.Qxb6608960a.Plans
open Go.RowKit

/-- One credit.Plan as it is built: its reference's pointer last. -/
def PlanD.bs (p : PlanD) (r : Option Addr) : List Value := [.string p.id, .bool p.shop, .bool p.billed, .int .i64 p.billing, .int .i64 p.r0, .int .i64 p.r1, .int .i64 p.r2, .pointer r]

theorem PlanD.blen (p : PlanD) (r : Option Addr) : (p.bs r).length = 8 := rfl

/-- n built plans lie in block b; each may be written; R k: the k-th reference. -/
def Row8 (w : World) (b n : Nat) (D : Nat → PlanD) (R : Nat → Option Addr) : Prop := w.there b 0 (n * 8) ∧ ∀ k, k < n → w.rangeAt b (k * 8) ((D k).bs (R k))

theorem load43x {ops : Array Oper} {rest : List Oper} {op : Oper} {a : Act} {w : World} {Q : Exit → Act → World → Prop} (hgd : op.guard = none) (x : Operand) (ho : op.op = .load 43 x)
    (b o : Nat) (p : PlanD) (hx : a.eval x = .pointer (some ⟨b, o, none⟩)) (hc : w.rangeAt b o p.cs)
    (h : wpList Try.prog ops Q rest (a.put op.dst (.agg #[.string p.id, .bool p.shop, .bool p.billed, .int .i64 p.billing, .int .i64 p.r0, .int .i64 p.r1, .int .i64 p.r2, .bool p.has, .int .i64 p.form, .int .i64 p.value])) w) : wpList Try.prog ops Q (op :: rest) a w :=
  load43 hgd x ho b o p hx hc h

theorem store64 {ops : Array Oper} {rest : List Oper} {op : Oper} {a : Act} {w : World} {Q : Exit → Act → World → Prop} (hgd : op.guard = none) (x y : Operand) (ho : op.op = .store 64 x y)
    (b o : Nat) (p : PlanD) (r : Option Addr) (hx : a.eval x = .pointer (some ⟨b, o, none⟩)) (hy : a.eval y = .agg #[.string p.id, .bool p.shop, .bool p.billed, .int .i64 p.billing, .int .i64 p.r0, .int .i64 p.r1, .int .i64 p.r2, .pointer r]) (ht : w.there b o 8)
    (h : wpList Try.prog ops Q rest (a.put op.dst undef) (w.setCells b o (p.bs r))) : wpList Try.prog ops Q (op :: rest) a w :=
  wpList_store_mid hgd 64 x y ho b o _ hx hy ht info64 (by simp [Value.oneCell']) h

theorem build_step {W wr w1 : World} {n k : Nat} {D : Nat → PlanD} {R : Nat → Option Addr} (r : Option Addr) (hk : k < n) (hth : wr.there W.heap.size 0 (n * 8)) (hr : ∀ j, j < k → wr.rangeAt W.heap.size (j * 8) ((D j).bs (R j)) ∧ (R j).isSome = (D j).has) (hb : Below W.heap.size W wr) (hsz : W.heap.size < wr.heap.size)
    (hg : Below wr.heap.size wr w1) (hrh : r.isSome = (D k).has) :
    (w1.setCells W.heap.size (k * 8) ((D k).bs r)).there W.heap.size 0 (n * 8) ∧ (∃ R' : Nat → Option Addr, ∀ j, j < k + 1 → (w1.setCells W.heap.size (k * 8) ((D k).bs r)).rangeAt W.heap.size (j * 8) ((D j).bs (R' j)) ∧ (R' j).isSome = (D j).has) ∧
      Below W.heap.size W (w1.setCells W.heap.size (k * 8) ((D k).bs r)) ∧ W.heap.size < (w1.setCells W.heap.size (k * 8) ((D k).bs r)).heap.size := by
  have hth1 := there_below hg hsz hth
  refine ⟨World.there_setCells hth1 _ _ _, ⟨fun j => if j = k then r else R j, fun j hj => ?_⟩, below_setCells (Nat.le_refl _) _ _ _ (hb.trans (hg.mono (by omega))), ?_⟩
  · by_cases e : j = k
    · subst e
      simp only [if_pos]
      exact ⟨World.rangeAt_setCells_same _ _ _ _ (there_sub hth1 (by omega) (by rw [PlanD.blen]; omega)), hrh⟩
    · simp only [if_neg e]
      exact ⟨World.rangeAt_setCells_apart (range_below hg hsz (hr j (by omega)).1) _ _ _ (.inr (.inl (by rw [PlanD.blen]; omega))), (hr j (by omega)).2⟩
  · rw [size_setCells]; exact Nat.lt_of_lt_of_le hsz hg.size

set_option maxHeartbeats 400000 in
theorem build_some (b off n cap : Nat) (D : Nat → PlanD) (w : World) (hn : n ≤ 4096) (hD : Row10 w b off n D) :
    Calls Try.prog 18 #[.slice (some ⟨b, off, none⟩) n cap] w fun e w' => e = .returned (.slice (some ⟨w.heap.size, 0, none⟩) n n) ∧ (∃ R, Row8 w' w.heap.size n D R ∧ ∀ k, k < n → (R k).isSome = (D k).has) ∧ Below w.heap.size w w' ∧ w.heap.size < w'.heap.size := by
  obtain ⟨M, hM, hmk⟩ := make_row Try.underlying46 info64x n (by omega) (by omega)
  have HM : Hid (M.size = n * 8) := hM
  clear hM
  go_enter Try.func18, Try.ntmps18
  go_wp2
  go_loopw [4] (fun i wr => ∃ k : Nat, k ≤ n ∧ i = .int .i64 k ∧ wr.there w.heap.size 0 (n * 8) ∧ (∃ R : Nat → Option Addr, ∀ j, j < k → wr.rangeAt w.heap.size (j * 8) ((D j).bs (R j)) ∧ (R j).isSome = (D j).has) ∧ Below w.heap.size w wr ∧ w.heap.size < wr.heap.size) (fun i _ => n - (intOf i).toNat)
  case atStart => exact ⟨0, Nat.zero_le _, rfl, there_block (heap_new _ _) 0 (n * 8) (by rw [HM.out]; omega), ⟨fun _ => none, fun j hj => absurd hj (Nat.not_lt_zero _)⟩, (Below.refl _ _).alloc (Nat.le_refl _) _, by simp⟩
  case round =>
    obtain ⟨k, hk, rfl, hth, ⟨R, hr⟩, hb, hsz⟩ := hrel
    by_cases hlt : k < n
    · have hD' := hD k hlt
      have hl := range_below hb (range_lt hD' (by rw [PlanD.len]; decide)) hD'
      have H := hr
      have HR : Hid _ := H
      clear hr H
      have hs : wr.there w.heap.size (k * 8) 8 := there_sub hth (by omega) (by omega)
      cases hh : (D k).has
      · have hb2 : ∀ c t, Below wr.heap.size wr (wr.alloc (.cells c t)) := fun c t => (Below.refl _ _).alloc (Nat.le_refl _) _
        have HS : Hid _ := fun c t => build_step none hlt hth HR.out hb hsz (hb2 c t) (by rw [hh]; rfl)
        clear hb2 hth hb
        go_wp2_with (first
          | (refine load43x rfl (.tmp 18) rfl b (off + k * 10) (D k) ?hx ?hc ?_; (case hx => (simp [Act.eval]; done)); (case hc => exact hl))
          | (refine store64 rfl (.tmp 50) (.tmp 49) rfl w.heap.size (k * 8) (D k) none ?hx2 ?hy2 ?hs2 ?_; (case hx2 => (simp [Act.eval]; done)); (case hy2 => (simp [Act.eval]; done)); (case hs2 => exact World.there_alloc hs _)))
        go_roundw
        case rel =>
          obtain ⟨q1, q2, q3, q4⟩ := HS.out _ _
          exact ⟨k + 1, by omega, by go_num, q1, q2, q3, q4⟩
        case measure => simp [intOf]; omega
      · have hb2 : ∀ c t c' t', Below wr.heap.size wr ((wr.alloc (.cells c t)).alloc (.cells c' t')) := fun c t c' t' => ((Below.refl _ _).alloc (Nat.le_refl _) _).alloc (by simp) _
        have HS : Hid _ := fun a c t c' t' => build_step (some a) hlt hth HR.out hb hsz (hb2 c t c' t') (by rw [hh]; rfl)
        clear hb2 hth hb
        go_wp2_with (first
          | (refine load43x rfl (.tmp 18) rfl b (off + k * 10) (D k) ?hx ?hc ?_; (case hx => (simp [Act.eval]; done)); (case hc => exact hl))
          | (refine store64 rfl (.tmp 50) (.tmp 49) rfl w.heap.size (k * 8) (D k) (some ⟨wr.heap.size + 1, 0, none⟩) ?hx2 ?hy2 ?hs2 ?_; (case hx2 => (simp [Act.eval]; done)); (case hy2 => (simp [Act.eval]; done)); (case hs2 => exact World.there_alloc (World.there_alloc hs _) _)))
        go_roundw
        case rel =>
          obtain ⟨q1, q2, q3, q4⟩ := HS.out _ _ _ _ _
          exact ⟨k + 1, by omega, by go_num, q1, q2, q3, q4⟩
        case measure => simp [intOf]; omega
    · go_wp2
      go_ret
      refine ⟨rfl, ⟨R, ⟨hth, fun j hj => (hr j (by omega)).1⟩, fun j hj => (hr j (by omega)).2⟩, hb, hsz⟩

set_option maxHeartbeats 400000 in
theorem build_zero (ad : Option Addr) (cap : Nat) (w : World) :
    Calls Try.prog 18 #[.slice ad 0 cap] w fun e w' => e = .returned (.slice (some ⟨w.heap.size, 0, none⟩) 0 0) ∧ Below w.heap.size w w' ∧ w.heap.size < w'.heap.size := by
  obtain ⟨M, _, hmk0⟩ := make_row Try.underlying46 info64x 0 (by omega) (by omega)
  have hmk : ∀ w : World, (Instr.makeSlice 46 (.int .i64 0) (.int .i64 0)).run Try.prog w = .ok (.slice (some ⟨w.heap.size, 0, none⟩) 0 0) (w.alloc (.cells M 64)) := hmk0
  clear hmk0
  go_enter Try.func18, Try.ntmps18
  go_wp2
  go_loopw [4] (fun i wr => i = .int .i64 0 ∧ Below w.heap.size w wr ∧ w.heap.size < wr.heap.size) (fun i _ => (intOf i).toNat)
  case atStart => exact ⟨rfl, (Below.refl _ _).alloc (Nat.le_refl _) _, by simp⟩
  case round =>
    obtain ⟨rfl, hb⟩ := hrel
    go_wp2
    go_ret
    exact ⟨rfl, hb⟩

theorem build_any (ad : Option Addr) (n cap : Nat) (D : Nat → PlanD) (w : World) (hn : n ≤ 4096) (hD : PlansIn w ad n D) :
    Calls Try.prog 18 #[.slice ad n cap] w fun e w' => e = .returned (.slice (some ⟨w.heap.size, 0, none⟩) n n) ∧ (∃ R, Row8 w' w.heap.size n D R ∧ ∀ k, k < n → (R k).isSome = (D k).has) ∧ Below w.heap.size w w' ∧ w.heap.size < w'.heap.size := by
  rcases hD with rfl | ⟨b, off, rfl, hD⟩
  · refine (build_zero ad cap w).mono ?_
    rintro e w' ⟨rfl, hb⟩
    exact ⟨rfl, ⟨fun _ => none, ⟨fun j hj => absurd hj (by omega), fun k hk => absurd hk (Nat.not_lt_zero _)⟩, fun k hk => absurd hk (Nat.not_lt_zero _)⟩, hb⟩
  · exact build_some b off n cap D w hn hD

end Go.Proofs.Qxb6608960a.Plans
