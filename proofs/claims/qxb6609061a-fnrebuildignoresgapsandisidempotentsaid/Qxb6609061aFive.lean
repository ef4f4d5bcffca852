/-
  Five slices of the call's own, filled side by side: the tasks that are kept.
-/
import Derived.Test.Qxb6609061aViews
namespace Go.Proofs.Qxb6609061a.Line
open Go.RowKit

structure Five (w : World) (b1 b2 b3 b4 b5 r c : Nat) (T : Nat → Task) : Prop where
  o1 : Own w b1 r c (fun j => (T j).id)
  o2 : Own w b2 r c (fun j => (T j).submit)
  o3 : Own w b3 r c (fun j => (T j).work)
  o4 : Own w b4 r c (fun j => (T j).count)
  o5 : Own w b5 r c (fun j => (T j).pushed)
  lt : b1 < b2 ∧ b2 < b3 ∧ b3 < b4 ∧ b4 < b5 ∧ b5 < w.heap.size

theorem Five.start (c : Nat) (T : Nat → Task) (w : World) (hc : c ≤ 65536) : ∃ (v1 v2 v3 v4 v5 : World) (b1 b2 b3 b4 b5 : Nat), (Instr.makeSlice 22 (.int .i64 0) (.int .i64 c)).run Try.prog w = .ok (.slice (some ⟨b1, 0, none⟩) 0 c) v1 ∧ (Instr.makeSlice 23 (.int .i64 0) (.int .i64 c)).run Try.prog v1 = .ok (.slice (some ⟨b2, 0, none⟩) 0 c) v2 ∧ (Instr.makeSlice 23 (.int .i64 0) (.int .i64 c)).run Try.prog v2 = .ok (.slice (some ⟨b3, 0, none⟩) 0 c) v3 ∧ (Instr.makeSlice 23 (.int .i64 0) (.int .i64 c)).run Try.prog v3 = .ok (.slice (some ⟨b4, 0, none⟩) 0 c) v4 ∧ (Instr.makeSlice 23 (.int .i64 0) (.int .i64 c)).run Try.prog v4 = .ok (.slice (some ⟨b5, 0, none⟩) 0 c) v5 ∧ Five v5 b1 b2 b3 b4 b5 0 c T ∧ Below w.heap.size w v5 ∧ w.heap.size ≤ b1 := by
  obtain ⟨v1, m1, bl1, z1, O1⟩ := own_start 22 3 Try.underlying22 info3x c (fun j => (T j).id) w hc
  obtain ⟨v2, m2, bl2, z2, O2⟩ := own_start 23 2 Try.underlying23 info2x c (fun j => (T j).submit) v1 hc
  obtain ⟨v3, m3, bl3, z3, O3⟩ := own_start 23 2 Try.underlying23 info2x c (fun j => (T j).work) v2 hc
  obtain ⟨v4, m4, bl4, z4, O4⟩ := own_start 23 2 Try.underlying23 info2x c (fun j => (T j).count) v3 hc
  obtain ⟨v5, m5, bl5, z5, O5⟩ := own_start 23 2 Try.underlying23 info2x c (fun j => (T j).pushed) v4 hc
  replace O1 := O1.below bl2 (by omega)
  replace O1 := O1.below bl3 (by omega)
  replace O1 := O1.below bl4 (by omega)
  replace O1 := O1.below bl5 (by omega)
  replace O2 := O2.below bl3 (by omega)
  replace O2 := O2.below bl4 (by omega)
  replace O2 := O2.below bl5 (by omega)
  replace O3 := O3.below bl4 (by omega)
  replace O3 := O3.below bl5 (by omega)
  replace O4 := O4.below bl5 (by omega)
  exact ⟨v1, v2, v3, v4, v5, _, _, _, _, _, m1, m2, m3, m4, m5, ⟨O1, O2, O3, O4, O5, by omega⟩, ((((bl1.trans (bl2.mono (by omega))).trans (bl3.mono (by omega))).trans (bl4.mono (by omega))).trans (bl5.mono (by omega))), Nat.le_refl _⟩

theorem Five.step {w : World} {b1 b2 b3 b4 b5 r c : Nat} {T : Nat → Task} (h : Five w b1 b2 b3 b4 b5 r c T) (hr : r < c) : ∃ w1 w2 w3 w4 w5 : World, (∀ ty, (Builtin.append_ #[22, 22] ty #[.slice (some ⟨b1, 0, none⟩) r c, .slice (some ⟨w.heap.size, 0, none⟩) 1 1]).run Try.prog (w.alloc (.cells #[.int .i64 (T r).id] 3)) = .ok (.slice (some ⟨b1, 0, none⟩) (r + 1) c) w1) ∧ (∀ ty, (Builtin.append_ #[23, 23] ty #[.slice (some ⟨b2, 0, none⟩) r c, .slice (some ⟨w1.heap.size, 0, none⟩) 1 1]).run Try.prog (w1.alloc (.cells #[.int .i64 (T r).submit] 2)) = .ok (.slice (some ⟨b2, 0, none⟩) (r + 1) c) w2) ∧ (∀ ty, (Builtin.append_ #[23, 23] ty #[.slice (some ⟨b3, 0, none⟩) r c, .slice (some ⟨w2.heap.size, 0, none⟩) 1 1]).run Try.prog (w2.alloc (.cells #[.int .i64 (T r).work] 2)) = .ok (.slice (some ⟨b3, 0, none⟩) (r + 1) c) w3) ∧ (∀ ty, (Builtin.append_ #[23, 23] ty #[.slice (some ⟨b4, 0, none⟩) r c, .slice (some ⟨w3.heap.size, 0, none⟩) 1 1]).run Try.prog (w3.alloc (.cells #[.int .i64 (T r).count] 2)) = .ok (.slice (some ⟨b4, 0, none⟩) (r + 1) c) w4) ∧ (∀ ty, (Builtin.append_ #[23, 23] ty #[.slice (some ⟨b5, 0, none⟩) r c, .slice (some ⟨w4.heap.size, 0, none⟩) 1 1]).run Try.prog (w4.alloc (.cells #[.int .i64 (T r).pushed] 2)) = .ok (.slice (some ⟨b5, 0, none⟩) (r + 1) c) w5) ∧ Five w5 b1 b2 b3 b4 b5 (r + 1) c T ∧ ∀ B, B ≤ b1 → Below B w w1 ∧ Below B w w2 ∧ Below B w w3 ∧ Below B w w4 ∧ Below B w w5 := by
  obtain ⟨o1, o2, o3, o4, o5, l1, l2, l3, l4, l5⟩ := h
  obtain ⟨w1, a1, n1, z1, f1, g1⟩ := own_step 22 3 Try.underlying22 info3x o1 hr (by omega)
  replace o2 := g1 _ _ _ _ (by omega) (by omega) o2
  replace o3 := g1 _ _ _ _ (by omega) (by omega) o3
  replace o4 := g1 _ _ _ _ (by omega) (by omega) o4
  replace o5 := g1 _ _ _ _ (by omega) (by omega) o5
  obtain ⟨w2, a2, n2, z2, f2, g2⟩ := own_step 23 2 Try.underlying23 info2x o2 hr (by omega)
  replace n1 := g2 _ _ _ _ (by omega) (by omega) n1
  replace o3 := g2 _ _ _ _ (by omega) (by omega) o3
  replace o4 := g2 _ _ _ _ (by omega) (by omega) o4
  replace o5 := g2 _ _ _ _ (by omega) (by omega) o5
  obtain ⟨w3, a3, n3, z3, f3, g3⟩ := own_step 23 2 Try.underlying23 info2x o3 hr (by omega)
  replace n1 := g3 _ _ _ _ (by omega) (by omega) n1
  replace n2 := g3 _ _ _ _ (by omega) (by omega) n2
  replace o4 := g3 _ _ _ _ (by omega) (by omega) o4
  replace o5 := g3 _ _ _ _ (by omega) (by omega) o5
  obtain ⟨w4, a4, n4, z4, f4, g4⟩ := own_step 23 2 Try.underlying23 info2x o4 hr (by omega)
  replace n1 := g4 _ _ _ _ (by omega) (by omega) n1
  replace n2 := g4 _ _ _ _ (by omega) (by omega) n2
  replace n3 := g4 _ _ _ _ (by omega) (by omega) n3
  replace o5 := g4 _ _ _ _ (by omega) (by omega) o5
  obtain ⟨w5, a5, n5, z5, f5, g5⟩ := own_step 23 2 Try.underlying23 info2x o5 hr (by omega)
  replace n1 := g5 _ _ _ _ (by omega) (by omega) n1
  replace n2 := g5 _ _ _ _ (by omega) (by omega) n2
  replace n3 := g5 _ _ _ _ (by omega) (by omega) n3
  replace n4 := g5 _ _ _ _ (by omega) (by omega) n4
  refine ⟨w1, w2, w3, w4, w5, a1, a2, a3, a4, a5, ⟨n1, n2, n3, n4, n5, by omega⟩, fun B hB => ?_⟩
  have c1 := f1 B hB
  have c2 := c1.trans (f2 B (by omega))
  have c3 := c2.trans (f3 B (by omega))
  have c4 := c3.trans (f4 B (by omega))
  exact ⟨c1, c2, c3, c4, c4.trans (f5 B (by omega))⟩

theorem wpList_load33w {ops : Array Oper} {rest : List Oper} {op : Oper} {a : Act} {w : World} {Q : Exit → Act → World → Prop} (hw : Region.wanted op (yielded ops a.tmps) = true) (x : Operand) (ho : op.op = .load 33 x)
    (b : Nat) (hx : a.eval x = .pointer (some ⟨b, 0, none⟩)) (cs : List Value) (hl : cs.length = 11) (hc : w.rangeAt b 0 cs) (h : wpList Try.prog ops Q rest (a.put op.dst (.agg cs.toArray)) w) : wpList Try.prog ops Q (op :: rest) a w :=
  BigFrame.wpList_want hw fun _ hK => wp_load_mid 33 x ho b 0 hx cs _ hc Try.underlying33 rfl (by rw [hl]; exact info33) (hK _ _ h)

theorem shown_congr {w : World} {lo : Nat} {p : Nat → Option Addr} {m M : Nat} {T : Nat → Task} {F F' : Nat → Int} (h : Shown w lo p m M T F) (hF : ∀ k, k < M → F k = F' k) : Shown w lo p m M T F' := fun f hf => by
  refine (h f hf).congr fun j hj => ?_
  match f, hf with
  | 0, _ => rfl
  | 1, _ => rfl
  | 2, _ => rfl
  | 3, _ => rfl
  | 4, _ => rfl
  | 5, _ => exact congrArg (Value.int .u64) (hF j hj)
  | 6, _ => rfl

end Go.Proofs.Qxb6609061a.Line
