import Derived.Test.Qxb6609061aLine
import Derived.BigRegion
import Derived.Lib.SlicesDelete
namespace Go.Proofs.Qxb6609061a.Line
open Go.RowKit

set_option maxHeartbeats 800000 in
set_option maxRecDepth 100000 in
theorem trunc_cells (q g m k cap pb pl c n0 : Nat) (A : Option Addr) (w W1 : World) (hm : m ≤ 65536) (hk1 : 1024 * k < m) (hk2 : m ≤ 1024 * k + 1024) (hc : k + 1 + c ≤ cap)
    (hck : (¬ cap = k + 1 ∧ A = some ⟨g, k + 1, none⟩) ∨ (cap = k + 1 ∧ A = some ⟨g, 0, none⟩)) (hgq : g ≠ q)
    (h0 : w.cell? ⟨q, 0, none⟩ = some (.slice (some ⟨g, 0, none⟩) (k + 1 + c) cap))
    (hcl : ∀ ty, (Builtin.clear_ #[71] ty #[.slice A c (cap - (k + 1))]).run Try.prog w = .ok (.tuple #[]) W1)
    (q0 : W1.cell? ⟨q, 0, none⟩ = some (.slice (some ⟨g, 0, none⟩) (k + 1 + c) cap)) (f0 : W1.frozen? ⟨q, 0, none⟩ = false)
    (q1 : W1.cell? ⟨q, 1, none⟩ = some (.int .i64 n0)) (f1 : W1.frozen? ⟨q, 1, none⟩ = false)
    (g0 : W1.cell? ⟨g, k, none⟩ = some (.slice (some ⟨pb, 0, none⟩) pl 1024)) (gf : W1.frozen? ⟨g, k, none⟩ = false) :
    Calls Try.prog 37 #[.pointer (some ⟨q, 0, none⟩), .int .i64 m] w fun e w' => e = .returned (.tuple #[]) ∧
      w' = (((W1.setCell ⟨q, 0, none⟩ (.slice (some ⟨g, 0, none⟩) (k + 1) cap)).setCell ⟨g, k, none⟩ (.slice (some ⟨pb, 0, none⟩) (m - k * 1024) 1024)).setCell ⟨q, 1, none⟩ (.int .i64 m)).drew := by
  have hcc : ¬ cap = 0 := by omega
  have hki : ((m : Int) + 1024 - 1) / 1024 = (k : Int) + 1 := by omega
  have hb1 : (k : Int) + 1 ≤ (cap : Int) := by omega
  have hb0 : (0 : Int) ≤ (k : Int) := by omega
  have hb2 : (k : Int) < (k : Int) + 1 := by omega
  have hb3 : (0 : Int) ≤ (m : Int) - (k : Int) * 1024 := by omega
  have hb4 : (m : Int) - (k : Int) * 1024 ≤ 1024 := by omega
  rcases hck with ⟨hck, rfl⟩ | ⟨hck, rfl⟩
  · go_enter Try.func37, Try.ntmps37
    go_wp2
    generalize hW2 : W1.setCell _ _ = W2
    have r0 : W2.cell? ⟨q, 0, none⟩ = some (.slice (some ⟨g, 0, none⟩) (k + 1) cap) := by rw [← hW2]; exact World.cell?_setCell_same _ _ _ q0
    have r1 : W2.cell? ⟨q, 1, none⟩ = some (.int .i64 n0) := by rw [← hW2, World.cell?_setCell_other _ _ _ _ (by simp)]; exact q1
    have r2 : W2.cell? ⟨g, k, none⟩ = some (.slice (some ⟨pb, 0, none⟩) pl 1024) := by rw [← hW2, World.cell?_setCell_other _ _ _ _ (fun e => hgq (congrArg Addr.block e).symm)]; exact g0
    have s1 : W2.frozen? ⟨q, 1, none⟩ = false := by rw [← hW2, World.frozen?_setCell]; exact f1
    have s2 : W2.frozen? ⟨g, k, none⟩ = false := by rw [← hW2, World.frozen?_setCell]; exact gf
    have HW : Hid _ := hW2
    have t1 : IntKind.i64.wrap (k : Int) = (k : Int) := by rw [IntKind.wrap_i64]; omega
    have t2 : IntKind.i64.wrap ((k : Int) * 1024) = (k : Int) * 1024 := by rw [IntKind.wrap_i64]; omega
    have t3 : IntKind.i64.wrap ((m : Int) - (k : Int) * 1024) = (m : Int) - (k : Int) * 1024 := by rw [IntKind.wrap_i64]; omega
    clear hW2 q0 q1 f0 f1 g0 gf h0 hcl
    go_big_region
    go_wp2
    go_end0
    rw [HW.out]
    exact ⟨rfl, rfl⟩
  · subst hck
    have hc0 : c = 0 := by omega
    subst hc0
    simp only [Nat.sub_self, Nat.add_zero] at hcl h0 q0
    go_enter Try.func37, Try.ntmps37
    go_wp2
    generalize hW2 : W1.setCell _ _ = W2
    have r0 : W2.cell? ⟨q, 0, none⟩ = some (.slice (some ⟨g, 0, none⟩) (k + 1) (k + 1)) := by rw [← hW2]; exact World.cell?_setCell_same _ _ _ q0
    have r1 : W2.cell? ⟨q, 1, none⟩ = some (.int .i64 n0) := by rw [← hW2, World.cell?_setCell_other _ _ _ _ (by simp)]; exact q1
    have r2 : W2.cell? ⟨g, k, none⟩ = some (.slice (some ⟨pb, 0, none⟩) pl 1024) := by rw [← hW2, World.cell?_setCell_other _ _ _ _ (fun e => hgq (congrArg Addr.block e).symm)]; exact g0
    have s1 : W2.frozen? ⟨q, 1, none⟩ = false := by rw [← hW2, World.frozen?_setCell]; exact f1
    have s2 : W2.frozen? ⟨g, k, none⟩ = false := by rw [← hW2, World.frozen?_setCell]; exact gf
    have HW : Hid _ := hW2
    have t1 : IntKind.i64.wrap (k : Int) = (k : Int) := by rw [IntKind.wrap_i64]; omega
    have t2 : IntKind.i64.wrap ((k : Int) * 1024) = (k : Int) * 1024 := by rw [IntKind.wrap_i64]; omega
    have t3 : IntKind.i64.wrap ((m : Int) - (k : Int) * 1024) = (m : Int) - (k : Int) * 1024 := by rw [IntKind.wrap_i64]; omega
    clear hW2 q0 q1 f0 f1 g0 gf h0 hcl
    go_big_region
    go_wp2
    go_end0
    rw [HW.out]
    exact ⟨rfl, rfl⟩

set_option maxHeartbeats 800000 in
set_option maxRecDepth 100000 in
theorem trunc_zero (q g cap c n0 : Nat) (w W1 : World)
    (h0 : w.cell? ⟨q, 0, none⟩ = some (.slice (some ⟨g, 0, none⟩) c cap))
    (hcl : ∀ ty, (Builtin.clear_ #[71] ty #[.slice (some ⟨g, 0, none⟩) c cap]).run Try.prog w = .ok (.tuple #[]) W1)
    (q0 : W1.cell? ⟨q, 0, none⟩ = some (.slice (some ⟨g, 0, none⟩) c cap)) (f0 : W1.frozen? ⟨q, 0, none⟩ = false)
    (q1 : W1.cell? ⟨q, 1, none⟩ = some (.int .i64 n0)) (f1 : W1.frozen? ⟨q, 1, none⟩ = false) :
    Calls Try.prog 37 #[.pointer (some ⟨q, 0, none⟩), .int .i64 0] w fun e w' => e = .returned (.tuple #[]) ∧
      w' = (W1.setCell ⟨q, 0, none⟩ (.slice (some ⟨g, 0, none⟩) 0 cap)).setCell ⟨q, 1, none⟩ (.int .i64 0) := by
  go_enter Try.func37, Try.ntmps37
  go_wp2
  go_end0
  exact ⟨rfl, rfl⟩

set_option maxHeartbeats 800000 in
set_option maxRecDepth 100000 in
theorem trunc_nil (q n0 : Nat) (w : World) (h0 : w.cell? ⟨q, 0, none⟩ = some (.slice none 0 0)) (f0 : w.frozen? ⟨q, 0, none⟩ = false)
    (q1 : w.cell? ⟨q, 1, none⟩ = some (.int .i64 n0)) (f1 : w.frozen? ⟨q, 1, none⟩ = false) :
    Calls Try.prog 37 #[.pointer (some ⟨q, 0, none⟩), .int .i64 0] w fun e w' => e = .returned (.tuple #[]) ∧
      w' = (w.setCell ⟨q, 0, none⟩ (.slice none 0 0)).setCell ⟨q, 1, none⟩ (.int .i64 0) := by
  have hcl : ∀ ty, (Builtin.clear_ #[71] ty #[.slice none 0 0]).run Try.prog w = .ok (.tuple #[]) w := fun ty => by simp [Builtin.clear_, run_underlying Try.underlying71]
  go_enter Try.func37, Try.ntmps37
  go_wp2
  go_end0
  exact ⟨rfl, rfl⟩

end Go.Proofs.Qxb6609061a.Line
