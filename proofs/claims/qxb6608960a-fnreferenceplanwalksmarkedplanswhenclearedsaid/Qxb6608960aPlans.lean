import Derived.Test.Qxb6608960aRows
import Derived.WalkKit
import Derived.WalkSpells
import Derived.WalkLawsBesides
import Derived.Deep.QuietTactic
import Derived.BigQuiet
import Derived.Deep.MidRow
namespace Go.Proofs.Qxb6608960a.Plans
open Go.RowKit

/-- One zzPlan as its fields. -/
structure PlanD where
  id : ByteArray
  shop : Bool
  billed : Bool
  billing : Int
  r0 : Int
  r1 : Int
  r2 : Int
  has : Bool
  form : Int
  value : Int

def PlanD.cs (p : PlanD) : List Value := [.string p.id, .bool p.shop, .bool p.billed, .int .i64 p.billing, .int .i64 p.r0, .int .i64 p.r1, .int .i64 p.r2, .bool p.has, .int .i64 p.form, .int .i64 p.value]

theorem PlanD.len (p : PlanD) : p.cs.length = 10 := rfl
theorem PlanD.one (p : PlanD) : p.cs.toArray.all (·.oneCell') = true := by simp [PlanD.cs, Value.oneCell']

/-- n plans lie in block b from offset off on. -/
def Row10 (w : World) (b off n : Nat) (D : Nat → PlanD) : Prop := ∀ k, k < n → w.rangeAt b (off + k * 10) (D k).cs

theorem info43 : (Try.prog.info? 43).map (·.size) = some 10 := by kernel_rfl
theorem info64 : (Try.prog.info? 64).map (·.size) = some 8 := by kernel_rfl

theorem info43x : (Try.prog.info? 43).map (fun i => (i.zero.isSome, i.size, i.bytes)) = some (true, 10, 80) := by kernel_rfl
theorem info64x : (Try.prog.info? 64).map (fun i => (i.zero.isSome, i.size, i.bytes)) = some (true, 8, 64) := by kernel_rfl

theorem make_row {t e size bytes : Nat} (ht : Try.prog.underlying t = some (.slice e)) (hi : (Try.prog.info? e).map (fun i => (i.zero.isSome, i.size, i.bytes)) = some (true, size, bytes)) (n : Nat) (hb : bytes * n ≤ 281474976710656) (hn : n ≤ 9223372036854775807) :
    ∃ M : Array Value, M.size = n * size ∧ ∀ w : World, (Instr.makeSlice t (.int .i64 n) (.int .i64 n)).run Try.prog w = .ok (.slice (some ⟨w.heap.size, 0, none⟩) n n) (w.alloc (.cells M e)) := by
  cases hq : Try.prog.info? e with
  | none => simp [hq] at hi
  | some i =>
    simp only [hq, Option.map_some, Option.some.injEq, Prod.mk.injEq] at hi
    obtain ⟨h1, h2, h3⟩ := hi
    obtain ⟨z, hz⟩ := Option.isSome_iff_exists.1 h1
    refine ⟨madeCells z.cells (n * size), size_madeCells _ _, fun w => ?_⟩
    have := run_make (P := Try.prog) w t e i z ht hq hz .i64 .i64 n n (by omega) (by omega) (by rw [h3, ← Int.natCast_mul]; omega) (by omega)
    simpa [h2] using this

theorem there_block {w : World} {B : Nat} {M : Array Value} {t : TypeId} (h : w.heap[B]? = some (.cells M t (0, 0))) (o n : Nat) (hn : o + n ≤ M.size) : w.there B o n := fun j hj => by
  constructor
  · rw [cell_of_row w B (o + j) M t (0, 0) h]; rw [Array.getElem?_eq_getElem (by omega)]; rfl
  · simp [World.frozen?, h]

theorem heap_new (w : World) (o : Obj) : (w.alloc o).heap[w.heap.size]? = some o := by
  show (w.heap.push o)[w.heap.size]? = _
  simp

theorem there_sub {w : World} {B o n o' n' : Nat} (h : w.there B o n) (h1 : o ≤ o') (h2 : o' + n' ≤ o + n) : w.there B o' n' := fun j hj => by
  have := h (o' - o + j) (by omega)
  rwa [show o + (o' - o + j) = o' + j by omega] at this

theorem below_setCells {B b : Nat} {a : World} (hb : B ≤ b) : ∀ (vs : List Value) (o : Nat) (w : World), Below B a w → Below B a (w.setCells b o vs)
  | [], _, _, h => h
  | v :: r, o, w, h => by
    rw [World.setCells]
    exact below_setCells hb r (o + 1) _ (h.setCell hb v)

theorem size_setCells (b : Nat) : ∀ (vs : List Value) (o : Nat) (w : World), (w.setCells b o vs).heap.size = w.heap.size
  | [], _, _ => rfl
  | v :: r, o, w => by
    rw [World.setCells, size_setCells b r (o + 1) _]
    simp [World.setCell]

theorem range_below {B : Nat} {w w' : World} {b o : Nat} {cs : List Value} (hb : Below B w w') (hlt : b < B) (h : w.rangeAt b o cs) : w'.rangeAt b o cs := fun j v hv => by
  rw [hb.cell (p := ⟨b, o + j, none⟩) hlt]; exact h j v hv

theorem there_below {B : Nat} {w w' : World} {b o n : Nat} (hb : Below B w w') (hlt : b < B) (h : w.there b o n) : w'.there b o n := fun j hj => by
  rw [hb.cell (p := ⟨b, o + j, none⟩) hlt, hb.frozen (p := ⟨b, o + j, none⟩) hlt]; exact h j hj

theorem range_lt {w : World} {b o : Nat} {cs : List Value} (h : w.rangeAt b o cs) (h0 : 0 < cs.length) : b < w.heap.size := by
  have := h 0 cs[0] (by simp [h0])
  exact World.block_lt_of_cell? w _ this

theorem load43 {ops : Array Oper} {rest : List Oper} {op : Oper} {a : Act} {w : World} {Q : Exit → Act → World → Prop} (hgd : op.guard = none) (x : Operand) (ho : op.op = .load 43 x)
    (b o : Nat) (p : PlanD) (hx : a.eval x = .pointer (some ⟨b, o, none⟩)) (hc : w.rangeAt b o p.cs)
    (h : wpList Try.prog ops Q rest (a.put op.dst (.agg p.cs.toArray)) w) : wpList Try.prog ops Q (op :: rest) a w :=
  wpList_load_mid hgd 43 x ho b o hx p.cs _ hc Try.underlying43 rfl (by rw [PlanD.len]; exact info43) h

theorem store43 {ops : Array Oper} {rest : List Oper} {op : Oper} {a : Act} {w : World} {Q : Exit → Act → World → Prop} (hgd : op.guard = none) (x y : Operand) (ho : op.op = .store 43 x y)
    (b o : Nat) (p : PlanD) (hx : a.eval x = .pointer (some ⟨b, o, none⟩)) (hy : a.eval y = .agg p.cs.toArray) (ht : w.there b o 10)
    (h : wpList Try.prog ops Q rest (a.put op.dst undef) (w.setCells b o p.cs)) : wpList Try.prog ops Q (op :: rest) a w :=
  wpList_store_mid hgd 43 x y ho b o p.cs.toArray hx hy (by simpa [PlanD.len] using ht) (by simpa [PlanD.len] using info43) p.one (by simpa using h)

end Go.Proofs.Qxb6608960a.Plans
