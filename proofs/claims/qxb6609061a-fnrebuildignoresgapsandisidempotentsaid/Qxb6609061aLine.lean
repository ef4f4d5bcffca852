import Derived.Test.Qxb6609061aRows
import Derived.WalkKit
import Derived.WalkSpells
import Derived.WalkLawsBesides
import Derived.Deep.QuietTactic
import Derived.BigQuiet
import Derived.Deep.MidRow
namespace Go.Proofs.Qxb6609061a.Line
open Go.RowKit

/-! ### One frame word: of what was there only blocks from lo up to hi may have turned. -/
structure Within (lo hi : Nat) (w w' : World) : Prop where
  os : w'.os = w.os
  tape : w'.tape = w.tape
  output : w'.output = w.output
  size : w.heap.size ≤ w'.heap.size
  block : ∀ k, k < w.heap.size → ¬ (lo ≤ k ∧ k < hi) → w'.heap[k]? = w.heap[k]?

theorem Within.refl (lo hi : Nat) (w : World) : Within lo hi w w := ⟨rfl, rfl, rfl, Nat.le_refl _, fun _ _ _ => rfl⟩

theorem Within.trans {lo hi : Nat} {a b c : World} (h : Within lo hi a b) (k : Within lo hi b c) : Within lo hi a c :=
  ⟨k.os.trans h.os, k.tape.trans h.tape, k.output.trans h.output, Nat.le_trans h.size k.size, fun i h1 h2 => (k.block i (Nat.lt_of_lt_of_le h1 h.size) h2).trans (h.block i h1 h2)⟩

theorem Within.of_below {lo hi : Nat} {w w' : World} (h : Below w.heap.size w w') : Within lo hi w w' := ⟨h.os, h.tape, h.output, h.size, fun k hk _ => h.block k hk⟩

theorem Within.below {lo hi B : Nat} {w w' : World} (h : Within lo hi w w') (hB : B ≤ lo) (hs : B ≤ w.heap.size) : Below B w w' :=
  ⟨h.os, h.tape, h.output, h.size, fun k hk => h.block k (by omega) (by omega)⟩

theorem Within.alloc {lo hi : Nat} {a w : World} (h : Within lo hi a w) (o : Obj) : Within lo hi a (w.alloc o) :=
  h.trans (.of_below ((Below.refl _ _).alloc (Nat.le_refl _) _))

theorem Within.drewN {lo hi : Nat} {a w : World} (h : Within lo hi a w) (n : Nat) : Within lo hi a (w.drewN n) := ⟨h.os, h.tape, h.output, h.size, h.block⟩
theorem Within.drew {lo hi : Nat} {a w : World} (h : Within lo hi a w) : Within lo hi a w.drew := ⟨h.os, h.tape, h.output, h.size, h.block⟩

theorem Within.setCell {lo hi : Nat} {a w : World} (h : Within lo hi a w) {p : Addr} (h1 : a.heap.size ≤ p.block ∨ (lo ≤ p.block ∧ p.block < hi)) (v : Value) : Within lo hi a (w.setCell p v) := by
  refine ⟨h.os, h.tape, h.output, by simpa [World.setCell] using h.size, fun k hk hn => ?_⟩
  rw [Below.heap_setCell _ _ _ _ (by omega)]
  exact h.block k hk hn

theorem Within.setCells {lo hi b : Nat} {a : World} (h1 : a.heap.size ≤ b ∨ (lo ≤ b ∧ b < hi)) : ∀ (vs : List Value) (o : Nat) (w : World), Within lo hi a w → Within lo hi a (w.setCells b o vs)
  | [], _, _, h => h
  | v :: r, o, w, h => by
    rw [World.setCells]
    exact Within.setCells h1 r (o + 1) _ (h.setCell h1 v)

theorem Within.cell {lo hi : Nat} {w w' : World} (h : Within lo hi w w') {p : Addr} (h1 : p.block < w.heap.size) (h2 : ¬ (lo ≤ p.block ∧ p.block < hi)) : w'.cell? p = w.cell? p :=
  World.cell?_of_block (w := w) (h.block p.block h1 h2)

theorem Within.frozen {lo hi : Nat} {w w' : World} (h : Within lo hi w w') {p : Addr} (h1 : p.block < w.heap.size) (h2 : ¬ (lo ≤ p.block ∧ p.block < hi)) : w'.frozen? p = w.frozen? p :=
  World.frozen?_of_block (w := w) (h.block p.block h1 h2)

/-! ### Small facts on cells -/
theorem heap_new (w : World) (o : Obj) : (w.alloc o).heap[w.heap.size]? = some o := by
  show (w.heap.push o)[w.heap.size]? = _
  simp

theorem there_block {w : World} {B : Nat} {M : Array Value} {t : TypeId} (h : w.heap[B]? = some (.cells M t (0, 0))) (o n : Nat) (hn : o + n ≤ M.size) : w.there B o n := fun j hj => by
  constructor
  · rw [cell_of_row w B (o + j) M t (0, 0) h]; rw [Array.getElem?_eq_getElem (by omega)]; rfl
  · simp [World.frozen?, h]

theorem there_sub {w : World} {B o n o' n' : Nat} (h : w.there B o n) (h1 : o ≤ o') (h2 : o' + n' ≤ o + n) : w.there B o' n' := fun j hj => by
  have := h (o' - o + j) (by omega)
  rwa [show o + (o' - o + j) = o' + j by omega] at this

theorem there_frozen {w : World} {B o n j : Nat} (h : w.there B o n) (h1 : o ≤ j) (h2 : j < o + n) : w.frozen? ⟨B, j, none⟩ = false := by
  have := (h (j - o) (by omega)).2
  rwa [show o + (j - o) = j by omega] at this

theorem size_setCells (b : Nat) : ∀ (vs : List Value) (o : Nat) (w : World), (w.setCells b o vs).heap.size = w.heap.size
  | [], _, _ => rfl
  | v :: r, o, w => by
    rw [World.setCells, size_setCells b r (o + 1) _]
    simp [World.setCell]

theorem size_setCell (w : World) (a : Addr) (v : Value) : (w.setCell a v).heap.size = w.heap.size := by simp [World.setCell]

theorem range_lt {w : World} {b o : Nat} {cs : List Value} (h : w.rangeAt b o cs) (h0 : 0 < cs.length) : b < w.heap.size := by
  have := h 0 cs[0] (by simp [h0])
  exact World.block_lt_of_cell? w _ this

theorem there_lt {w : World} {b o n : Nat} (h : w.there b o n) (h0 : 0 < n) : b < w.heap.size := by
  obtain ⟨v, hv⟩ := Option.isSome_iff_exists.1 (h 0 h0).1
  exact World.block_lt_of_cell? w _ hv

theorem range_same {w w' : World} {b o : Nat} {cs : List Value} (hb : w'.heap[b]? = w.heap[b]?) (h : w.rangeAt b o cs) : w'.rangeAt b o cs := fun j v hv => by
  rw [World.cell?_of_block (w := w) (a := ⟨b, o + j, none⟩) hb]; exact h j v hv

theorem there_same {w w' : World} {b o n : Nat} (hb : w'.heap[b]? = w.heap[b]?) (h : w.there b o n) : w'.there b o n := fun j hj => by
  rw [World.cell?_of_block (w := w) (a := ⟨b, o + j, none⟩) hb, World.frozen?_of_block (w := w) (a := ⟨b, o + j, none⟩) hb]; exact h j hj

theorem range_setCell {w : World} {b o : Nat} {cs : List Value} (h : w.rangeAt b o cs) {a : Addr} (ha : a.block ≠ b) (v : Value) : (w.setCell a v).rangeAt b o cs :=
  range_same (Below.heap_setCell _ _ _ _ (Ne.symm ha)) h

theorem there_setCell {w : World} {b o n : Nat} (h : w.there b o n) (a : Addr) (v : Value) : (w.setCell a v).there b o n := by
  obtain ⟨b', o', s⟩ := a
  intro j hj
  obtain ⟨h1, h2⟩ := h j hj
  refine ⟨?_, by rw [World.frozen?_setCell]; exact h2⟩
  obtain ⟨u, hu⟩ := Option.isSome_iff_exists.1 h1
  by_cases e : (⟨b', o', s⟩ : Addr) = ⟨b, o + j, none⟩
  · rw [e, World.cell?_setCell_same _ _ _ hu]; rfl
  · rw [World.cell?_setCell_other _ _ _ _ e, hu]; rfl

/-! ### A task -/
structure Task where
  id : Int
  submit : Int
  work : Int
  count : Int
  pushed : Int

def Task.cs (t : Task) : List Value := [.int .i64 t.id, .int .i64 t.submit, .int .i64 t.work, .int .i64 t.count, .int .i64 t.pushed]
theorem Task.len (t : Task) : t.cs.length = 5 := rfl
theorem Task.one (t : Task) : t.cs.toArray.all (·.oneCell') = true := by simp [Task.cs, Value.oneCell']

/-- How many pages n tasks take. -/
def pgs (n : Nat) : Nat := (n + 1023) / 1024

/-- A waitLine at block q: its blocks lie from lo up to hi; pages' array at block g, page k at block pb k; n tasks T. -/
structure Line (w : World) (lo hi q : Nat) (pa : Option Addr) (g cap : Nat) (pb : Nat → Nat) (n : Nat) (T : Nat → Task) (least : Value) (held waiting first : Int) : Prop where
  hq : lo ≤ q ∧ q < hi
  top : hi ≤ w.heap.size
  head0 : w.cell? ⟨q, 0, none⟩ = some (.slice pa (pgs n) cap)
  head1 : w.cell? ⟨q, 1, none⟩ = some (.int .i64 n)
  head2 : w.cell? ⟨q, 2, none⟩ = some least
  head3 : w.cell? ⟨q, 3, none⟩ = some (.int .i64 held)
  head4 : w.cell? ⟨q, 4, none⟩ = some (.int .i64 waiting)
  head5 : w.cell? ⟨q, 5, none⟩ = some (.int .i64 first)
  qth : w.there q 0 6
  hpa : (n = 0 ∧ pa = none ∧ cap = 0) ∨ (pa = some ⟨g, 0, none⟩ ∧ lo ≤ g ∧ g < hi ∧ g ≠ q)
  hcap : pgs n ≤ cap
  gth : w.there g 0 (pgs n)
  page : ∀ k, k < pgs n → w.cell? ⟨g, k, none⟩ = some (.slice (some ⟨pb k, 0, none⟩) (min 1024 (n - 1024 * k)) 1024)
  pbr : ∀ k, k < pgs n → lo ≤ pb k ∧ pb k < hi ∧ pb k ≠ q ∧ pb k ≠ g
  inj : ∀ j k, j < pgs n → k < pgs n → pb j = pb k → j = k
  pth : ∀ k, k < pgs n → w.there (pb k) 0 5120
  task : ∀ i, i < n → w.rangeAt (pb (i / 1024)) (i % 1024 * 5) (T i).cs

theorem pgs_lt {i n : Nat} (h : i < n) : i / 1024 < pgs n := by unfold pgs; omega
theorem pgs_pos {n : Nat} : 0 < pgs n ↔ 0 < n := by unfold pgs; omega

theorem Line.ga {w : World} {lo hi q : Nat} {pa : Option Addr} {g cap : Nat} {pb : Nat → Nat} {n : Nat} {T : Nat → Task} {least : Value} {held waiting first : Int}
    (h : Line w lo hi q pa g cap pb n T least held waiting first) (h0 : 0 < n) : pa = some ⟨g, 0, none⟩ ∧ lo ≤ g ∧ g < hi ∧ g ≠ q := by
  rcases h.hpa with ⟨h1, _⟩ | h1
  · omega
  · exact h1

/-- The line stands where its blocks do. -/
theorem Line.keep {w w' : World} {lo hi q : Nat} {pa : Option Addr} {g cap : Nat} {pb : Nat → Nat} {n : Nat} {T : Nat → Task} {least : Value} {held waiting first : Int}
    (h : Line w lo hi q pa g cap pb n T least held waiting first) (hs : w.heap.size ≤ w'.heap.size) (hb : ∀ k, lo ≤ k → k < hi → w'.heap[k]? = w.heap[k]?) : Line w' lo hi q pa g cap pb n T least held waiting first := by
  have hc : ∀ j, w'.cell? ⟨q, j, none⟩ = w.cell? ⟨q, j, none⟩ := fun j => World.cell?_of_block (w := w) (a := ⟨q, j, none⟩) (hb q h.hq.1 h.hq.2)
  exact ⟨h.hq, Nat.le_trans h.top hs, by rw [hc]; exact h.head0, by rw [hc]; exact h.head1, by rw [hc]; exact h.head2, by rw [hc]; exact h.head3, by rw [hc]; exact h.head4, by rw [hc]; exact h.head5,
    there_same (hb q h.hq.1 h.hq.2) h.qth, h.hpa, h.hcap,
    (by
      by_cases h0 : 0 < n
      · exact there_same (hb g (h.ga h0).2.1 (h.ga h0).2.2.1) h.gth
      · have : pgs n = 0 := by unfold pgs; omega
        rw [this]; exact fun j hj => absurd hj (Nat.not_lt_zero _)),
    fun k hk => by
      have h0 : 0 < n := pgs_pos.1 (by omega)
      rw [World.cell?_of_block (w := w) (a := ⟨g, k, none⟩) (hb g (h.ga h0).2.1 (h.ga h0).2.2.1)]; exact h.page k hk,
    h.pbr, h.inj, fun k hk => there_same (hb _ (h.pbr k hk).1 (h.pbr k hk).2.1) (h.pth k hk),
    fun i hi' => range_same (hb _ (h.pbr _ (pgs_lt hi')).1 (h.pbr _ (pgs_lt hi')).2.1) (h.task i hi')⟩

theorem and1023 (i : Nat) (hi : i ≤ 65536) : bits BinOp.and IntKind.i64 (i : Int) 1023 = (i : Int) % 1024 := by
  have e : BitVec.ofInt 64 (i : Int) &&& BitVec.ofInt 64 1023 = BitVec.ofNat 64 (i % 1024) := by
    apply BitVec.eq_of_toNat_eq
    simp only [BitVec.toNat_and, BitVec.toNat_ofInt, BitVec.toNat_ofNat]
    have h1 : ((i : Int) % ((2 ^ 64 : Nat) : Int)).toNat = i := by omega
    have h2 : ((1023 : Int) % ((2 ^ 64 : Nat) : Int)).toNat = 2 ^ 10 - 1 := by decide
    rw [h1, h2, Nat.and_two_pow_sub_one_eq_mod]
    omega
  show IntKind.i64.wrap ((BitVec.ofInt 64 (i : Int) &&& BitVec.ofInt 64 1023).toNat : Int) = _
  rw [e, BitVec.toNat_ofNat, IntKind.wrap_i64]
  omega

set_option maxHeartbeats 400000 in
theorem at_cells (q g i np cap pb pl : Nat) (w : World) (hi : i < 65536)
    (h0 : w.cell? ⟨q, 0, none⟩ = some (.slice (some ⟨g, 0, none⟩) np cap)) (h1 : w.cell? ⟨g, i / 1024, none⟩ = some (.slice (some ⟨pb, 0, none⟩) pl 1024))
    (hnp : i / 1024 < np) (hpl : i % 1024 < pl) :
    Calls Try.prog 29 #[.pointer (some ⟨q, 0, none⟩), .int .i64 i] w fun e w' => e = .returned (.pointer (some ⟨pb, i % 1024 * 5, none⟩)) ∧ w' = w := by
  have ha := and1023 i (by omega)
  go_enter Try.func29, Try.ntmps29
  go_wp2
  go_ret
  exact ⟨rfl, rfl⟩

/-- 'at': the place of task i. -/
theorem at_any {w : World} {lo hi q : Nat} {pa : Option Addr} {g cap : Nat} {pb : Nat → Nat} {n : Nat} {T : Nat → Task} {least : Value} {held waiting first : Int}
    (h : Line w lo hi q pa g cap pb n T least held waiting first) (hn : n ≤ 65536) (i : Nat) (hi' : i < n) :
    Calls Try.prog 29 #[.pointer (some ⟨q, 0, none⟩), .int .i64 i] w fun e w' => e = .returned (.pointer (some ⟨pb (i / 1024), i % 1024 * 5, none⟩)) ∧ w' = w :=
  at_cells q g i (pgs n) cap (pb (i / 1024)) (min 1024 (n - 1024 * (i / 1024))) w (by omega) (by rw [h.head0, (h.ga (by omega)).1]) (h.page _ (pgs_lt hi')) (pgs_lt hi') (by omega)

end Go.Proofs.Qxb6609061a.Line
