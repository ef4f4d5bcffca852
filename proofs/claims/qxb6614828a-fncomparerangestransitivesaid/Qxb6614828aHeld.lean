/-
  What both tops want: the bound on lengths, the holders in memory.
-/
import Derived.Test.Qxb6614828aLaw
namespace Go.Proofs.Qxb6614828a.Bytes
open Go.RowKit Go.Proofs.Qxb6614828a.Cmp

theorem zz7_any (a0 a1 a2 a6 a7 a8 : ByteArray) (a3 a4 a5 a9 a10 a11 : Int) (w : World) :
    Calls Try.prog 7 #[.string a0, .string a1, .string a2, .int .i64 a3, .int .i64 a4, .int .u64 a5, .string a6, .string a7, .string a8, .int .i64 a9, .int .i64 a10, .int .u64 a11] w fun e w' => (e = .returned (.bool true) ∨ e = .returned (.bool false)) ∧ w' = w := by
  go_enter Try.func7, Try.ntmps7
  go_wp2
  all_goals (go_ret; first | exact ⟨.inl rfl, rfl⟩ | exact ⟨.inr rfl, rfl⟩)

theorem zz11_any (a0 a2 a3 a5 a6 a8 : Int) (a1 a4 a7 : ByteArray) (w : World) :
    Calls Try.prog 11 #[.int .i64 a0, .string a1, .int .u64 a2, .int .i64 a3, .string a4, .int .u64 a5, .int .i64 a6, .string a7, .int .u64 a8] w fun e w' => (e = .returned (.bool true) ∨ e = .returned (.bool false)) ∧ w' = w := by
  go_enter Try.func11, Try.ntmps11
  go_wp2
  all_goals (go_ret; first | exact ⟨.inl rfl, rfl⟩ | exact ⟨.inr rfl, rfl⟩)

/-- A holder lies at block b, its range at block r. -/
structure Held (w : World) (b : Nat) (h n m : ByteArray) (t : Int) (r : Nat) (s : Int) : Prop where
  c0 : w.cell? ⟨b, 0, none⟩ = some (.string h)
  c1 : w.cell? ⟨b, 1, none⟩ = some (.string n)
  c2 : w.cell? ⟨b, 2, none⟩ = some (.string m)
  c3 : w.cell? ⟨b, 3, none⟩ = some (.int .u64 t)
  c4 : w.cell? ⟨b, 4, none⟩ = some (.pointer (some ⟨r, 0, none⟩))
  cr : w.cell? ⟨r, 0, none⟩ = some (.int .i64 s)

theorem Held.below {w w' : World} {b : Nat} {h n m : ByteArray} {t : Int} {r : Nat} {s : Int} (H : Held w b h n m t r s) (bel : Below w.heap.size w w') : Held w' b h n m t r s := by
  have hb := block_lt_of_cell H.c0
  have hr := block_lt_of_cell H.cr
  exact ⟨(bel.cell hb).trans H.c0, (bel.cell (p := ⟨b, 1, none⟩) hb).trans H.c1, (bel.cell (p := ⟨b, 2, none⟩) hb).trans H.c2, (bel.cell (p := ⟨b, 3, none⟩) hb).trans H.c3, (bel.cell (p := ⟨b, 4, none⟩) hb).trans H.c4, (bel.cell hr).trans H.cr⟩

theorem Held.laid (w : World) (h n m : ByteArray) (t s l : Int) : Held ((w.alloc (.cells #[.int .i64 s, .int .i64 l] 27)).alloc (.cells #[.string h, .string n, .string m, .int .u64 t, .pointer (some ⟨w.heap.size, 0, none⟩)] 29)) (w.heap.size + 1) h n m t w.heap.size s := by
  constructor <;> go_simp

theorem laid_below (w : World) (o1 o2 : Obj) : Below w.heap.size w ((w.alloc o1).alloc o2) := ((Below.refl _ _).alloc (by simp) _).alloc (by simp) _

theorem Key.old {w wr : World} {v : Value} {l : List Int} (h : Key w wr v l) : Below w.heap.size w wr := h.bel

theorem two_below {w1 w2 w3 : World} (h : Below w1.heap.size w1 w2) (k : Below w2.heap.size w2 w3) : Below w1.heap.size w1 w3 := h.trans (k.mono h.size)

theorem Lies.below {w w' : World} {g : Nat} {l : List Int} (h : Lies w g l) (hg : g < w.heap.size) (bel : Below w.heap.size w w') : Lies w' g l := fun i hi => (bel.cell hg).trans (h i hi)

theorem key_len (s : Int) (n : ByteArray) (t : Int) (h : n.size ≤ 65536) : (key s n.data.toList t).length ≤ 1000000 := by
  have := esc_len n.data.toList
  simp [key, be8] at this ⊢
  omega

end Go.Proofs.Qxb6614828a.Bytes
