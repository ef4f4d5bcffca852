import Derived.Test.Qxb6609061aRows
import Derived.WalkKit
import Derived.WalkSpells
import Derived.WalkLawsBesides
import Derived.Deep.QuietTactic
import Derived.BigQuiet
import Derived.Deep.MidRow
import Derived.Lib.QuietBelow
import Derived.Maps.OwnSet
namespace Go.Proofs.Qxb6609061a.Rising
open Go.RowKit

/-- The sixteen cells of a fresh rising. -/
def rcells (age most : Int) (mc ms : Nat) : Array Value :=
  #[.int .i64 age, .int .i64 most, .int .i64 0, .int .u64 0, .int .u64 0, .slice none 0 0, .slice none 0 0, .map (some mc), .slice none 0 0, .map (some ms), .int .i64 0, .int .i64 0, .int .i64 0, .bool false, .slice none 0 0, .slice none 0 0]

/-- A rising at block r: its maps at mc (empty) and ms (k entries). -/
structure RisingAt (w : World) (r mc ms : Nat) (age most : Int) (k : Nat) : Prop where
  cells : w.heap[r]? = some (.cells (rcells age most mc ms) 92 (0, 0))
  cohorts : w.heap[mc]? = some (.map #[] 0)
  served : ∃ es c, es.size = k ∧ w.heap[ms]? = some (.map es c)

theorem block_lt {w : World} {b : Nat} {o : Obj} (h : w.heap[b]? = some o) : b < w.heap.size := (Array.getElem?_eq_some_iff.1 h).1

theorem RisingAt.below {B : Nat} {w w' : World} {r mc ms : Nat} {age most : Int} {k : Nat} (h : RisingAt w r mc ms age most k) (hb : Below B w w') (h1 : r < B) (h2 : mc < B) (h3 : ms < B) : RisingAt w' r mc ms age most k := by
  obtain ⟨a, b, es, c, d, e⟩ := h
  exact ⟨by rw [hb.block r h1]; exact a, by rw [hb.block mc h2]; exact b, es, c, d, by rw [hb.block ms h3]; exact e⟩

theorem RisingAt.all {w w' : World} {r mc ms : Nat} {age most : Int} {k : Nat} (h : RisingAt w r mc ms age most k) (hb : Below w.heap.size w w') : RisingAt w' r mc ms age most k := by
  obtain ⟨es, c, _, e⟩ := h.served
  exact h.below hb (block_lt h.cells) (block_lt h.cohorts) (block_lt e)

theorem RisingAt.cell {w : World} {r mc ms : Nat} {age most : Int} {k : Nat} (h : RisingAt w r mc ms age most k) (j : Nat) (v : Value) (hv : (rcells age most mc ms)[j]? = some v) : w.cell? ⟨r, j, none⟩ = some v := by
  rw [cell_of_row w r j _ 92 (0, 0) h.cells]; exact hv

set_option maxHeartbeats 400000 in
theorem config_any (age most seed sw sd : Int) (pl : ByteArray) (w : World) :
    Calls Try.prog 18 #[.int .i64 age, .int .i64 most, .int .u64 seed, .int .i64 sw, .int .i64 sd, .string pl] w fun e w' => e = .returned (.agg #[.map none, .pointer none, .int .u64 seed, .int .i64 sw, .int .i64 sd, .map none, .map none, .map none, .string pl, .int .i64 age, .int .i64 most]) ∧ Below w.heap.size w w' := by
  go_enter Try.func18, Try.ntmps18
  go_wp2
  exact bodyPost_ret (v := .agg #[.map none, .pointer none, .int .u64 seed, .int .i64 sw, .int .i64 sd, .map none, .map none, .map none, .string pl, .int .i64 age, .int .i64 most]) (by simp [results, Try.results18, go_sem]) rfl ⟨rfl, (Below.refl _ _).alloc (Nat.le_refl _) _⟩

/-- What newRising takes for the most steps. -/
def mostOf (m : Int) : Int := if m = 0 then 9223372036854774807 else m

theorem four_new (w : World) (c0 : Array Value) (t0 : TypeId) (c3 : Array Value) (t3 : TypeId) :
    let W := (((w.alloc (.cells c0 t0)).alloc (.map #[] 0)).alloc (.map #[] 0)).alloc (.cells c3 t3)
    W.heap[w.heap.size + 1]? = some (.map #[] 0) ∧ W.heap[w.heap.size + 1 + 1]? = some (.map #[] 0) ∧ W.heap[w.heap.size + 1 + 1 + 1]? = some (.cells c3 t3) ∧ W.heap.size = w.heap.size + 1 + 1 + 1 + 1 ∧ Below w.heap.size w W := by
  refine ⟨?_, ?_, ?_, ?_, ?_⟩
  · show ((((w.heap.push _).push _).push _).push _)[w.heap.size + 1]? = _
    simp only [Array.getElem?_push, Array.size_push]
    rw [if_neg (by omega), if_neg (by omega), if_pos trivial]
  · show ((((w.heap.push _).push _).push _).push _)[w.heap.size + 1 + 1]? = _
    simp only [Array.getElem?_push, Array.size_push]
    rw [if_neg (by omega), if_pos trivial]
  · show ((((w.heap.push _).push _).push _).push _)[w.heap.size + 1 + 1 + 1]? = _
    simp only [Array.getElem?_push, Array.size_push]
    rw [if_pos trivial]
  · show ((((w.heap.push _).push _).push _).push _).size = _
    simp only [Array.size_push]
  · exact ((((Below.refl _ _).alloc (Nat.le_refl _) _).alloc (by simp) _).alloc (by simp; omega) _).alloc (by simp; omega) _

set_option maxHeartbeats 400000 in
theorem new_any (v0 v1 v5 v6 v7 : Value) (age most seed sw sd : Int) (pl : ByteArray) (w : World) :
    Calls Try.prog 34 #[.agg #[v0, v1, .int .u64 seed, .int .i64 sw, .int .i64 sd, v5, v6, v7, .string pl, .int .i64 age, .int .i64 most]] w fun e w' => ∃ r mc ms : Nat, e = .returned (.pointer (some ⟨r, 0, none⟩)) ∧ RisingAt w' r mc ms age (mostOf most) 0 ∧ w.heap.size ≤ mc ∧ mc < ms ∧ ms < r ∧ Below w.heap.size w w' := by
  have hmm := @run_makeMap Try.prog
  by_cases h : (most != 0) = true
  · have hm : Hid (mostOf most = most) := by
      have : most ≠ 0 := by simpa using h
      simp [mostOf, this, Hid]
    go_enter Try.func34, Try.ntmps34
    go_wp2
    go_ret
    rw [hm.out]
    obtain ⟨q1, q2, q3, q4, q5⟩ := four_new w #[v0, v1, .int .u64 seed, .int .i64 sw, .int .i64 sd, v5, v6, v7, .string pl, .int .i64 age, .int .i64 most] 54 (rcells age most (w.heap.size + 1) (w.heap.size + 1 + 1)) 92
    exact ⟨_, _, _, rfl, ⟨q3, q1, #[], 0, rfl, q2⟩, by omega, by omega, by omega, q5⟩
  · have hm0 : most = 0 := by simpa using h
    subst hm0
    have hm : Hid (mostOf 0 = 9223372036854774807) := rfl
    go_enter Try.func34, Try.ntmps34
    go_wp2
    go_ret
    rw [hm.out]
    obtain ⟨q1, q2, q3, q4, q5⟩ := four_new w #[v0, v1, .int .u64 seed, .int .i64 sw, .int .i64 sd, v5, v6, v7, .string pl, .int .i64 age, .int .i64 0] 54 (rcells age 9223372036854774807 (w.heap.size + 1) (w.heap.size + 1 + 1)) 92
    exact ⟨_, _, _, rfl, ⟨q3, q1, #[], 0, rfl, q2⟩, by omega, by omega, by omega, q5⟩

set_option maxHeartbeats 400000 in
theorem zznew_any (age most seed sw sd : Int) (pl : ByteArray) (w : World) :
    Calls Try.prog 17 #[.agg #[.map none, .pointer none, .int .u64 seed, .int .i64 sw, .int .i64 sd, .map none, .map none, .map none, .string pl, .int .i64 age, .int .i64 most]] w fun e w' => ∃ r mc ms : Nat, e = .returned (.pointer (some ⟨r, 0, none⟩)) ∧ RisingAt w' r mc ms age (mostOf most) 0 ∧ w.heap.size ≤ mc ∧ mc < ms ∧ ms < r ∧ Below w.heap.size w w' := by
  go_enter Try.func17, Try.ntmps17
  go_wp2_with fail
  refine (new_any (.map none) (.pointer none) (.map none) (.map none) (.map none) age most seed sw sd pl _).mono ?_
  rintro e w1 ⟨r, mc, ms, rfl, hR, h1, h2, h3, hb⟩
  have hsz : w.heap.size + 1 ≤ mc := by simpa using h1
  have hB : Below w.heap.size w w1 := ((Below.refl _ _).alloc (Nat.le_refl _) _).trans (hb.mono (by simp))
  clear h1 hb
  go_wp2
  go_ret
  exact ⟨r, mc, ms, rfl, hR, by omega, h2, h3, hB⟩

set_option maxHeartbeats 400000 in
theorem span_any (r mc ms : Nat) (age most : Int) (k : Nat) (w : World) (h : RisingAt w r mc ms age most k) :
    Calls Try.prog 19 #[.pointer (some ⟨r, 0, none⟩)] w fun e w' => e = .returned (.tuple #[.int .i64 age, .int .i64 most]) ∧ ∃ n, w' = w.drewN n := by
  have c0 := h.cell 0 (.int .i64 age) rfl
  have c1 := h.cell 1 (.int .i64 most) rfl
  clear h
  go_enter Try.func19, Try.ntmps19
  go_wp2
  go_quiet (fail)
  go_wp2
  go_ret2
  exact ⟨rfl, _, rfl⟩

set_option maxHeartbeats 400000 in
theorem now_any (r mc ms : Nat) (age most : Int) (k : Nat) (w : World) (h : RisingAt w r mc ms age most k) :
    Calls Try.prog 20 #[.pointer (some ⟨r, 0, none⟩)] w fun e w' => e = .returned (.agg #[.int .i64 0, .int .u64 0, .int .u64 0]) ∧ Below w.heap.size w w' := by
  have c2 := h.cell 2 (.int .i64 0) rfl
  have c3 := h.cell 3 (.int .u64 0) rfl
  have c4 := h.cell 4 (.int .u64 0) rfl
  have hlt := block_lt h.cells
  clear h
  go_enter Try.func20, Try.ntmps20
  go_wp2
  exact bodyPost_ret (v := .agg #[.int .i64 0, .int .u64 0, .int .u64 0]) (by simp [results, Try.results20, go_sem]) rfl ⟨rfl, (Below.refl _ _).alloc (Nat.le_refl _) _⟩

set_option maxHeartbeats 400000 in
theorem counts_any (r mc ms : Nat) (age most : Int) (k : Nat) (w : World) (h : RisingAt w r mc ms age most k) :
    Calls Try.prog 24 #[.pointer (some ⟨r, 0, none⟩)] w fun e w' => e = .returned (.tuple #[.int .i64 0, .int .i64 0, .int .i64 0, .bool false]) ∧ ∃ n, w' = w.drewN n := by
  have c0 := h.cell 10 (.int .i64 0) rfl
  have c1 := h.cell 11 (.int .i64 0) rfl
  have c2 := h.cell 12 (.int .i64 0) rfl
  have c3 := h.cell 13 (.bool false) rfl
  clear h
  go_enter Try.func24, Try.ntmps24
  go_wp2
  go_quiet (fail)
  go_wp2
  exact bodyPost_ret (v := .tuple #[.int .i64 0, .int .i64 0, .int .i64 0, .bool false]) (by simp [results, Try.results24, go_sem]) rfl ⟨rfl, _, rfl⟩

set_option maxHeartbeats 400000 in
theorem made_any (r mc ms : Nat) (age most : Int) (k : Nat) (w : World) (h : RisingAt w r mc ms age most k) :
    Calls Try.prog 26 #[.pointer (some ⟨r, 0, none⟩)] w fun e w' => e = .returned (.tuple #[.bool true, .bool true]) ∧ ∃ n, w' = w.drewN n := by
  have c0 := h.cell 7 (.map (some mc)) rfl
  have c1 := h.cell 9 (.map (some ms)) rfl
  have hn1 : ∀ (w : World) (r : Option Nat), (binOp .neq 86 (.map r) (.map none)).run Try.prog w = .ok (.bool (!r.isNone)) w := fun w r => run_neq_map_nil w _ _ _ r Try.underlying86
  have hn2 : ∀ (w : World) (r : Option Nat), (binOp .neq 89 (.map r) (.map none)).run Try.prog w = .ok (.bool (!r.isNone)) w := fun w r => run_neq_map_nil w _ _ _ r Try.underlying89
  clear h
  go_enter Try.func26, Try.ntmps26
  go_wp2
  go_quiet (fail)
  go_wp2
  go_ret2
  exact ⟨rfl, _, rfl⟩

theorem len_map {w : World} {t k e : TypeId} (ht : Try.prog.underlying t = some (.map k e)) (ty : TypeId) {r : Nat} {es : Array MapEntry} {c n : Nat} (h : w.heap[r]? = some (.map es c)) :
    (Builtin.len_ #[t] ty #[.map (some r)]).run Try.prog (w.drewN n) = .ok (.int .i64 es.size) (w.drewN n) := by
  have hb : (w.drewN n).heap[r]? = some (.map es c) := h
  simp [Builtin.len_, run_underlying ht, MapKept.run_getObj_map hb, goInt]

set_option maxHeartbeats 400000 in
theorem lens_any (r mc ms : Nat) (age most : Int) (k : Nat) (w : World) (h : RisingAt w r mc ms age most k) :
    Calls Try.prog 22 #[.pointer (some ⟨r, 0, none⟩)] w fun e w' => e = .returned (.tuple #[.int .i64 0, .int .i64 0, .int .i64 0, .int .i64 0, .int .i64 k, .int .i64 0, .int .i64 0]) ∧ ∃ n, w' = w.drewN n := by
  have c0 := h.cell 5 (.slice none 0 0) rfl
  have c1 := h.cell 6 (.slice none 0 0) rfl
  have c2 := h.cell 7 (.map (some mc)) rfl
  have c3 := h.cell 8 (.slice none 0 0) rfl
  have c4 := h.cell 9 (.map (some ms)) rfl
  have c5 := h.cell 14 (.slice none 0 0) rfl
  have c6 := h.cell 15 (.slice none 0 0) rfl
  obtain ⟨_, hc, es, c, rfl, hs⟩ := h
  have g1 : ∀ n ty, (Builtin.len_ #[86] ty #[.map (some mc)]).run Try.prog (w.drewN n) = .ok (.int .i64 0) (w.drewN n) := fun n ty => len_map Try.underlying86 ty hc
  have g2 : ∀ n ty, (Builtin.len_ #[89] ty #[.map (some ms)]).run Try.prog (w.drewN n) = .ok (.int .i64 es.size) (w.drewN n) := fun n ty => len_map Try.underlying89 ty hs
  clear hc hs
  go_enter Try.func22, Try.ntmps22
  go_wp2
  go_quiet (fail)
  go_wp2
  exact bodyPost_ret (v := .tuple #[.int .i64 0, .int .i64 0, .int .i64 0, .int .i64 0, .int .i64 es.size, .int .i64 0, .int .i64 0]) (by simp [results, Try.results22, go_sem]) rfl ⟨rfl, _, rfl⟩

set_option maxHeartbeats 400000 in
theorem zero_any (w : World) :
    Calls Try.prog 21 #[.int .i64 0, .int .i64 0, .int .i64 0, .int .i64 0, .int .i64 0, .int .i64 0, .int .i64 0] w fun e w' => e = .returned (.bool true) ∧ w' = w := by
  go_enter Try.func21, Try.ntmps21
  go_wp2
  go_ret
  exact ⟨rfl, rfl⟩

set_option maxHeartbeats 400000 in
theorem none_any (w : World) :
    Calls Try.prog 23 #[.int .i64 0, .int .i64 0, .int .i64 0, .bool false] w fun e w' => e = .returned (.bool true) ∧ w' = w := by
  go_enter Try.func23, Try.ntmps23
  go_wp2
  go_ret
  exact ⟨rfl, rfl⟩

set_option maxHeartbeats 400000 in
theorem both_any (w : World) :
    Calls Try.prog 25 #[.bool true, .bool true] w fun e w' => e = .returned (.bool true) ∧ w' = w := by
  go_enter Try.func25, Try.ntmps25
  go_wp2
  go_ret
  exact ⟨rfl, rfl⟩

set_option maxHeartbeats 400000 in
theorem bytes_any (age most seed sw sd : Int) (pl : ByteArray) (hpl : pl.size ≤ 9223372036854775807) (w : World) :
    Calls Try.prog 16 #[.int .i64 age, .int .i64 most, .int .u64 seed, .int .i64 sw, .int .i64 sd, .string pl] w fun e w' => (e = .returned (.bool false) ∨ e = .returned (.bool true)) ∧ w' = w := by
  by_cases h : pl.size ≤ 1048576
  · go_enter Try.func16, Try.ntmps16
    go_wp2
    go_ret
    exact ⟨.inr rfl, rfl⟩
  · go_enter Try.func16, Try.ntmps16
    go_wp2
    go_ret
    exact ⟨.inl rfl, rfl⟩

/-- The first entry of an empty map keyed by an int64. -/
theorem run_first {w : World} {ms c : Nat} (v : Value) (h : w.heap[ms]? = some (.map #[] c)) :
    (Instr.mapUpdate 89 (.map (some ms)) (.int .i64 1) v).run Try.prog w = .ok () { w with heap := w.heap.setIfInBounds ms (.map #[{ key := .int .i64 1, val := v, born := c }] (c + 1)) } := by
  have hk : (Instr.checkKey false 10000 2 (.int .i64 1)).run Try.prog w = .ok () w := by
    exact MapKept.run_checkKey Try.underlying2 (by simp [MapKept.IsKey]) false 9999
  have hf : (Instr.findKey 2 (.int .i64 1) []).run Try.prog w = .ok none w := by
    exact MapKept.run_findKey Try.underlying2 (by simp [Instr.findNow])
  simp [Instr.mapUpdate, run_underlying Try.underlying89, MapKept.run_getObj_map h, hk, hf, MapKept.run_setObj_map _ h, Result.andThen]

theorem heap_set_same {w : World} {b : Nat} {o o' : Obj} (h : w.heap[b]? = some o) : (w.heap.setIfInBounds b o')[b]? = some o' := by
  have := block_lt h
  simp [this]

theorem heap_set_other {w : World} {b b' : Nat} (o' : Obj) (h : b' ≠ b) : (w.heap.setIfInBounds b o')[b']? = w.heap[b']? := by
  simp [Ne.symm h]

set_option maxHeartbeats 400000 in
theorem mark_any (B r mc ms : Nat) (age most : Int) (w : World) (h : RisingAt w r mc ms age most 0) (hmc : mc ≠ ms) (hr : r ≠ ms) (hB : B ≤ ms) :
    Calls Try.prog 27 #[.pointer (some ⟨r, 0, none⟩), .int .i64 1] w fun e w' => e = .returned (.tuple #[]) ∧ RisingAt w' r mc ms age most 1 ∧ Below B w w' ∧ ∀ k, k ≠ ms → w'.heap[k]? = w.heap[k]? := by
  have c4 := h.cell 9 (.map (some ms)) rfl
  obtain ⟨h0, hc, es, c, hes, hs⟩ := h
  obtain rfl : es = #[] := Array.size_eq_zero_iff.1 hes
  have hu := fun v => run_first v hs
  have HW : ∀ v : Value, Hid (RisingAt { w with heap := w.heap.setIfInBounds ms (.map #[{ key := .int .i64 1, val := v, born := c }] (c + 1)) } r mc ms age most 1 ∧ Below B w { w with heap := w.heap.setIfInBounds ms (.map #[{ key := .int .i64 1, val := v, born := c }] (c + 1)) } ∧ ∀ k, k ≠ ms → ({ w with heap := w.heap.setIfInBounds ms (.map #[{ key := .int .i64 1, val := v, born := c }] (c + 1)) } : World).heap[k]? = w.heap[k]?) := fun v =>
    ⟨⟨(heap_set_other _ hr).trans h0, (heap_set_other _ hmc).trans hc, _, _, rfl, heap_set_same hs⟩, ⟨rfl, rfl, rfl, by simp, fun k hk => heap_set_other _ (by omega)⟩, fun k hk => heap_set_other _ hk⟩
  clear h0 hc hs hes
  go_enter Try.func27, Try.ntmps27
  go_wp2
  go_end0
  exact ⟨rfl, (HW _).out⟩

end Go.Proofs.Qxb6609061a.Rising
