/-
  zzViewsEqual at two views that show the same: true.
-/
import Derived.Test.Qxb6609061aEq
import Derived.Test.Qxb6609061aRoot
namespace Go.Proofs.Qxb6609061a.Line
open Go.RowKit

/-- What two views show alike. -/
def Shown (w : World) (lo : Nat) (p : Nat → Option Addr) (m M : Nat) (T : Nat → Task) (F : Nat → Int) : Prop := ∀ f, f < 7 → Seen w lo (p f) (lvB m M (pgs m) f) (fldT T m F f)

theorem Shown.arrs {w : World} {lo : Nat} {p : Nat → Option Addr} {m M : Nat} {T : Nat → Task} {F : Nat → Int} (h : Shown w lo p m M T F) :
    Arr w (p 0) m (fun j => (T j).id) ∧ Arr w (p 1) m (fun j => (T j).submit) ∧ Arr w (p 2) m (fun j => (T j).work) ∧ Arr w (p 3) m (fun j => (T j).count) ∧ Arr w (p 4) m (fun j => (T j).pushed) ∧ Arr64 w (p 5) M F ∧ Arr w (p 6) (pgs m) (fun j => ((min 1024 (m - 1024 * j) : Nat) : Int)) :=
  ⟨seen_arr _ (h 0 (by decide)) rfl (fun _ => rfl), seen_arr _ (h 1 (by decide)) rfl (fun _ => rfl), seen_arr _ (h 2 (by decide)) rfl (fun _ => rfl), seen_arr _ (h 3 (by decide)) rfl (fun _ => rfl), seen_arr _ (h 4 (by decide)) rfl (fun _ => rfl), seen_arr64 _ (h 5 (by decide)) rfl (fun _ => rfl), seen_arr _ (h 6 (by decide)) rfl (fun _ => rfl)⟩

theorem Arr64.below {w w' : World} {a : Option Addr} {n : Nat} {x : Nat → Int} (h : Arr64 w a n x) (hb : Below w.heap.size w w') : Arr64 w' a n x := by
  rcases h with h | ⟨b, e, h1⟩
  · exact .inl h
  · exact .inr ⟨b, e, fun j hj => (hb.cell (p := ⟨b, j, none⟩) (block_lt_of_cell (h1 j hj))).trans (h1 j hj)⟩

set_option maxHeartbeats 1600000 in
set_option maxRecDepth 100000 in
theorem views_any (m M : Nat) (hm : m ≤ 65536) (hM : M ≤ 1000000) (T : Nat → Task) (F : Nat → Int) (p p' : Nat → Option Addr) (k k' : Nat → Nat) (held waiting first : Int) (w : World) (lo lo' : Nat) (H : Shown w lo p m M T F) (H' : Shown w lo' p' m M T F) :
    Calls Try.prog 15 #[.agg (fields p k m M held waiting first).toArray, .agg (fields p' k' m M held waiting first).toArray] w fun e w' => e = .returned (.bool true) ∧ Below w.heap.size w w' := by
  obtain ⟨S0, S1, S2, S3, S4, S5, S6⟩ := H.arrs
  obtain ⟨R0, R1, R2, R3, R4, R5, R6⟩ := H'.arrs
  clear H H'
  have hp : pgs m ≤ 65536 := by unfold pgs; omega
  unfold fields
  generalize p 0 = p0 at *
  generalize p 1 = p1 at *
  generalize p 2 = p2 at *
  generalize p 3 = p3 at *
  generalize p 4 = p4 at *
  generalize p 5 = p5 at *
  generalize p 6 = p6 at *
  generalize p' 0 = q0 at *
  generalize p' 1 = q1 at *
  generalize p' 2 = q2 at *
  generalize p' 3 = q3 at *
  generalize p' 4 = q4 at *
  generalize p' 5 = q5 at *
  generalize p' 6 = q6 at *
  obtain ⟨W, hW⟩ : ∃ W, W = (w.alloc (.cells #[.slice p0 m (k 0), .slice p1 m (k 1), .slice p2 m (k 2), .slice p3 m (k 3), .slice p4 m (k 4), .slice p5 M (k 5), .slice p6 (pgs m) (k 6), .int .i64 held, .int .i64 waiting, .int .i64 first, .int .i64 m] 33)).alloc (.cells #[.slice q0 m (k' 0), .slice q1 m (k' 1), .slice q2 m (k' 2), .slice q3 m (k' 3), .slice q4 m (k' 4), .slice q5 M (k' 5), .slice q6 (pgs m) (k' 6), .int .i64 held, .int .i64 waiting, .int .i64 first, .int .i64 m] 33) := ⟨_, rfl⟩
  have e0 : W.cell? ⟨w.heap.size, 0, none⟩ = some (.slice p0 m (k 0)) := by rw [hW, World.cell?_alloc_past _ _ _ (by simp), World.cell?_alloc_at _ _ _ _ rfl]; rfl
  have d0 : W.cell? ⟨w.heap.size + 1, 0, none⟩ = some (.slice q0 m (k' 0)) := by rw [hW, World.cell?_alloc_at _ _ _ _ (by simp)]; rfl
  have e1 : W.cell? ⟨w.heap.size, 1, none⟩ = some (.slice p1 m (k 1)) := by rw [hW, World.cell?_alloc_past _ _ _ (by simp), World.cell?_alloc_at _ _ _ _ rfl]; rfl
  have d1 : W.cell? ⟨w.heap.size + 1, 1, none⟩ = some (.slice q1 m (k' 1)) := by rw [hW, World.cell?_alloc_at _ _ _ _ (by simp)]; rfl
  have e2 : W.cell? ⟨w.heap.size, 2, none⟩ = some (.slice p2 m (k 2)) := by rw [hW, World.cell?_alloc_past _ _ _ (by simp), World.cell?_alloc_at _ _ _ _ rfl]; rfl
  have d2 : W.cell? ⟨w.heap.size + 1, 2, none⟩ = some (.slice q2 m (k' 2)) := by rw [hW, World.cell?_alloc_at _ _ _ _ (by simp)]; rfl
  have e3 : W.cell? ⟨w.heap.size, 3, none⟩ = some (.slice p3 m (k 3)) := by rw [hW, World.cell?_alloc_past _ _ _ (by simp), World.cell?_alloc_at _ _ _ _ rfl]; rfl
  have d3 : W.cell? ⟨w.heap.size + 1, 3, none⟩ = some (.slice q3 m (k' 3)) := by rw [hW, World.cell?_alloc_at _ _ _ _ (by simp)]; rfl
  have e4 : W.cell? ⟨w.heap.size, 4, none⟩ = some (.slice p4 m (k 4)) := by rw [hW, World.cell?_alloc_past _ _ _ (by simp), World.cell?_alloc_at _ _ _ _ rfl]; rfl
  have d4 : W.cell? ⟨w.heap.size + 1, 4, none⟩ = some (.slice q4 m (k' 4)) := by rw [hW, World.cell?_alloc_at _ _ _ _ (by simp)]; rfl
  have e5 : W.cell? ⟨w.heap.size, 5, none⟩ = some (.slice p5 M (k 5)) := by rw [hW, World.cell?_alloc_past _ _ _ (by simp), World.cell?_alloc_at _ _ _ _ rfl]; rfl
  have d5 : W.cell? ⟨w.heap.size + 1, 5, none⟩ = some (.slice q5 M (k' 5)) := by rw [hW, World.cell?_alloc_at _ _ _ _ (by simp)]; rfl
  have e6 : W.cell? ⟨w.heap.size, 6, none⟩ = some (.slice p6 (pgs m) (k 6)) := by rw [hW, World.cell?_alloc_past _ _ _ (by simp), World.cell?_alloc_at _ _ _ _ rfl]; rfl
  have d6 : W.cell? ⟨w.heap.size + 1, 6, none⟩ = some (.slice q6 (pgs m) (k' 6)) := by rw [hW, World.cell?_alloc_at _ _ _ _ (by simp)]; rfl
  have e7 : W.cell? ⟨w.heap.size, 7, none⟩ = some (.int .i64 held) := by rw [hW, World.cell?_alloc_past _ _ _ (by simp), World.cell?_alloc_at _ _ _ _ rfl]; rfl
  have d7 : W.cell? ⟨w.heap.size + 1, 7, none⟩ = some (.int .i64 held) := by rw [hW, World.cell?_alloc_at _ _ _ _ (by simp)]; rfl
  have e8 : W.cell? ⟨w.heap.size, 8, none⟩ = some (.int .i64 waiting) := by rw [hW, World.cell?_alloc_past _ _ _ (by simp), World.cell?_alloc_at _ _ _ _ rfl]; rfl
  have d8 : W.cell? ⟨w.heap.size + 1, 8, none⟩ = some (.int .i64 waiting) := by rw [hW, World.cell?_alloc_at _ _ _ _ (by simp)]; rfl
  have e9 : W.cell? ⟨w.heap.size, 9, none⟩ = some (.int .i64 first) := by rw [hW, World.cell?_alloc_past _ _ _ (by simp), World.cell?_alloc_at _ _ _ _ rfl]; rfl
  have d9 : W.cell? ⟨w.heap.size + 1, 9, none⟩ = some (.int .i64 first) := by rw [hW, World.cell?_alloc_at _ _ _ _ (by simp)]; rfl
  have e10 : W.cell? ⟨w.heap.size, 10, none⟩ = some (.int .i64 m) := by rw [hW, World.cell?_alloc_past _ _ _ (by simp), World.cell?_alloc_at _ _ _ _ rfl]; rfl
  have d10 : W.cell? ⟨w.heap.size + 1, 10, none⟩ = some (.int .i64 m) := by rw [hW, World.cell?_alloc_at _ _ _ _ (by simp)]; rfl
  have BW : Below w.heap.size w W := by rw [hW]; exact ((Below.refl _ _).alloc (Nat.le_refl _) _).alloc (by simp) _
  replace S0 := S0.below BW
  replace R0 := R0.below BW
  replace S1 := S1.below BW
  replace R1 := R1.below BW
  replace S2 := S2.below BW
  replace R2 := R2.below BW
  replace S3 := S3.below BW
  replace R3 := R3.below BW
  replace S4 := S4.below BW
  replace R4 := R4.below BW
  replace S5 := S5.below BW
  replace R5 := R5.below BW
  replace S6 := S6.below BW
  replace R6 := R6.below BW
  go_enter Try.func15, Try.ntmps15
  go_wp2_with fail
  rw [← hW]
  clear hW
  generalize Value.agg #[.slice p0 m (k 0), .slice p1 m (k 1), .slice p2 m (k 2), .slice p3 m (k 3), .slice p4 m (k 4), .slice p5 M (k 5), .slice p6 (pgs m) (k 6), .int .i64 held, .int .i64 waiting, .int .i64 first, .int .i64 m] = ag1
  generalize Value.agg #[.slice q0 m (k' 0), .slice q1 m (k' 1), .slice q2 m (k' 2), .slice q3 m (k' 3), .slice q4 m (k' 4), .slice q5 M (k' 5), .slice q6 (pgs m) (k' 6), .int .i64 held, .int .i64 waiting, .int .i64 first, .int .i64 m] = ag2
  have S1' : ∀ kk, Arr (W.drewN kk) p1 m (fun j => (T j).submit) := fun _ => S1
  have R1' : ∀ kk, Arr (W.drewN kk) q1 m (fun j => (T j).submit) := fun _ => R1
  have S2' : ∀ kk, Arr (W.drewN kk) p2 m (fun j => (T j).work) := fun _ => S2
  have R2' : ∀ kk, Arr (W.drewN kk) q2 m (fun j => (T j).work) := fun _ => R2
  have S3' : ∀ kk, Arr (W.drewN kk) p3 m (fun j => (T j).count) := fun _ => S3
  have R3' : ∀ kk, Arr (W.drewN kk) q3 m (fun j => (T j).count) := fun _ => R3
  have S4' : ∀ kk, Arr (W.drewN kk) p4 m (fun j => (T j).pushed) := fun _ => S4
  have R4' : ∀ kk, Arr (W.drewN kk) q4 m (fun j => (T j).pushed) := fun _ => R4
  have S5' : ∀ kk, Arr64 (W.drewN kk) p5 M F := fun _ => S5
  have R5' : ∀ kk, Arr64 (W.drewN kk) q5 M F := fun _ => R5
  have S6' : ∀ kk, Arr (W.drewN kk) p6 (pgs m) (fun j => ((min 1024 (m - 1024 * j) : Nat) : Int)) := fun _ => S6
  have R6' : ∀ kk, Arr (W.drewN kk) q6 (pgs m) (fun j => ((min 1024 (m - 1024 * j) : Nat) : Int)) := fun _ => R6
  refine (eq31 m hm (fun j => (T j).id) p0 q0 _ _ _ S0 R0).mono ?_
  rintro e w' ⟨rfl, kk, rfl⟩
  clear S0 S1 S2 S3 S4 S5 S6 R0 R1 R2 R3 R4 R5 R6
  go_wp2_with (first
    | (go_at_call 32; with_reducible refine (eq32 m hm _ p1 q1 _ _ (W.drewN _) (S1' _) (R1' _)).mono ?_; rintro e w' ⟨rfl, kk, hw'⟩; rw [World.drewN_drewN] at hw'; subst hw')
    | (go_at_call 32; with_reducible refine (eq32 m hm _ p2 q2 _ _ (W.drewN _) (S2' _) (R2' _)).mono ?_; rintro e w' ⟨rfl, kk, hw'⟩; rw [World.drewN_drewN] at hw'; subst hw')
    | (go_at_call 32; with_reducible refine (eq32 m hm _ p3 q3 _ _ (W.drewN _) (S3' _) (R3' _)).mono ?_; rintro e w' ⟨rfl, kk, hw'⟩; rw [World.drewN_drewN] at hw'; subst hw')
    | (go_at_call 32; with_reducible refine (eq32 m hm _ p4 q4 _ _ (W.drewN _) (S4' _) (R4' _)).mono ?_; rintro e w' ⟨rfl, kk, hw'⟩; rw [World.drewN_drewN] at hw'; subst hw')
    | (go_at_call 33; with_reducible refine (eq33 M hM F p5 q5 _ _ (W.drewN _) (S5' _) (R5' _)).mono ?_; rintro e w' ⟨rfl, kk, hw'⟩; rw [World.drewN_drewN] at hw'; subst hw')
    | (go_at_call 31; with_reducible refine (eq31 (pgs m) hp _ p6 q6 _ _ (W.drewN _) (S6' _) (R6' _)).mono ?_; rintro e w' ⟨rfl, kk, hw'⟩; rw [World.drewN_drewN] at hw'; subst hw'))
  go_ret
  exact ⟨rfl, below_drewN BW _⟩

end Go.Proofs.Qxb6609061a.Line
