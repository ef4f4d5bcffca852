import Derived.Test.Qxb6608960aClone
import Derived.ProofKit
import Derived.OpenShut
import Derived.Deep.Slices
namespace Go.Proofs.Qxb6608960a.Plans
open Go.ChangeShapes Go.WideShapes Go.ChangeAt Go.RowKit

theorem cells43 : Try.prog.cellsOf 43 = 10 := by kernel_rfl
theorem cells41 : Try.prog.cellsOf 41 = 3 := by kernel_rfl
theorem cells9 : Try.prog.cellsOf 9 = 1 := by kernel_rfl
theorem cells4 : Try.prog.cellsOf 4 = 1 := by kernel_rfl
theorem cells3 : Try.prog.cellsOf 3 = 1 := by kernel_rfl
theorem cells2 : Try.prog.cellsOf 2 = 1 := by kernel_rfl

theorem list3 {α : Type} {l : List α} (h : l.length = 3) : ∃ a b c, l = [a, b, c] := by
  match l, h with
  | [a, b, c], _ => exact ⟨a, b, c, rfl⟩

theorem list10 {α : Type} {l : List α} (h : l.length = 10) : ∃ a b c d e f g i j k, l = [a, b, c, d, e, f, g, i, j, k] := by
  match l, h with
  | [a, b, c, d, e, f, g, i, j, k], _ => exact ⟨a, b, c, d, e, f, g, i, j, k, rfl⟩

theorem list8 {α : Type} {l : List α} (h : l.length = 8) : ∃ a b c d e f g i, l = [a, b, c, d, e, f, g, i] := by
  match l, h with
  | [a, b, c, d, e, f, g, i], _ => exact ⟨a, b, c, d, e, f, g, i, rfl⟩

/-- The ten cells of a zzPlan that can be read are those of some plan. -/
theorem open_plan {H : Type} {enc : TypeId × Value → H} {w : World} {base : Nat} {spare : Nat → Bool} {held : Bool} {fuel : Nat} {cs : List Value} {x : DataW H × List MemPlace}
    (h : DataW.trod enc Try.prog w base spare held fuel 43 cs = some x) : ∃ p : PlanD, cs = p.cs := by
  obtain ⟨xs, n, _, _, hl, hlen, hf⟩ := DataW.trod_struct Try.underlying43 h
  rw [cells43] at hl
  obtain ⟨c0, c1, c2, c3, c4, c5, c6, c7, c8, c9, rfl⟩ := list10 hl
  obtain ⟨y0, y1, y2, y3, y4, y5, y6, y7, rfl⟩ := list8 (show xs.length = 8 from hlen)
  have f0 : DataW.trod enc Try.prog w base spare held n 9 [c0] = some y0 := by
    have t : DataW.trod enc Try.prog w base spare held n 9 (([c0, c1, c2, c3, c4, c5, c6, c7, c8, c9].drop 0).take (Try.prog.cellsOf 9)) = some y0 := hf 0 _ rfl
    rw [cells9] at t
    exact t
  have f1 : DataW.trod enc Try.prog w base spare held n 4 [c1] = some y1 := by
    have t : DataW.trod enc Try.prog w base spare held n 4 (([c0, c1, c2, c3, c4, c5, c6, c7, c8, c9].drop 1).take (Try.prog.cellsOf 4)) = some y1 := hf 1 _ rfl
    rw [cells4] at t
    exact t
  have f2 : DataW.trod enc Try.prog w base spare held n 4 [c2] = some y2 := by
    have t : DataW.trod enc Try.prog w base spare held n 4 (([c0, c1, c2, c3, c4, c5, c6, c7, c8, c9].drop 2).take (Try.prog.cellsOf 4)) = some y2 := hf 2 _ rfl
    rw [cells4] at t
    exact t
  have f3 : DataW.trod enc Try.prog w base spare held n 3 [c3] = some y3 := by
    have t : DataW.trod enc Try.prog w base spare held n 3 (([c0, c1, c2, c3, c4, c5, c6, c7, c8, c9].drop 3).take (Try.prog.cellsOf 3)) = some y3 := hf 3 _ rfl
    rw [cells3] at t
    exact t
  have f4 : DataW.trod enc Try.prog w base spare held n 41 [c4, c5, c6] = some y4 := by
    have t : DataW.trod enc Try.prog w base spare held n 41 (([c0, c1, c2, c3, c4, c5, c6, c7, c8, c9].drop 4).take (Try.prog.cellsOf 41)) = some y4 := hf 4 _ rfl
    rw [cells41] at t
    exact t
  have f5 : DataW.trod enc Try.prog w base spare held n 4 [c7] = some y5 := by
    have t : DataW.trod enc Try.prog w base spare held n 4 (([c0, c1, c2, c3, c4, c5, c6, c7, c8, c9].drop 7).take (Try.prog.cellsOf 4)) = some y5 := hf 5 _ rfl
    rw [cells4] at t
    exact t
  have f6 : DataW.trod enc Try.prog w base spare held n 3 [c8] = some y6 := by
    have t : DataW.trod enc Try.prog w base spare held n 3 (([c0, c1, c2, c3, c4, c5, c6, c7, c8, c9].drop 8).take (Try.prog.cellsOf 3)) = some y6 := hf 6 _ rfl
    rw [cells3] at t
    exact t
  have f7 : DataW.trod enc Try.prog w base spare held n 2 [c9] = some y7 := by
    have t : DataW.trod enc Try.prog w base spare held n 2 (([c0, c1, c2, c3, c4, c5, c6, c7, c8, c9].drop 9).take (Try.prog.cellsOf 2)) = some y7 := hf 7 _ rfl
    rw [cells2] at t
    exact t
  obtain ⟨s0, e0, _⟩ := DataW.trod_string Try.underlying9 f0
  obtain ⟨s1, e1, _⟩ := DataW.trod_bool Try.underlying4 f1
  obtain ⟨s2, e2, _⟩ := DataW.trod_bool Try.underlying4 f2
  obtain ⟨s3, e3, _⟩ := DataW.trod_int Try.underlying3 f3
  obtain ⟨s5, e5, _⟩ := DataW.trod_bool Try.underlying4 f5
  obtain ⟨s6, e6, _⟩ := DataW.trod_int Try.underlying3 f6
  obtain ⟨s7, e7, _⟩ := DataW.trod_int Try.underlying2 f7
  obtain ⟨ys, m, _, _, _, hyl, hy⟩ := DataW.trod_array Try.underlying41 f4
  obtain ⟨z0, z1, z2, rfl⟩ := list3 hyl
  have g0 : DataW.trod enc Try.prog w base spare held m 2 [c4] = some z0 := by
    have t := hy 0 (by decide)
    rw [cells2] at t
    exact t
  have g1 : DataW.trod enc Try.prog w base spare held m 2 [c5] = some z1 := by
    have t := hy 1 (by decide)
    rw [cells2] at t
    exact t
  have g2 : DataW.trod enc Try.prog w base spare held m 2 [c6] = some z2 := by
    have t := hy 2 (by decide)
    rw [cells2] at t
    exact t
  obtain ⟨t0, d0, _⟩ := DataW.trod_int Try.underlying2 g0
  obtain ⟨t1, d1, _⟩ := DataW.trod_int Try.underlying2 g1
  obtain ⟨t2, d2, _⟩ := DataW.trod_int Try.underlying2 g2
  simp only [List.cons.injEq, and_true] at e0 e1 e2 e3 e5 e6 e7 d0 d1 d2
  subst e0 e1 e2 e3 e5 e6 e7 d0 d1 d2
  exact ⟨⟨s0, s1, s2, s3, t0, t1, t2, s5, s6, s7⟩, rfl⟩

/-- The slice of zzPlan that came in, as the walks want it. -/
theorem open_plans {H : Type} {enc : TypeId × Value → H} {w : World} {base : Nat} {spare : Nat → Bool} {held : Bool} {ad : Option Addr} {len cap : Nat} {d : DataW H} {p : List MemPlace}
    (h : DataW.Trod enc Try.prog w base spare held 39 (.slice ad len cap) d p) : (ad = none → len = 0 ∧ cap = 0) ∧ len ≤ 9223372036854775807 ∧ ∃ D, PlansIn w ad len D := by
  obtain ⟨fuel, hf⟩ := h
  rcases Go.Deep.open_slice Try.underlying39 hf with ⟨hcs, _⟩ | ⟨a, l, c, m, n, Dd, Pl, hcs, _, hl, hm, hmm, _, hx⟩
  · simp [Value.cells] at hcs
    obtain ⟨rfl, rfl, rfl⟩ := hcs
    exact ⟨fun _ => ⟨rfl, rfl⟩, by omega, fun _ => ⟨ByteArray.empty, false, false, 0, 0, 0, 0, false, 0, 0⟩, .inl rfl⟩
  · simp [Value.cells] at hcs
    obtain ⟨rfl, rfl, rfl⟩ := hcs
    unfold maxLen at hm
    refine ⟨fun e => (by cases e), by omega, ?_⟩
    have hlm : len ≤ m := by rw [hmm]; split <;> omega
    have key : ∀ i, i < len → ∃ q : PlanD, ∀ j v, q.cs[j]? = some v → w.cell? ((a.add (i * 10)).add j) = some v := fun i hi => by
      obtain ⟨cs', h1, h2⟩ := hx i (by omega)
      rw [cells43] at h1
      obtain ⟨q, rfl⟩ := open_plan h2
      refine ⟨q, fun j v hv => ?_⟩
      obtain ⟨_, hlen, hc⟩ := World.cells?_some h1
      have hj : j < q.cs.length := (List.getElem?_eq_some_iff.1 hv).1
      rw [hc j (by rw [PlanD.len] at hj; exact hj), hv]
    by_cases h0 : len = 0
    · exact ⟨fun _ => ⟨ByteArray.empty, false, false, 0, 0, 0, 0, false, 0, 0⟩, .inl h0⟩
    · obtain ⟨b, off, spot⟩ := a
      obtain ⟨q0, hq0⟩ := key 0 (by omega)
      have hsp : spot = none := by simpa [Addr.add] using World.cell?_spot (hq0 0 _ rfl)
      subst hsp
      have key' : ∀ i, i < len → ∃ q : PlanD, w.rangeAt b (off + i * 10) q.cs := fun i hi => by
        obtain ⟨q, hq⟩ := key i hi
        refine ⟨q, fun j v hv => ?_⟩
        have := hq j v hv
        rwa [Addr.add_mid, Addr.add_mid] at this
      refine ⟨fun i => if hi : i < len then Classical.choose (key' i hi) else q0, .inr ⟨b, off, rfl, fun k hk => ?_⟩⟩
      simp only [dif_pos hk]
      exact Classical.choose_spec (key' k hk)

end Go.Proofs.Qxb6608960a.Plans
