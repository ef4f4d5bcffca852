/-
  Plain laws for the second statement: what is kept is kept; the root of the tree is the least work; a rebuilt line rebuilt once more.
-/
import Derived.Test.Qxb6609061aTopParts
namespace Go.Proofs.Qxb6609061a.Line
open Go.RowKit

theorem kept_kept (T : Nat → Task) (n : Nat) (d : Task) : kept (fun j => (kept T n).getD j d) (kept T n).length = kept T n := by
  have h1 : (List.range (kept T n).length).map (fun j => (kept T n).getD j d) = kept T n := by
    apply List.ext_getElem
    · simp
    · intro i h1 h2
      simp [h2]
  have h2 : kept (fun j => (kept T n).getD j d) (kept T n).length = (kept T n).filter (fun t => decide (0 < t.count)) := by
    show ((List.range (kept T n).length).map (fun j => (kept T n).getD j d)).filter _ = _
    rw [h1]
  rw [h2, List.filter_eq_self]
  intro t ht
  simp only [kept, List.mem_filter] at ht
  exact ht.2

theorem root_least {T : Nat → Task} {m : Nat} {F : Nat → Int} (hm : m ≤ 65536) (h : IsTree (leafOf T m) (lvs m) F) (hc : ∀ j, j < m → 0 < (T j).count) : F 1 = leastW (fun j => (T j).work) 0 m := by
  obtain ⟨⟨l1, l2, l3, ⟨e, he⟩, _⟩, l5⟩ := lvs_facts m hm
  have := tree_node h hc e 1 (by decide) (by omega) (by omega) (fun d' hd => by
    rw [he, show (1 + 1) * 2 ^ d' = 2 ^ (d' + 1) by rw [Nat.pow_succ, Nat.mul_comm]]
    exact Nat.pow_le_pow_right (by decide) hd)
  rw [this, ← he]
  have e1 : min m ((1 * lvs m - lvs m) * 8) = 0 := by omega
  have e2 : span m (1 * lvs m - lvs m) ((1 + 1) * lvs m - lvs m) = m := by unfold span; omega
  rw [e1, e2]

variable {w : World} {lo hi q : Nat} {pa : Option Addr} {g cap : Nat} {pb : Nat → Nat} {n : Nat} {T : Nat → Task} {least : Value} {held waiting first : Int}

theorem rebuild_kept (h : Line w lo hi q pa g cap pb (kept T n).length (fun j => (kept T n).getD j ⟨0, 0, 0, 0, 0⟩) least held waiting first) (hn : n ≤ 65536) (hw : ∀ i, i < n → 0 ≤ (T i).work ∧ (T i).work ≤ 9223372036854775807) :
    Calls Try.prog 10 #[.pointer (some ⟨q, 0, none⟩)] w fun e w' => e = .returned (.tuple #[]) ∧ ∃ (lb : Nat) (F : Nat → Int), Line w' lo hi q pa g cap pb (kept T n).length (fun j => (kept T n).getD j ⟨0, 0, 0, 0, 0⟩) (.slice (some ⟨lb, 0, none⟩) (2 * lvs (kept T n).length) (2 * lvs (kept T n).length)) held waiting 0 ∧ Within lo hi w w' ∧ Cells64 w' lb (2 * lvs (kept T n).length) F ∧ IsTree (leafOf (fun j => (kept T n).getD j ⟨0, 0, 0, 0, 0⟩) (kept T n).length) (lvs (kept T n).length) F ∧ w.heap.size ≤ lb := by
  have hk := kept_le T n
  have := zzrebuild_any h (by omega) (fun j hj => by obtain ⟨_, i, hi, he⟩ := kept_pos T n ⟨0, 0, 0, 0, 0⟩ j hj; rw [he]; exact hw i hi)
  rw [kept_kept T n ⟨0, 0, 0, 0, 0⟩] at this
  exact this

theorem Line.of_below {w' : World} (h : Line w lo hi q pa g cap pb n T least held waiting first) (hb : Below w.heap.size w w') : Line w' lo hi q pa g cap pb n T least held waiting first :=
  h.keep hb.size (fun k _ hk => hb.block k (Nat.lt_of_lt_of_le hk h.top))

theorem Line.of_within {w' : World} {l u : Nat} (h : Line w lo hi q pa g cap pb n T least held waiting first) (hb : Within l u w w') (hd : hi ≤ l ∨ u ≤ lo) : Line w' lo hi q pa g cap pb n T least held waiting first :=
  h.keep hb.size (fun k h1 hk => hb.block k (Nat.lt_of_lt_of_le hk h.top) (by omega))

theorem Cells64.of_within {w w' : World} {lb M l u : Nat} {F : Nat → Int} (h : Cells64 w lb M F) (hb : Within l u w w') (h1 : lb < w.heap.size) (h2 : u ≤ lb) : Cells64 w' lb M F :=
  ⟨fun j hj => by rw [hb.cell (p := ⟨lb, 0 + j, none⟩) h1 (by simp; omega), hb.frozen (p := ⟨lb, 0 + j, none⟩) h1 (by simp; omega)]; exact h.1 j hj, fun k hk => by rw [hb.cell (p := ⟨lb, k, none⟩) h1 (by simp; omega)]; exact h.2 k hk⟩

theorem Cells64.of_below {w w' : World} {lb M : Nat} {F : Nat → Int} (h : Cells64 w lb M F) (hb : Below w.heap.size w w') (h1 : lb < w.heap.size) : Cells64 w' lb M F :=
  h.of_within (l := 0) (u := 0) (.of_below hb) h1 (Nat.zero_le _)

theorem Seen.within {w w' : World} {lo l u : Nat} {p : Option Addr} {m : Nat} {x : Nat → Value} (h : Seen w lo p m x) (hb : Within l u w w') (hu : u ≤ lo) : Seen w' lo p m x := by
  rcases h with h | ⟨g, e, h1, h2, h3⟩
  · exact .inl h
  · exact .inr ⟨g, e, h1, Nat.lt_of_lt_of_le h2 hb.size, fun j hj => (hb.cell (p := ⟨g, j, none⟩) h2 (by simp; omega)).trans (h3 j hj)⟩

theorem Seen.congr {w : World} {lo : Nat} {p : Option Addr} {m : Nat} {x y : Nat → Value} (h : Seen w lo p m x) (hxy : ∀ j, j < m → x j = y j) : Seen w lo p m y := by
  rcases h with h | ⟨g, e, h1, h2, h3⟩
  · exact .inl h
  · exact .inr ⟨g, e, h1, h2, fun j hj => by rw [h3 j hj, hxy j hj]⟩

theorem range_within {w w' : World} {l u B : Nat} {cs : List Value} (h : w.rangeAt B 0 cs) (hb : Within l u w w') (h1 : B < w.heap.size) (hu : u ≤ B) : w'.rangeAt B 0 cs :=
  fun j v hv => (hb.cell (p := ⟨B, 0 + j, none⟩) h1 (by simp; omega)).trans (h j v hv)

end Go.Proofs.Qxb6609061a.Line
