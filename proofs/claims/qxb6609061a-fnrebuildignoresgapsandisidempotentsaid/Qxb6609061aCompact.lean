import Derived.Test.Qxb6609061aTrunc2
import Derived.Test.Qxb6609061aBlock
import Derived.Deep.RegionWith
namespace Go.Proofs.Qxb6609061a.Line
open Go.RowKit

/-- The waiting tasks among the first i, in order. -/
def kept (T : Nat → Task) (i : Nat) : List Task := ((List.range i).map T).filter (fun t => decide (0 < t.count))

theorem kept_yes {T : Nat → Task} {i : Nat} (h : 0 < (T i).count) : kept T (i + 1) = kept T i ++ [T i] := by
  simp [kept, List.range_succ, h]

theorem kept_no {T : Nat → Task} {i : Nat} (h : ¬ 0 < (T i).count) : kept T (i + 1) = kept T i := by
  simp [kept, List.range_succ, h]

theorem kept_le (T : Nat → Task) : ∀ i, (kept T i).length ≤ i
  | 0 => by simp [kept]
  | i + 1 => by
    have := kept_le T i
    by_cases h : 0 < (T i).count
    · rw [kept_yes h]; simp; omega
    · rw [kept_no h]; omega

section
variable {w : World} {lo hi q : Nat} {pa : Option Addr} {g cap : Nat} {pb : Nat → Nat} {n : Nat} {T : Nat → Task} {least : Value} {held waiting first : Int}

theorem Line.congr {T' : Nat → Task} (h : Line w lo hi q pa g cap pb n T least held waiting first) (he : ∀ i, i < n → T i = T' i) : Line w lo hi q pa g cap pb n T' least held waiting first :=
  ⟨h.hq, h.top, h.head0, h.head1, h.head2, h.head3, h.head4, h.head5, h.qth, h.hpa, h.hcap, h.gth, h.page, h.pbr, h.inj, h.pth, fun i hi' => by rw [← he i hi']; exact h.task i hi'⟩

theorem Line.drew (h : Line w lo hi q pa g cap pb n T least held waiting first) : Line w.drew lo hi q pa g cap pb n T least held waiting first := h.keep (Nat.le_refl _) (fun _ _ _ => rfl)
theorem Line.drewN (h : Line w lo hi q pa g cap pb n T least held waiting first) (k : Nat) : Line (w.drewN k) lo hi q pa g cap pb n T least held waiting first := h.keep (Nat.le_refl _) (fun _ _ _ => rfl)

/-- A task stored at place m. -/
theorem Line.store (h : Line w lo hi q pa g cap pb n T least held waiting first) (m : Nat) (hm : m < n) (t : Task) :
    Line (w.setCells (pb (m / 1024)) (m % 1024 * 5) t.cs) lo hi q pa g cap pb n (fun j => if j = m then t else T j) least held waiting first ∧ Within lo hi w (w.setCells (pb (m / 1024)) (m % 1024 * 5) t.cs) := by
  have hp := h.pbr _ (pgs_lt hm)
  have hga := h.ga (by omega)
  have hw : Within lo hi w (w.setCells (pb (m / 1024)) (m % 1024 * 5) t.cs) := Within.setCells (.inr ⟨hp.1, hp.2.1⟩) _ _ _ (Within.refl _ _ _)
  have hq : ∀ {j : Nat} {u : Value}, w.cell? ⟨q, j, none⟩ = some u → (w.setCells (pb (m / 1024)) (m % 1024 * 5) t.cs).cell? ⟨q, j, none⟩ = some u := fun hu => csets hu _ (.inl (Ne.symm hp.2.2.1))
  refine ⟨⟨h.hq, Nat.le_trans h.top hw.size, hq h.head0, hq h.head1, hq h.head2, hq h.head3, hq h.head4, hq h.head5, World.there_setCells h.qth _ _ _, h.hpa, h.hcap, World.there_setCells h.gth _ _ _,
    fun k hk => csets (h.page k hk) _ (.inl (Ne.symm hp.2.2.2)), h.pbr, h.inj, fun k hk => World.there_setCells (h.pth k hk) _ _ _, fun i hi' => ?_⟩, hw⟩
  by_cases e : i = m
  · subst e
    simp only [if_pos]
    exact World.rangeAt_setCells_same _ _ _ _ (there_sub (h.pth _ (pgs_lt hm)) (Nat.zero_le _) (by rw [Task.len]; omega))
  · simp only [if_neg e]
    refine World.rangeAt_setCells_apart (h.task i hi') _ _ _ ?_
    rw [Task.len, Task.len]
    by_cases e2 : i / 1024 = m / 1024
    · right; omega
    · left; exact fun e3 => e2 (h.inj _ _ (pgs_lt hi') (pgs_lt hm) e3)

theorem setCells5 (w : World) (b o : Nat) (t : Task) : w.setCells b o t.cs = ((((w.setCell ⟨b, o, none⟩ (.int .i64 t.id)).setCell ⟨b, o + 1, none⟩ (.int .i64 t.submit)).setCell ⟨b, o + 2, none⟩ (.int .i64 t.work)).setCell ⟨b, o + 3, none⟩ (.int .i64 t.count)).setCell ⟨b, o + 4, none⟩ (.int .i64 t.pushed) := rfl

theorem info78 : (Try.prog.info? 78).map (·.size) = some 5 := by kernel_rfl

theorem task_cells {b o : Nat} {t : Task} (h : w.rangeAt b o t.cs) : w.cell? ⟨b, o, none⟩ = some (.int .i64 t.id) ∧ w.cell? ⟨b, o + 1, none⟩ = some (.int .i64 t.submit) ∧ w.cell? ⟨b, o + 2, none⟩ = some (.int .i64 t.work) ∧ w.cell? ⟨b, o + 3, none⟩ = some (.int .i64 t.count) ∧ w.cell? ⟨b, o + 4, none⟩ = some (.int .i64 t.pushed) :=
  ⟨by simpa using h 0 _ rfl, h 1 _ rfl, h 2 _ rfl, h 3 _ rfl, h 4 _ rfl⟩

set_option maxHeartbeats 800000 in
set_option maxRecDepth 100000 in
theorem compact_any (h : Line w lo hi q pa g cap pb n T least held waiting first) (hn : n ≤ 65536) :
    Calls Try.prog 35 #[.pointer (some ⟨q, 0, none⟩)] w fun e w' => e = .returned (.tuple #[]) ∧ Line w' lo hi q pa g cap pb (kept T n).length (fun j => (kept T n).getD j ⟨0, 0, 0, 0, 0⟩) least held waiting first ∧ Within lo hi w w' := by
  have c1 := h.head1
  go_enter Try.func35, Try.ntmps35
  go_wp2
  clear c1
  go_loopw [2, 10] (fun mv iv wr => ∃ (i : Nat) (T' : Nat → Task), i ≤ n ∧ iv = .int .i64 i ∧ mv = .int .i64 (kept T i).length ∧ Line wr lo hi q pa g cap pb n T' least held waiting first ∧ (∀ j, j < (kept T i).length → T' j = (kept T i).getD j ⟨0, 0, 0, 0, 0⟩) ∧ (∀ j, i ≤ j → T' j = T j) ∧ Within lo hi w wr) (fun _ iv _ => n - (intOf iv).toNat)
  case atStart => exact ⟨0, T, Nat.zero_le _, rfl, rfl, h, fun j hj => absurd hj (Nat.not_lt_zero _), fun _ _ => rfl, Within.refl _ _ _⟩
  case round =>
    obtain ⟨i, T', hi', rfl, rfl, hL, hlow, hhigh, hW⟩ := hrel
    have hkl := kept_le T i
    by_cases hlt : i < n
    · have hat := at_any hL hn i hlt
      have hTi : T' i = T i := hhigh i (Nat.le_refl _)
      have htc := hL.task i hlt
      rw [hTi] at htc
      have hc := count_cell htc
      by_cases hcn : 0 < (T i).count
      · have hatm := at_any hL.drew hn (kept T i).length (by omega)
        obtain ⟨d0, d1, d2, d3, d4⟩ := task_cells htc
        have hst := Line.store hL (kept T i).length (by omega) (T i)
        have hth := hL.pth _ (pgs_lt (show (kept T i).length < n by omega))
        have hky := kept_yes hcn
        have hlow' : ∀ j, j < (kept T (i + 1)).length → (if j = (kept T i).length then T i else T' j) = (kept T (i + 1)).getD j ⟨0, 0, 0, 0, 0⟩ := fun j hj => by
          rw [hky] at hj ⊢
          simp only [List.length_append, List.length_cons, List.length_nil] at hj
          by_cases e : j = (kept T i).length
          · subst e; simp
          · rw [if_neg e, hlow j (by omega)]
            simp [List.getD, List.getElem?_append_left (show j < (kept T i).length by omega)]
        have hlen : (kept T (i + 1)).length = (kept T i).length + 1 := by rw [hky]; simp
        have hhigh' : ∀ j, i + 1 ≤ j → (if j = (kept T i).length then T i else T' j) = T j := fun j hj => by rw [if_neg (by omega)]; exact hhigh j (by omega)
        have HF : Hid _ := And.intro hlow' (And.intro hhigh' hlen)
        have HS : Hid _ := And.intro hst.1 (hW.trans hst.2)
        obtain ⟨e0, he0⟩ := Option.isSome_iff_exists.1 (hth ((kept T i).length % 1024 * 5) (by omega)).1
        obtain ⟨e1, he1⟩ := Option.isSome_iff_exists.1 (hth ((kept T i).length % 1024 * 5 + 1) (by omega)).1
        obtain ⟨e2, he2⟩ := Option.isSome_iff_exists.1 (hth ((kept T i).length % 1024 * 5 + 2) (by omega)).1
        obtain ⟨e3, he3⟩ := Option.isSome_iff_exists.1 (hth ((kept T i).length % 1024 * 5 + 3) (by omega)).1
        obtain ⟨e4, he4⟩ := Option.isSome_iff_exists.1 (hth ((kept T i).length % 1024 * 5 + 4) (by omega)).1
        have fz0 := (hth ((kept T i).length % 1024 * 5) (by omega)).2
        have fz1 := (hth ((kept T i).length % 1024 * 5 + 1) (by omega)).2
        have fz2 := (hth ((kept T i).length % 1024 * 5 + 2) (by omega)).2
        have fz3 := (hth ((kept T i).length % 1024 * 5 + 3) (by omega)).2
        have fz4 := (hth ((kept T i).length % 1024 * 5 + 4) (by omega)).2
        rw [Nat.zero_add] at he0 he1 he2 he3 he4 fz0 fz1 fz2 fz3 fz4
        clear hc hst hth hky hlow' hlen hhigh' hlow hhigh hL hTi htc hW
        generalize T i = t at *
        generalize (kept T i).length = m at *
        go_wp2_with fail
        refine hat.mono ?_
        rintro e w1 ⟨rfl, hw1⟩
        rw [hw1]
        clear hw1
        go_wp2_with fail
        go_region_with (go_at_call 29; refine hatm.mono ?_; rintro e w1 ⟨rfl, hw1⟩; rw [hw1]; clear hw1)
        all_goals
          go_wp2
          go_roundw
          case rel =>
            have hs := HS.out
            rw [setCells5] at hs
            exact ⟨i + 1, fun j => if j = m then t else T' j, by omega, by go_num, by rw [HF.out.2.2]; go_num, hs.1.drew, HF.out.1, HF.out.2.1, hs.2.drew⟩
          case measure => simp [intOf]; omega
      · have hkn := kept_no hcn
        have HF : Hid ((kept T (i + 1)) = kept T i) := hkn
        clear hkn
        generalize T i = t at *
        go_wp2_with fail
        refine hat.mono ?_
        rintro e w1 ⟨rfl, hw1⟩
        rw [hw1]
        clear hw1
        go_wp2
        go_roundw
        case rel => exact ⟨i + 1, T', by omega, by go_num, by rw [HF.out], hL, by rw [HF.out]; exact hlow, fun j hj => hhigh j (by omega), hW⟩
        case measure => simp [intOf]; omega
    · obtain rfl : i = n := by omega
      go_wp2_with fail
      refine (trunc_any hL hn (kept T i).length (by omega)).mono ?_
      rintro e w1 ⟨rfl, hL1, hW1⟩
      have hfin := hL1.congr hlow
      have hwf := hW.trans hW1
      go_wp2
      go_end0
      exact ⟨rfl, hfin, hwf⟩
end
end Go.Proofs.Qxb6609061a.Line
