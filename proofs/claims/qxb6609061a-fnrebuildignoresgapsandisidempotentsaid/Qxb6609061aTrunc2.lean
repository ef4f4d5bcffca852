import Derived.Test.Qxb6609061aTrunc
namespace Go.Proofs.Qxb6609061a.Line
open Go.RowKit

theorem cset {w : World} {p : Addr} {u : Value} (h : w.cell? p = some u) {a : Addr} (v : Value) (hne : a ≠ p) : (w.setCell a v).cell? p = some u := by
  rw [World.cell?_setCell_other _ _ _ _ hne]; exact h

theorem csets {w : World} {b o : Nat} {p : Addr} {u : Value} (h : w.cell? p = some u) (vs : List Value) (hne : p.block ≠ b ∨ p.off < o) : (w.setCells b o vs).cell? p = some u := by
  rw [World.cell?_setCells_out b vs o w p (fun hb _ => by
    rcases hne with h | h
    · exact absurd hb h
    · exact .inl h)]
  exact h

theorem rset {w : World} {b o : Nat} {cs : List Value} (h : w.rangeAt b o cs) {a : Addr} (v : Value) (ha : a.block ≠ b) : (w.setCell a v).rangeAt b o cs := range_setCell h ha v

theorem rsets {w : World} {b o b' o' : Nat} {cs vs : List Value} (h : w.rangeAt b o cs) (hb : b ≠ b') : (w.setCells b' o' vs).rangeAt b o cs :=
  World.rangeAt_setCells_apart h _ _ _ (.inl hb)

theorem zero76 (w : World) : (zeroValue 76).run Try.prog w = .ok (.slice none 0 0) w := by kernel_rfl

theorem clear_run (w : World) (g o c cap : Nat) (h : w.there g o c) (ty : TypeId) :
    (Builtin.clear_ #[71] ty #[.slice (some ⟨g, o, none⟩) c cap]).run Try.prog w = .ok (.tuple #[]) (w.setCells g o (List.replicate c (.slice none 0 0))) := by
  by_cases hc : c = 0
  · subst hc
    simp [Builtin.clear_, run_underlying Try.underlying71, World.setCells]
  · exact Lib.run_clear_slice w 71 76 ty _ Try.underlying71 zero76 rfl rfl g o c cap (by omega) (fun j hj => (h j hj).1) (fun j hj => (h j hj).2)

theorem pgs_eq {m k : Nat} (h1 : 1024 * k < m) (h2 : m ≤ 1024 * k + 1024) : pgs m = k + 1 := by unfold pgs; omega

section
variable {w : World} {lo hi q : Nat} {pa : Option Addr} {g cap : Nat} {pb : Nat → Nat} {n : Nat} {T : Nat → Task} {least : Value} {held waiting first : Int}

/-- What truncate leaves, m > 0. -/
def truncW (w : World) (q g k cap pbk m c : Nat) : World :=
  (((w.setCells g (k + 1) (List.replicate c (.slice none 0 0))).setCell ⟨q, 0, none⟩ (.slice (some ⟨g, 0, none⟩) (k + 1) cap)).setCell ⟨g, k, none⟩ (.slice (some ⟨pbk, 0, none⟩) (m - k * 1024) 1024)).setCell ⟨q, 1, none⟩ (.int .i64 m)

theorem trunc_line (h : Line w lo hi q pa g cap pb n T least held waiting first) (m k c : Nat) (hmn : m ≤ n) (hk1 : 1024 * k < m) (hk2 : m ≤ 1024 * k + 1024) (hc : pgs n = k + 1 + c) :
    Line (truncW w q g k cap (pb k) m c) lo hi q pa g cap pb m T least held waiting first ∧ Within lo hi w (truncW w q g k cap (pb k) m c) := by
  have hpm := pgs_eq hk1 hk2
  obtain ⟨hpa, hg1, hg2, hgq⟩ := h.ga (by omega)
  have hw : Within lo hi w (truncW w q g k cap (pb k) m c) :=
    ((((Within.setCells (.inr ⟨hg1, hg2⟩) _ _ _ (Within.refl lo hi w)).setCell (p := ⟨q, 0, none⟩) (.inr h.hq) _).setCell (p := ⟨g, k, none⟩) (.inr ⟨hg1, hg2⟩) _).setCell (p := ⟨q, 1, none⟩) (.inr h.hq) _)
  have q2 : ∀ {j : Nat} {u : Value}, 2 ≤ j → w.cell? ⟨q, j, none⟩ = some u → (truncW w q g k cap (pb k) m c).cell? ⟨q, j, none⟩ = some u := fun {j u} hj hu =>
    cset (cset (cset (csets hu _ (.inl (Ne.symm hgq))) _ (by intro e; simp only [Addr.mk.injEq] at e; omega)) _ (by intro e; simp only [Addr.mk.injEq] at e; omega)) _ (by intro e; simp only [Addr.mk.injEq] at e; omega)
  have gold := h.page k (by omega)
  refine ⟨⟨h.hq, Nat.le_trans h.top hw.size, ?_, ?_, q2 (by omega) h.head2, q2 (by omega) h.head3, q2 (by omega) h.head4, q2 (by omega) h.head5, ?_, .inr ⟨hpa, hg1, hg2, hgq⟩, by rw [hpm]; have := h.hcap; omega, ?_, ?_, ?_, ?_, ?_, ?_⟩, hw⟩
  · rw [hpa, hpm]
    refine cset (cset (World.cell?_setCell_same _ _ _ (csets h.head0 _ (.inl (Ne.symm hgq)))) _ ?_) _ ?_
    · intro e; simp only [Addr.mk.injEq] at e; omega
    · intro e; simp only [Addr.mk.injEq] at e; omega
  · exact World.cell?_setCell_same _ _ _ (cset (cset (csets h.head1 _ (.inl (Ne.symm hgq))) _ (by intro e; simp only [Addr.mk.injEq] at e; omega)) _ (by intro e; simp only [Addr.mk.injEq] at e; omega))
  · exact there_setCell (there_setCell (there_setCell (World.there_setCells h.qth _ _ _) _ _) _ _) _ _
  · rw [hpm]
    exact there_setCell (there_setCell (there_setCell (World.there_setCells (there_sub h.gth (Nat.le_refl _) (by omega)) _ _ _) _ _) _ _) _ _
  · intro j hj
    rw [hpm] at hj
    by_cases e : j = k
    · subst e
      have e2 : min 1024 (m - 1024 * j) = m - j * 1024 := by omega
      rw [e2]
      exact cset (World.cell?_setCell_same _ _ _ (cset (csets gold _ (.inr (by show j < j + 1; omega))) _ (by intro e; simp only [Addr.mk.injEq] at e; omega))) _ (by intro e; simp only [Addr.mk.injEq] at e; omega)
    · have hp := h.page j (by omega)
      have e2 : min 1024 (m - 1024 * j) = min 1024 (n - 1024 * j) := by omega
      rw [e2]
      exact cset (cset (cset (csets hp _ (.inr (by show j < k + 1; omega))) _ (by intro e; simp only [Addr.mk.injEq] at e; omega)) _ (by intro e; simp only [Addr.mk.injEq] at e; omega)) _ (by intro e; simp only [Addr.mk.injEq] at e; omega)
  · exact fun j hj => h.pbr j (by omega)
  · exact fun j j' hj hj' => h.inj j j' (by omega) (by omega)
  · intro j hj
    exact there_setCell (there_setCell (there_setCell (World.there_setCells (h.pth j (by omega)) _ _ _) _ _) _ _) _ _
  · intro i hi'
    have hp := h.pbr (i / 1024) (by have := pgs_lt (Nat.lt_of_lt_of_le hi' hmn); omega)
    exact rset (rset (rset (rsets (h.task i (by omega)) hp.2.2.2) _ (Ne.symm hp.2.2.1)) _ (Ne.symm hp.2.2.2)) _ (Ne.symm hp.2.2.1)

/-- What truncate leaves of a line cut to nothing. -/
theorem zero_line (h : Line w lo hi q pa g cap pb n T least held waiting first) {w1 : World} {pa' : Option Addr} (hw1 : Within lo hi w w1) (hpa' : (pa' = none ∧ cap = 0) ∨ (pa' = some ⟨g, 0, none⟩ ∧ lo ≤ g ∧ g < hi ∧ g ≠ q))
    (h0 : w1.cell? ⟨q, 0, none⟩ = some (.slice pa' 0 cap)) (h1 : w1.cell? ⟨q, 1, none⟩ = some (.int .i64 0)) (h2 : w1.cell? ⟨q, 2, none⟩ = some least) (h3 : w1.cell? ⟨q, 3, none⟩ = some (.int .i64 held)) (h4 : w1.cell? ⟨q, 4, none⟩ = some (.int .i64 waiting)) (h5 : w1.cell? ⟨q, 5, none⟩ = some (.int .i64 first)) (hth : w1.there q 0 6) :
    Line w1 lo hi q pa' g cap pb 0 T least held waiting first :=
  ⟨h.hq, Nat.le_trans h.top hw1.size, h0, h1, h2, h3, h4, h5, hth, hpa'.imp (fun h => ⟨rfl, h⟩) id, Nat.zero_le _, fun _ hj => absurd hj (Nat.not_lt_zero _), fun _ hk => absurd hk (Nat.not_lt_zero _), fun _ hk => absurd hk (Nat.not_lt_zero _), fun _ _ hj => absurd hj (Nat.not_lt_zero _), fun _ hk => absurd hk (Nat.not_lt_zero _), fun _ hi' => absurd hi' (Nat.not_lt_zero _)⟩

/-- 'truncate': the first m tasks stay. -/
theorem trunc_any (h : Line w lo hi q pa g cap pb n T least held waiting first) (hn : n ≤ 65536) (m : Nat) (hmn : m ≤ n) :
    Calls Try.prog 37 #[.pointer (some ⟨q, 0, none⟩), .int .i64 m] w fun e w' => e = .returned (.tuple #[]) ∧ Line w' lo hi q pa g cap pb m T least held waiting first ∧ Within lo hi w w' := by
  have fq : ∀ j, j < 6 → w.frozen? ⟨q, j, none⟩ = false := fun j hj => there_frozen h.qth (Nat.zero_le _) (by omega)
  by_cases hm0 : m = 0
  · subst hm0
    rcases h.hpa with ⟨h1, h2, h3⟩ | ⟨h1, hg1, hg2, hgq⟩
    · subst h1 h2 h3
      refine (trunc_nil q 0 w h.head0 (fq 0 (by omega)) h.head1 (fq 1 (by omega))).mono ?_
      rintro e w' ⟨rfl, hw⟩
      have hwi : Within lo hi w w' := by rw [hw]; exact ((Within.refl _ _ _).setCell (p := ⟨q, 0, none⟩) (.inr h.hq) _).setCell (p := ⟨q, 1, none⟩) (.inr h.hq) _
      refine ⟨rfl, zero_line h hwi (.inl ⟨rfl, rfl⟩) ?_ ?_ ?_ ?_ ?_ ?_ ?_, hwi⟩
      · rw [hw]; exact cset (World.cell?_setCell_same _ _ _ h.head0) _ (by intro e; simp only [Addr.mk.injEq] at e; omega)
      · rw [hw]; exact World.cell?_setCell_same _ _ _ (cset h.head1 _ (by intro e; simp only [Addr.mk.injEq] at e; omega))
      · rw [hw]; exact cset (cset h.head2 _ (by intro e; simp only [Addr.mk.injEq] at e; omega)) _ (by intro e; simp only [Addr.mk.injEq] at e; omega)
      · rw [hw]; exact cset (cset h.head3 _ (by intro e; simp only [Addr.mk.injEq] at e; omega)) _ (by intro e; simp only [Addr.mk.injEq] at e; omega)
      · rw [hw]; exact cset (cset h.head4 _ (by intro e; simp only [Addr.mk.injEq] at e; omega)) _ (by intro e; simp only [Addr.mk.injEq] at e; omega)
      · rw [hw]; exact cset (cset h.head5 _ (by intro e; simp only [Addr.mk.injEq] at e; omega)) _ (by intro e; simp only [Addr.mk.injEq] at e; omega)
      · rw [hw]; exact there_setCell (there_setCell h.qth _ _) _ _
    · subst h1
      have hcl := clear_run w g 0 (pgs n) cap h.gth
      have c0 := csets (b := g) (o := 0) h.head0 (List.replicate (pgs n) (.slice none 0 0)) (.inl (Ne.symm hgq))
      have c1 := csets (b := g) (o := 0) h.head1 (List.replicate (pgs n) (.slice none 0 0)) (.inl (Ne.symm hgq))
      refine (trunc_zero q g cap (pgs n) n w _ h.head0 hcl c0 (by rw [World.frozen?_setCells]; exact fq 0 (by omega)) c1 (by rw [World.frozen?_setCells]; exact fq 1 (by omega))).mono ?_
      rintro e w' ⟨rfl, hw⟩
      have hwi : Within lo hi w w' := by rw [hw]; exact ((Within.setCells (.inr ⟨hg1, hg2⟩) _ _ _ (Within.refl _ _ _)).setCell (p := ⟨q, 0, none⟩) (.inr h.hq) _).setCell (p := ⟨q, 1, none⟩) (.inr h.hq) _
      have q2 : ∀ {j : Nat} {u : Value}, 2 ≤ j → w.cell? ⟨q, j, none⟩ = some u → w'.cell? ⟨q, j, none⟩ = some u := fun {j u} hj hu => by
        rw [hw]; exact cset (cset (csets hu _ (.inl (Ne.symm hgq))) _ (by intro e; simp only [Addr.mk.injEq] at e; omega)) _ (by intro e; simp only [Addr.mk.injEq] at e; omega)
      refine ⟨rfl, zero_line h hwi (.inr ⟨rfl, hg1, hg2, hgq⟩) ?_ ?_ (q2 (by omega) h.head2) (q2 (by omega) h.head3) (q2 (by omega) h.head4) (q2 (by omega) h.head5) ?_, hwi⟩
      · rw [hw]; exact cset (World.cell?_setCell_same _ _ _ c0) _ (by intro e; simp only [Addr.mk.injEq] at e; omega)
      · rw [hw]; exact World.cell?_setCell_same _ _ _ (cset c1 _ (by intro e; simp only [Addr.mk.injEq] at e; omega))
      · rw [hw]; exact there_setCell (there_setCell (World.there_setCells h.qth _ _ _) _ _) _ _
  · obtain ⟨k, hk1, hk2⟩ : ∃ k, 1024 * k < m ∧ m ≤ 1024 * k + 1024 := ⟨(m - 1) / 1024, by omega, by omega⟩
    obtain ⟨c, hc⟩ : ∃ c, pgs n = k + 1 + c := ⟨pgs n - (k + 1), by have := pgs_eq hk1 hk2; unfold pgs at *; omega⟩
    obtain ⟨hpa, hg1, hg2, hgq⟩ := h.ga (by omega)
    have hcap := h.hcap
    have R := trunc_line h m k c hmn hk1 hk2 hc
    have h0 := h.head0
    rw [hpa, hc] at h0
    have gold := h.page k (by omega)
    have gfz : w.frozen? ⟨g, k, none⟩ = false := there_frozen h.gth (Nat.zero_le _) (by omega)
    have c0 := csets (b := g) (o := k + 1) h0 (List.replicate c (.slice none 0 0)) (.inl (Ne.symm hgq))
    have c1 := csets (b := g) (o := k + 1) h.head1 (List.replicate c (.slice none 0 0)) (.inl (Ne.symm hgq))
    have cg := csets (b := g) (o := k + 1) gold (List.replicate c (.slice none 0 0)) (.inr (by show k < k + 1; omega))
    have hcl : ∃ A, ((¬ cap = k + 1 ∧ A = some ⟨g, k + 1, none⟩) ∨ (cap = k + 1 ∧ A = some ⟨g, 0, none⟩)) ∧ ∀ ty, (Builtin.clear_ #[71] ty #[.slice A c (cap - (k + 1))]).run Try.prog w = .ok (.tuple #[]) (w.setCells g (k + 1) (List.replicate c (.slice none 0 0))) := by
      by_cases hck : cap = k + 1
      · have hc0 : c = 0 := by omega
        subst hc0
        exact ⟨_, .inr ⟨hck, rfl⟩, fun ty => clear_run w g 0 0 _ (fun j hj => absurd hj (Nat.not_lt_zero _)) ty⟩
      · exact ⟨_, .inl ⟨hck, rfl⟩, fun ty => clear_run w g (k + 1) c _ (there_sub h.gth (Nat.zero_le _) (by omega)) ty⟩
    obtain ⟨A, hA, hcl⟩ := hcl
    refine (trunc_cells q g m k cap (pb k) _ c n A w _ (by omega) hk1 hk2 (by omega) hA hgq h0 hcl c0 (by rw [World.frozen?_setCells]; exact fq 0 (by omega)) c1 (by rw [World.frozen?_setCells]; exact fq 1 (by omega)) cg (by rw [World.frozen?_setCells]; exact gfz)).mono ?_
    rintro e w' ⟨rfl, hw⟩
    rw [hw]
    exact ⟨rfl, R.1.keep (Nat.le_refl _) (fun _ _ _ => rfl), R.2.drew⟩

end
end Go.Proofs.Qxb6609061a.Line
