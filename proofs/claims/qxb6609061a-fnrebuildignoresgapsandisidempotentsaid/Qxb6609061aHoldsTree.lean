/-
  zzTreeHolds: every node of the tree is the least work of its span.
-/
import Derived.Test.Qxb6609061aHolds
import Derived.Test.Qxb6609061aCount
namespace Go.Proofs.Qxb6609061a.Line
open Go.RowKit

theorem leastW_bd (W : Nat → Int) (lo : Nat) : ∀ k, (∀ i, lo ≤ i → i < lo + k → 0 ≤ W i) → 0 ≤ leastW W lo k ∧ leastW W lo k ≤ 18446744073709551615
  | 0, _ => by simp [leastW, gone]
  | k + 1, h => by
    have ih := leastW_bd W lo k (fun i h1 h2 => h i h1 (by omega))
    have hw := h (lo + k) (by omega) (by omega)
    unfold leastW
    omega

set_option maxHeartbeats 1600000 in
set_option maxRecDepth 100000 in
theorem tree_any (m : Nat) (hm : m ≤ 65536) (T : Nat → Task) (F : Nat → Int) (h : IsTree (leafOf T m) (lvs m) F) (hc : ∀ j, j < m → 0 < (T j).count) (hw : ∀ j, j < m → 0 ≤ (T j).work ∧ (T j).work ≤ 9223372036854775807) (bl cl ck : Nat) (ak : Option Addr) (w : World)
    (HF : ∀ j, j < 2 * lvs m → w.cell? ⟨bl, j, none⟩ = some (.int .u64 (F j))) (HK : Arr w ak m fun j => (T j).work) :
    Calls Try.prog 13 #[.slice (some ⟨bl, 0, none⟩) (2 * lvs m) cl, .slice ak m ck] w fun e w' => e = .returned (.bool true) ∧ w' = w := by
  obtain ⟨⟨l1, l2, l3, l4, _⟩, l5⟩ := lvs_facts m hm
  have tn := tree_node h hc
  have z0 := h.zero
  generalize lvs m = L at *
  have cp := isPow2_any L l2 l4
  have q1 : Int.tdiv (2 * (L : Int)) 2 = L := by rw [Int.tdiv_eq_ediv_of_nonneg (by omega)]; omega
  have q2 : Int.tmod (2 * (L : Int)) 2 = 0 := by rw [Int.tmod_eq_emod_of_nonneg (by omega)]; omega
  have q3 : Int.tdiv (L : Int) 2 = ((L / 2 : Nat) : Int) := by rw [Int.tdiv_eq_ediv_of_nonneg (by omega)]; omega
  have f0 := HF 0 (by omega)
  rw [z0] at f0
  generalize hL2 : L / 2 = L2 at *
  have HL2 : Hid (L / 2 = L2) := hL2
  have t1 : ¬ ((L : Int) * 8 < 2 * (m : Int)) := by omega
  have t2 : ¬ (1 < (L : Int) ∧ 2 * (m : Int) ≤ (L2 : Int) * 8) := by omega
  clear hL2 z0
  go_enter Try.func13, Try.ntmps13
  go_wp2_with (go_at_call 30; refine (cp _).mono ?_; rintro e w' ⟨rfl, hw'⟩; obtain rfl := hw'.symm)
  · go_loopw [8] (fun v wr => wr = w ∧ ∃ k : Nat, 1 ≤ k ∧ k ≤ 2 * L ∧ v = .int .i64 k) (fun v _ => 2 * L - (intOf v).toNat)
    case atStart => exact ⟨rfl, 1, by omega, by omega, rfl⟩
    case round =>
      obtain ⟨hw1, k, hk1, hk2, rfl⟩ := hrel
      obtain rfl : w = wr := hw1.symm
      by_cases hlt : k < 2 * L
      · go_wp2
        go_loopw [9, 10] (fun v9 v10 wr => wr = w ∧ ∃ lo hi : Nat, v9 = .int .i64 lo ∧ v10 = .int .i64 hi ∧ Hid (Span k L lo hi)) (fun v9 _ _ => 2 * L - (intOf v9).toNat)
        case atStart => exact ⟨rfl, k, k, rfl, rfl, Span.start k L⟩
        case round =>
          obtain ⟨hw2, lo, hi, rfl, rfl, hsp⟩ := hrel
          obtain rfl : w = wr := hw2.symm
          have htop := Span.top hsp hlt
          have hlo : lo ≤ hi := by
            obtain ⟨d, e1, e2, _⟩ := (show Span k L lo hi from hsp)
            have : 0 < 2 ^ d := Nat.two_pow_pos d
            rw [Nat.add_mul, Nat.one_mul] at e2
            omega
          by_cases hll : lo < L
          · have hs2 : Hid (Span k L (2 * lo) (2 * hi + 1)) := Span.step hsp hk1 l4 hll
            have hlo0 : 0 < lo := by
              obtain ⟨d, e1, _, _⟩ := (show Span k L lo hi from hsp)
              rw [e1]; exact Nat.mul_pos hk1 (Nat.two_pow_pos d)
            clear hsp
            go_wp2
            go_roundw
            case rel => exact ⟨trivial, 2 * lo, 2 * hi + 1, by go_num, by go_num, hs2⟩
            case measure => simp [intOf]; omega
          · have hnode : F k = leastW (fun j => (T j).work) (min m ((lo - L) * 8)) (min m ((hi + 1 - L) * 8) - min m ((lo - L) * 8)) := Span.node hsp h hc hk1 hlt hll
            have fk := HF k hlt
            rw [hnode] at fk
            clear hsp hnode
            obtain ⟨s, hs⟩ : ∃ s, s = lo - L := ⟨_, rfl⟩
            obtain ⟨t, ht⟩ : ∃ t, t = hi + 1 - L := ⟨_, rfl⟩
            rw [← hs, ← ht] at fk
            have r1 : (lo : Int) - (L : Int) = (s : Int) := by omega
            have r2 : (hi : Int) - (L : Int) + 1 = (t : Int) := by omega
            have hs3 : s ≤ 65536 := by omega
            have ht3 : t ≤ 65536 := by omega
            have hst1 : s ≤ t := by omega
            clear hs ht
            by_cases hend : m < t * 8
            · go_wp2
              go_loopw [13, 14] (fun v13 v14 wr => wr = w ∧ ∃ j : Nat, (s * 8 + j ≤ m ∨ j = 0) ∧ v14 = .int .i64 ((s * 8 + j : Nat) : Int) ∧ v13 = .int .u64 (leastW (fun j => (T j).work) (s * 8) j)) (fun _ v14 _ => m - (intOf v14).toNat)
              case atStart => exact ⟨rfl, 0, .inr rfl, by go_num, rfl⟩
              case round =>
                obtain ⟨hw3, j, hj, rfl, rfl⟩ := hrel
                obtain rfl : w = wr := hw3.symm
                by_cases hjl : s * 8 + j < m
                · obtain ⟨b2, rfl, I2⟩ : ∃ b, ak = some ⟨b, 0, none⟩ ∧ ∀ j, j < m → w.cell? ⟨b, j, none⟩ = some (.int .i64 (T j).work) := by
                    rcases HK with h | h
                    · omega
                    · exact h
                  have e2 := I2 (s * 8 + j) (by omega)
                  have hwj := hw (s * 8 + j) (by omega)
                  have hst : Hid (leastW (fun j => (T j).work) (s * 8) (j + 1) = min (leastW (fun j => (T j).work) (s * 8) j) (T (s * 8 + j)).work) := rfl
                  have hbd := leastW_bd (fun j => (T j).work) (s * 8) j (fun i h1 h2 => (hw i (by omega)).1)
                  generalize (T (s * 8 + j)).work = wk at *
                  generalize leastW (fun j => (T j).work) (s * 8) j = z at *
                  clear I2 fk
                  by_cases hmn : wk < z
                  · have hst2 : Hid (leastW (fun j => (T j).work) (s * 8) (j + 1) = wk) := (show leastW (fun j => (T j).work) (s * 8) (j + 1) = wk by rw [show leastW (fun j => (T j).work) (s * 8) (j + 1) = _ from hst]; omega)
                    go_wp2
                    go_roundw
                    case rel => exact ⟨trivial, j + 1, .inl (by omega), by go_num, by rw [show leastW (fun j => (T j).work) (s * 8) (j + 1) = wk from hst2]⟩
                    case measure => simp [intOf]; omega
                  · have hst2 : Hid (leastW (fun j => (T j).work) (s * 8) (j + 1) = z) := (show leastW (fun j => (T j).work) (s * 8) (j + 1) = z by rw [show leastW (fun j => (T j).work) (s * 8) (j + 1) = _ from hst]; omega)
                    go_wp2
                    go_roundw
                    case rel => exact ⟨trivial, j + 1, .inl (by omega), by go_num, by rw [show leastW (fun j => (T j).work) (s * 8) (j + 1) = z from hst2]⟩
                    case measure => simp [intOf]; omega
                · have hfin : leastW (fun j => (T j).work) (min m (s * 8)) (min m (t * 8) - min m (s * 8)) = leastW (fun j => (T j).work) (s * 8) j := by
                    by_cases hsm : s * 8 ≤ m
                    · rw [show min m (s * 8) = s * 8 by omega, show min m (t * 8) - s * 8 = j by omega]
                    · rw [show min m (t * 8) - min m (s * 8) = 0 by omega, show j = 0 by omega]; rfl
                  rw [hfin] at fk
                  generalize leastW (fun j => (T j).work) (s * 8) j = z at *
                  clear hfin
                  have hzz : (z != z) = false := by simp
                  go_wp2
                  all_goals first | (go_roundw; (case rel => exact ⟨trivial, k + 1, by omega, by omega, by go_num⟩); (case measure => (simp [intOf]; omega))) | (exfalso; simp_all; done)
            · go_wp2
              go_loopw [13, 14] (fun v13 v14 wr => wr = w ∧ ∃ j : Nat, (s * 8 + j ≤ t * 8 ∨ j = 0) ∧ v14 = .int .i64 ((s * 8 + j : Nat) : Int) ∧ v13 = .int .u64 (leastW (fun j => (T j).work) (s * 8) j)) (fun _ v14 _ => t * 8 - (intOf v14).toNat)
              case atStart => exact ⟨rfl, 0, .inr rfl, by go_num, rfl⟩
              case round =>
                obtain ⟨hw3, j, hj, rfl, rfl⟩ := hrel
                obtain rfl : w = wr := hw3.symm
                by_cases hjl : s * 8 + j < t * 8
                · obtain ⟨b2, rfl, I2⟩ : ∃ b, ak = some ⟨b, 0, none⟩ ∧ ∀ j, j < m → w.cell? ⟨b, j, none⟩ = some (.int .i64 (T j).work) := by
                    rcases HK with h | h
                    · omega
                    · exact h
                  have e2 := I2 (s * 8 + j) (by omega)
                  have hwj := hw (s * 8 + j) (by omega)
                  have hst : Hid (leastW (fun j => (T j).work) (s * 8) (j + 1) = min (leastW (fun j => (T j).work) (s * 8) j) (T (s * 8 + j)).work) := rfl
                  have hbd := leastW_bd (fun j => (T j).work) (s * 8) j (fun i h1 h2 => (hw i (by omega)).1)
                  generalize (T (s * 8 + j)).work = wk at *
                  generalize leastW (fun j => (T j).work) (s * 8) j = z at *
                  clear I2 fk
                  by_cases hmn : wk < z
                  · have hst2 : Hid (leastW (fun j => (T j).work) (s * 8) (j + 1) = wk) := (show leastW (fun j => (T j).work) (s * 8) (j + 1) = wk by rw [show leastW (fun j => (T j).work) (s * 8) (j + 1) = _ from hst]; omega)
                    go_wp2
                    go_roundw
                    case rel => exact ⟨trivial, j + 1, .inl (by omega), by go_num, by rw [show leastW (fun j => (T j).work) (s * 8) (j + 1) = wk from hst2]⟩
                    case measure => simp [intOf]; omega
                  · have hst2 : Hid (leastW (fun j => (T j).work) (s * 8) (j + 1) = z) := (show leastW (fun j => (T j).work) (s * 8) (j + 1) = z by rw [show leastW (fun j => (T j).work) (s * 8) (j + 1) = _ from hst]; omega)
                    go_wp2
                    go_roundw
                    case rel => exact ⟨trivial, j + 1, .inl (by omega), by go_num, by rw [show leastW (fun j => (T j).work) (s * 8) (j + 1) = z from hst2]⟩
                    case measure => simp [intOf]; omega
                · have hfin : leastW (fun j => (T j).work) (min m (s * 8)) (min m (t * 8) - min m (s * 8)) = leastW (fun j => (T j).work) (s * 8) j := by
                    by_cases hsm : s * 8 ≤ m
                    · rw [show min m (s * 8) = s * 8 by omega, show min m (t * 8) - s * 8 = j by omega]
                    · rw [show min m (t * 8) - min m (s * 8) = 0 by omega, show j = 0 by omega]; rfl
                  rw [hfin] at fk
                  generalize leastW (fun j => (T j).work) (s * 8) j = z at *
                  clear hfin
                  have hzz : (z != z) = false := by simp
                  go_wp2
                  all_goals first | (go_roundw; (case rel => exact ⟨trivial, k + 1, by omega, by omega, by go_num⟩); (case measure => (simp [intOf]; omega))) | (exfalso; simp_all; done)
      · go_wp2
        go_ret
        exact ⟨rfl, rfl⟩
  · go_loopw [8] (fun v wr => wr = w ∧ ∃ k : Nat, 1 ≤ k ∧ k ≤ 2 * L ∧ v = .int .i64 k) (fun v _ => 2 * L - (intOf v).toNat)
    case atStart => exact ⟨rfl, 1, by omega, by omega, rfl⟩
    case round =>
      obtain ⟨hw1, k, hk1, hk2, rfl⟩ := hrel
      obtain rfl : w = wr := hw1.symm
      by_cases hlt : k < 2 * L
      · go_wp2
        go_loopw [9, 10] (fun v9 v10 wr => wr = w ∧ ∃ lo hi : Nat, v9 = .int .i64 lo ∧ v10 = .int .i64 hi ∧ Hid (Span k L lo hi)) (fun v9 _ _ => 2 * L - (intOf v9).toNat)
        case atStart => exact ⟨rfl, k, k, rfl, rfl, Span.start k L⟩
        case round =>
          obtain ⟨hw2, lo, hi, rfl, rfl, hsp⟩ := hrel
          obtain rfl : w = wr := hw2.symm
          have htop := Span.top hsp hlt
          have hlo : lo ≤ hi := by
            obtain ⟨d, e1, e2, _⟩ := (show Span k L lo hi from hsp)
            have : 0 < 2 ^ d := Nat.two_pow_pos d
            rw [Nat.add_mul, Nat.one_mul] at e2
            omega
          by_cases hll : lo < L
          · have hs2 : Hid (Span k L (2 * lo) (2 * hi + 1)) := Span.step hsp hk1 l4 hll
            have hlo0 : 0 < lo := by
              obtain ⟨d, e1, _, _⟩ := (show Span k L lo hi from hsp)
              rw [e1]; exact Nat.mul_pos hk1 (Nat.two_pow_pos d)
            clear hsp
            go_wp2
            go_roundw
            case rel => exact ⟨trivial, 2 * lo, 2 * hi + 1, by go_num, by go_num, hs2⟩
            case measure => simp [intOf]; omega
          · have hnode : F k = leastW (fun j => (T j).work) (min m ((lo - L) * 8)) (min m ((hi + 1 - L) * 8) - min m ((lo - L) * 8)) := Span.node hsp h hc hk1 hlt hll
            have fk := HF k hlt
            rw [hnode] at fk
            clear hsp hnode
            obtain ⟨s, hs⟩ : ∃ s, s = lo - L := ⟨_, rfl⟩
            obtain ⟨t, ht⟩ : ∃ t, t = hi + 1 - L := ⟨_, rfl⟩
            rw [← hs, ← ht] at fk
            have r1 : (lo : Int) - (L : Int) = (s : Int) := by omega
            have r2 : (hi : Int) - (L : Int) + 1 = (t : Int) := by omega
            have hs3 : s ≤ 65536 := by omega
            have ht3 : t ≤ 65536 := by omega
            have hst1 : s ≤ t := by omega
            clear hs ht
            by_cases hend : m < t * 8
            · go_wp2
              go_loopw [13, 14] (fun v13 v14 wr => wr = w ∧ ∃ j : Nat, (s * 8 + j ≤ m ∨ j = 0) ∧ v14 = .int .i64 ((s * 8 + j : Nat) : Int) ∧ v13 = .int .u64 (leastW (fun j => (T j).work) (s * 8) j)) (fun _ v14 _ => m - (intOf v14).toNat)
              case atStart => exact ⟨rfl, 0, .inr rfl, by go_num, rfl⟩
              case round =>
                obtain ⟨hw3, j, hj, rfl, rfl⟩ := hrel
                obtain rfl : w = wr := hw3.symm
                by_cases hjl : s * 8 + j < m
                · obtain ⟨b2, rfl, I2⟩ : ∃ b, ak = some ⟨b, 0, none⟩ ∧ ∀ j, j < m → w.cell? ⟨b, j, none⟩ = some (.int .i64 (T j).work) := by
                    rcases HK with h | h
                    · omega
                    · exact h
                  have e2 := I2 (s * 8 + j) (by omega)
                  have hwj := hw (s * 8 + j) (by omega)
                  have hst : Hid (leastW (fun j => (T j).work) (s * 8) (j + 1) = min (leastW (fun j => (T j).work) (s * 8) j) (T (s * 8 + j)).work) := rfl
                  have hbd := leastW_bd (fun j => (T j).work) (s * 8) j (fun i h1 h2 => (hw i (by omega)).1)
                  generalize (T (s * 8 + j)).work = wk at *
                  generalize leastW (fun j => (T j).work) (s * 8) j = z at *
                  clear I2 fk
                  by_cases hmn : wk < z
                  · have hst2 : Hid (leastW (fun j => (T j).work) (s * 8) (j + 1) = wk) := (show leastW (fun j => (T j).work) (s * 8) (j + 1) = wk by rw [show leastW (fun j => (T j).work) (s * 8) (j + 1) = _ from hst]; omega)
                    go_wp2
                    go_roundw
                    case rel => exact ⟨trivial, j + 1, .inl (by omega), by go_num, by rw [show leastW (fun j => (T j).work) (s * 8) (j + 1) = wk from hst2]⟩
                    case measure => simp [intOf]; omega
                  · have hst2 : Hid (leastW (fun j => (T j).work) (s * 8) (j + 1) = z) := (show leastW (fun j => (T j).work) (s * 8) (j + 1) = z by rw [show leastW (fun j => (T j).work) (s * 8) (j + 1) = _ from hst]; omega)
                    go_wp2
                    go_roundw
                    case rel => exact ⟨trivial, j + 1, .inl (by omega), by go_num, by rw [show leastW (fun j => (T j).work) (s * 8) (j + 1) = z from hst2]⟩
                    case measure => simp [intOf]; omega
                · have hfin : leastW (fun j => (T j).work) (min m (s * 8)) (min m (t * 8) - min m (s * 8)) = leastW (fun j => (T j).work) (s * 8) j := by
                    by_cases hsm : s * 8 ≤ m
                    · rw [show min m (s * 8) = s * 8 by omega, show min m (t * 8) - s * 8 = j by omega]
                    · rw [show min m (t * 8) - min m (s * 8) = 0 by omega, show j = 0 by omega]; rfl
                  rw [hfin] at fk
                  generalize leastW (fun j => (T j).work) (s * 8) j = z at *
                  clear hfin
                  have hzz : (z != z) = false := by simp
                  go_wp2
                  all_goals first | (go_roundw; (case rel => exact ⟨trivial, k + 1, by omega, by omega, by go_num⟩); (case measure => (simp [intOf]; omega))) | (exfalso; simp_all; done)
            · go_wp2
      · go_wp2
        go_ret
        exact ⟨rfl, rfl⟩

end Go.Proofs.Qxb6609061a.Line
