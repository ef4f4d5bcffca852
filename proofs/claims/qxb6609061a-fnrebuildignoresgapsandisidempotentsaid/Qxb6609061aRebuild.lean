import Derived.Test.Qxb6609061aBuild
namespace Go.Proofs.Qxb6609061a.Line
open Go.RowKit

section
variable {w : World} {lo hi q : Nat} {pa : Option Addr} {g cap : Nat} {pb : Nat → Nat} {n : Nat} {T : Nat → Task} {least : Value} {held waiting first : Int}

set_option maxHeartbeats 400000 in
theorem rebuild_any (h : Line w lo hi q pa g cap pb n T least held waiting first) (hn : n ≤ 65536) (hw : ∀ i, i < n → 0 ≤ (T i).work ∧ (T i).work ≤ 9223372036854775807) :
    Calls Try.prog 28 #[.pointer (some ⟨q, 0, none⟩)] w fun e w' => e = .returned (.tuple #[]) ∧ ∃ (lb : Nat) (F : Nat → Int), Line w' lo hi q pa g cap pb (kept T n).length (fun j => (kept T n).getD j ⟨0, 0, 0, 0, 0⟩) (.slice (some ⟨lb, 0, none⟩) (2 * lvs (kept T n).length) (2 * lvs (kept T n).length)) held waiting 0 ∧ Within lo hi w w' ∧ Cells64 w' lb (2 * lvs (kept T n).length) F ∧ IsTree (leafOf (fun j => (kept T n).getD j ⟨0, 0, 0, 0, 0⟩) (kept T n).length) (lvs (kept T n).length) F ∧ w.heap.size ≤ lb := by
  have hkl := kept_le T n
  have hkw : ∀ i, i < (kept T n).length → 0 ≤ ((kept T n).getD i ⟨0, 0, 0, 0, 0⟩).work ∧ ((kept T n).getD i ⟨0, 0, 0, 0, 0⟩).work ≤ 9223372036854775807 := fun i hi' => by
    have hm : (kept T n).getD i ⟨0, 0, 0, 0, 0⟩ ∈ kept T n := by
      simp only [List.getD, List.getElem?_eq_getElem hi', Option.getD_some]; exact List.getElem_mem _
    unfold kept at hm
    obtain ⟨hm, _⟩ := List.mem_filter.1 hm
    obtain ⟨j, hj, e⟩ := List.mem_map.1 hm
    unfold kept
    rw [← e]
    exact hw j (List.mem_range.1 hj)
  have hcp := compact_any h hn
  go_enter Try.func28, Try.ntmps28
  go_wp2_with fail
  refine hcp.mono ?_
  rintro e w1 ⟨rfl, hL1, hW1⟩
  go_wp2_with fail
  refine (build_any hL1 (by omega) hkw).mono ?_
  rintro e w2 ⟨rfl, lb, F, hL2, hW2, hC2, hT2, hlb⟩
  have hfin := hW1.trans hW2
  have hlb' : w.heap.size ≤ lb := Nat.le_trans hW1.size hlb
  go_wp2
  go_end0
  exact ⟨rfl, lb, F, hL2, hfin, hC2, hT2, hlb'⟩

set_option maxHeartbeats 400000 in
theorem zzrebuild_any (h : Line w lo hi q pa g cap pb n T least held waiting first) (hn : n ≤ 65536) (hw : ∀ i, i < n → 0 ≤ (T i).work ∧ (T i).work ≤ 9223372036854775807) :
    Calls Try.prog 10 #[.pointer (some ⟨q, 0, none⟩)] w fun e w' => e = .returned (.tuple #[]) ∧ ∃ (lb : Nat) (F : Nat → Int), Line w' lo hi q pa g cap pb (kept T n).length (fun j => (kept T n).getD j ⟨0, 0, 0, 0, 0⟩) (.slice (some ⟨lb, 0, none⟩) (2 * lvs (kept T n).length) (2 * lvs (kept T n).length)) held waiting 0 ∧ Within lo hi w w' ∧ Cells64 w' lb (2 * lvs (kept T n).length) F ∧ IsTree (leafOf (fun j => (kept T n).getD j ⟨0, 0, 0, 0, 0⟩) (kept T n).length) (lvs (kept T n).length) F ∧ w.heap.size ≤ lb := by
  have hrb := rebuild_any h hn hw
  go_enter Try.func10, Try.ntmps10
  go_wp2_with fail
  refine hrb.mono ?_
  rintro e w1 ⟨rfl, hX⟩
  have HX : Hid _ := hX
  clear hX
  go_wp2
  go_end0
  exact ⟨rfl, HX.out⟩
end
end Go.Proofs.Qxb6609061a.Line
